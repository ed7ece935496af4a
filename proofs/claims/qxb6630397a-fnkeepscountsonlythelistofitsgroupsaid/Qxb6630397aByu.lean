import Derived.Test.Qxb6630397aFit
namespace Go.Proofs.Qxb6630397a
open Go.RowKit

/-- it returns some bool -/
def BO (e : Ending) : Prop := ∃ b : Bool, e = .returned (.bool b)
/-- a setting's own block -/
abbrev obS (s : Stg) : Obj := .cells #[.string s.f, .int .i64 s.l, .int .i64 s.e, .string s.g, .string s.o, .string s.v, .bool s.h] 25

set_option maxRecDepth 50000 in
set_option maxHeartbeats 16000000 in
theorem bytes2_any (ga ka sa : Option Addr) (gc kc sc : Nat) (gs : List Grp) (kes ses : List Ent) (s : Stg) (hgl : gs.length ≤ maxLen) (hkl : kes.length ≤ maxLen) (hsl : ses.length ≤ maxLen)
    (hgo : ∀ G ∈ gs, G.n.size ≤ maxLen) (hko : ∀ E ∈ kes, E.ok) (hso : ∀ E ∈ ses, E.ok) (hs : s.ok) (w : World) (hg : GRow w ga gs) (hk : ERow w ka kes) (hse : ERow w sa ses) :
    Calls Try.prog 11 #[.slice ga gs.length gc, .slice ka kes.length kc, .slice sa ses.length sc, sv s] w fun e w' => BO e ∧ Below w.heap.size w w' := by
  have HG : Hid (GRow w ga gs) := hg
  have HGO : Hid (∀ G ∈ gs, G.n.size ≤ maxLen) := hgo
  have HK : Hid (ERow w ka kes) := hk
  have HKO : Hid (∀ E ∈ kes, E.ok) := hko
  have HS : Hid (ERow w sa ses) := hse
  have HSO : Hid (∀ E ∈ ses, E.ok) := hso
  obtain ⟨s1, s2, s3, s4⟩ := hs
  clear hg hgo hk hko hse hso
  unfold maxLen at hgl hkl hsl s1 s2 s3 s4
  have hno : BO (.returned (.bool false)) := ⟨false, rfl⟩
  have hyes : BO (.returned (.bool true)) := ⟨true, rfl⟩
  have hal : Below w.heap.size w (w.alloc (obS s)) := (Below.refl _ _).alloc (Nat.le_refl _) _
  have hs0 : StgAt (w.alloc (obS s)) w.heap.size 0 s := by unfold StgAt; go_simp
  go_enter Try.func11, Try.ntmps11
  go_wp2_with fail
  · go_ret
    exact ⟨hno, hal⟩
  generalize w.alloc (.cells #[.string s.f, .int .i64 s.l, .int .i64 s.e, .string s.g, .string s.o, .string s.v, .bool s.h] 25) = W at *
  have HS0 : Hid (StgAt W w.heap.size 0 s) := hs0
  clear hs0
  generalize hgn : gs.length = gn at *
  have HGN : Hid (gs.length = gn) := hgn
  clear hgn
  generalize hkn : kes.length = kn at *
  have HKN : Hid (kes.length = kn) := hkn
  clear hkn
  generalize hsn : ses.length = sn at *
  have HSN : Hid (ses.length = sn) := hsn
  clear hsn
  go_loopw [9, 10] (fun t i wr => ∃ (k : Nat) (z : Int), k ≤ gn ∧ i = .int .i64 k ∧ t = .int .i64 z ∧ 0 ≤ z ∧ z ≤ 1048576 ∧ W = wr) (fun _ i _ => gn - (intOf i).toNat)
  case atStart => exact ⟨0, _, by omega, rfl, rfl, by omega, by omega, by trivial⟩
  case round =>
    obtain ⟨k, z, hk, rfl, rfl, q0, q1, rfl⟩ := hrel
    by_cases hlt : k < gn
    · have hki : (k : Int) < (gn : Int) := by omega
      obtain ⟨b, o, rfl, hG⟩ := HG.out (by have := HGN.out; omega)
      obtain ⟨G, hGk⟩ : ∃ G, gs[k]? = some G := ⟨gs[k]'(by have := HGN.out; omega), by simp⟩
      obtain ⟨e0, e1⟩ := (hG k G hGk).later hal
      have s0 := HGO.out G (List.mem_of_getElem? hGk)
      clear hG hGk
      unfold maxLen at s0
      go_wp2_with fail
      all_goals as_aux_lemma => first | (go_ret; exact ⟨hno, hal⟩) | exact ⟨⟨k + 1, _, by omega, by go_num, rfl, by omega, by omega, by trivial⟩, by simp [intOf]; omega⟩
    · have hlt0 : ¬ (k : Int) < (gn : Int) := by omega
      go_wp2_with fail
      · go_ret
        exact ⟨hno, hal⟩
      · go_ret
        exact ⟨hno, hal⟩
      clear hlt0 hlt hk
      go_loopw [9, 11] (fun t i wr => ∃ (k : Nat) (z : Int), k ≤ kn ∧ i = .int .i64 k ∧ t = .int .i64 z ∧ 0 ≤ z ∧ z ≤ 1048576 ∧ W = wr) (fun _ i _ => kn - (intOf i).toNat)
      case atStart => exact ⟨0, _, by omega, rfl, rfl, by omega, by omega, by trivial⟩
      case round =>
        obtain ⟨kkn, zkn, hk, rfl, rfl, q0, q1, rfl⟩ := hrel
        by_cases hlt : kkn < kn
        · as_aux_lemma =>
          have hki : (kkn : Int) < (kn : Int) := by omega
          obtain ⟨b, o, rfl, hE⟩ := HK.out (by have := HKN.out; omega)
          obtain ⟨E, hEk⟩ : ∃ E, kes[kkn]? = some E := ⟨kes[kkn]'(by have := HKN.out; omega), by simp⟩
          obtain ⟨e0, e1, e2, e3⟩ := (hE kkn E hEk).later hal
          obtain ⟨u0, u1, u2, u3⟩ := HKO.out E (List.mem_of_getElem? hEk)
          have HE3 : Hid (SRow W E.a E.ss) := e3
          have HU3 : Hid (∀ s ∈ E.ss, s.ok) := u3
          clear hE hEk e3 u3
          unfold maxLen at u0 u1 u2
          go_wp2_with fail
          · go_ret
            exact ⟨hno, hal⟩
          · go_ret
            exact ⟨hno, hal⟩
          · go_ret
            exact ⟨hno, hal⟩
          · go_ret
            exact ⟨hno, hal⟩
          · go_ret
            exact ⟨hno, hal⟩
          · go_ret
            exact ⟨hno, hal⟩
          generalize hm : E.ss.length = m at *
          have HM : Hid (E.ss.length = m) := hm
          clear hm
          go_loopw [9, 12] (fun t i wr => ∃ (k : Nat) (z : Int), k ≤ m ∧ i = .int .i64 k ∧ t = .int .i64 z ∧ 0 ≤ z ∧ z ≤ 1048576 ∧ W = wr) (fun _ i _ => m - (intOf i).toNat)
          case atStart => exact ⟨0, _, by omega, rfl, rfl, by omega, by omega, by trivial⟩
          case round =>
            obtain ⟨p, zz, hp, rfl, rfl, q2, q3, rfl⟩ := hrel
            by_cases hlt2 : p < m
            · as_aux_lemma =>
              have hpi : (p : Int) < (m : Int) := by omega
              obtain ⟨b5, o5, ea, hss⟩ := HE3.out (by have := HM.out; omega)
              obtain ⟨x, hx⟩ : ∃ s, E.ss[p]? = some s := ⟨E.ss[p]'(by have := HM.out; omega), by simp⟩
              obtain ⟨x0, x1, x2, x3, x4, x5, x6⟩ := hss p x hx
              obtain ⟨v0, v1, v2, v3⟩ := HU3.out x (List.mem_of_getElem? hx)
              unfold maxLen at v0 v1 v2 v3
              rw [ea] at e2
              clear hss hx ea
              go_wp2_with fail
              all_goals as_aux_lemma => first | (go_ret; exact ⟨hno, hal⟩) | exact ⟨⟨p + 1, _, by omega, by go_num, rfl, by omega, by omega, by trivial⟩, by simp [intOf]; omega⟩
            · as_aux_lemma =>
              have hlt3 : ¬ (p : Int) < (m : Int) := by omega
              go_wp2_with fail
              first | exact ⟨⟨kkn + 1, _, by omega, by go_num, rfl, q2, q3, by trivial⟩, by simp [intOf]; omega⟩ | (constructor; (repeat apply Exists.intro); exact ⟨⟨kkn + 1, _, by omega, by go_num, rfl, q2, q3, by trivial⟩, rfl⟩; simp [intOf]; omega)
        · as_aux_lemma =>
          have hlt0 : ¬ (kkn : Int) < (kn : Int) := by omega
          go_wp2_with fail
          · go_ret
            exact ⟨hno, hal⟩
          · go_ret
            exact ⟨hno, hal⟩
          clear hlt0 hlt hk
          go_loopw [9, 13] (fun t i wr => ∃ (k : Nat) (z : Int), k ≤ sn ∧ i = .int .i64 k ∧ t = .int .i64 z ∧ 0 ≤ z ∧ z ≤ 1048576 ∧ W = wr) (fun _ i _ => sn - (intOf i).toNat)
          case atStart => exact ⟨0, _, by omega, rfl, rfl, by omega, by omega, by trivial⟩
          case round =>
            obtain ⟨ksn, zsn, hk, rfl, rfl, q0, q1, rfl⟩ := hrel
            by_cases hlt : ksn < sn
            · as_aux_lemma =>
              have hki : (ksn : Int) < (sn : Int) := by omega
              obtain ⟨b, o, rfl, hE⟩ := HS.out (by have := HSN.out; omega)
              obtain ⟨E, hEk⟩ : ∃ E, ses[ksn]? = some E := ⟨ses[ksn]'(by have := HSN.out; omega), by simp⟩
              obtain ⟨e0, e1, e2, e3⟩ := (hE ksn E hEk).later hal
              obtain ⟨u0, u1, u2, u3⟩ := HSO.out E (List.mem_of_getElem? hEk)
              have HE3 : Hid (SRow W E.a E.ss) := e3
              have HU3 : Hid (∀ s ∈ E.ss, s.ok) := u3
              clear hE hEk e3 u3
              unfold maxLen at u0 u1 u2
              go_wp2_with fail
              · go_ret
                exact ⟨hno, hal⟩
              · go_ret
                exact ⟨hno, hal⟩
              · go_ret
                exact ⟨hno, hal⟩
              · go_ret
                exact ⟨hno, hal⟩
              · go_ret
                exact ⟨hno, hal⟩
              · go_ret
                exact ⟨hno, hal⟩
              generalize hm : E.ss.length = m at *
              have HM : Hid (E.ss.length = m) := hm
              clear hm
              go_loopw [9, 14] (fun t i wr => ∃ (k : Nat) (z : Int), k ≤ m ∧ i = .int .i64 k ∧ t = .int .i64 z ∧ 0 ≤ z ∧ z ≤ 1048576 ∧ W = wr) (fun _ i _ => m - (intOf i).toNat)
              case atStart => exact ⟨0, _, by omega, rfl, rfl, by omega, by omega, by trivial⟩
              case round =>
                obtain ⟨p, zz, hp, rfl, rfl, q2, q3, rfl⟩ := hrel
                by_cases hlt2 : p < m
                · as_aux_lemma =>
                  have hpi : (p : Int) < (m : Int) := by omega
                  obtain ⟨b5, o5, ea, hss⟩ := HE3.out (by have := HM.out; omega)
                  obtain ⟨x, hx⟩ : ∃ s, E.ss[p]? = some s := ⟨E.ss[p]'(by have := HM.out; omega), by simp⟩
                  obtain ⟨x0, x1, x2, x3, x4, x5, x6⟩ := hss p x hx
                  obtain ⟨v0, v1, v2, v3⟩ := HU3.out x (List.mem_of_getElem? hx)
                  unfold maxLen at v0 v1 v2 v3
                  rw [ea] at e2
                  clear hss hx ea
                  go_wp2_with fail
                  all_goals as_aux_lemma => first | (go_ret; exact ⟨hno, hal⟩) | exact ⟨⟨p + 1, _, by omega, by go_num, rfl, by omega, by omega, by trivial⟩, by simp [intOf]; omega⟩
                · as_aux_lemma =>
                  have hlt3 : ¬ (p : Int) < (m : Int) := by omega
                  go_wp2_with fail
                  first | exact ⟨⟨ksn + 1, _, by omega, by go_num, rfl, q2, q3, by trivial⟩, by simp [intOf]; omega⟩ | (constructor; (repeat apply Exists.intro); exact ⟨⟨ksn + 1, _, by omega, by go_num, rfl, q2, q3, by trivial⟩, rfl⟩; simp [intOf]; omega)
            · as_aux_lemma =>
              have hlt0 : ¬ (ksn : Int) < (sn : Int) := by omega
              obtain ⟨x0, x1, x2, x3, x4, x5, x6⟩ := HS0.out
              go_wp2_with fail
              all_goals (go_ret; first | exact ⟨hno, hal⟩ | exact ⟨hyes, hal⟩)
end Go.Proofs.Qxb6630397a
