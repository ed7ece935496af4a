import Derived.Test.Qxb6630397aDat
namespace Go.Proofs.Qxb6630397a
open Go.RowKit

/-- what the count of a list of entries gives -/
def TCB (es : List Ent) (e : Ending) : Prop := ∃ (t c : Int) (b : Bool), e = .returned (.tuple #[.int .i64 t, .int .i64 c, .bool b]) ∧ 0 ≤ t ∧ t ≤ 1048576 ∧ 0 ≤ c ∧ c ≤ 4096 ∧ (b = true → ∀ E ∈ es, E.ss.length ≤ 4096)

set_option maxRecDepth 20000 in
set_option maxHeartbeats 2000000 in
theorem addEntries_any (t c : Int) (a : Option Addr) (cap : Nat) (es : List Ent) (h0 : 0 ≤ t) (h1 : t ≤ 1048576) (hc0 : 0 ≤ c) (hc1 : c ≤ 4096) (hes : es.length ≤ 1048576) (hok : ∀ E ∈ es, E.ok) (w : World) (hr : ERow w a es) :
    Calls Try.prog 15 #[.int .i64 t, .int .i64 c, .slice a es.length cap] w fun e w' => TCB es e ∧ Below w.heap.size w w' := by
  have HR : Hid (ERow w a es) := hr
  have HO : Hid (∀ E ∈ es, E.ok) := hok
  clear hr hok
  generalize hn : es.length = n at *
  have HN : Hid (es.length = n) := hn
  clear hn
  go_enter Try.func15, Try.ntmps15
  go_wp2
  go_loopw [0, 1, 9] (fun t c i wr => ∃ (k : Nat) (t1 c1 : Int), k ≤ n ∧ i = .int .i64 k ∧ t = .int .i64 t1 ∧ c = .int .i64 c1 ∧ 0 ≤ t1 ∧ t1 ≤ 1048576 ∧ 0 ≤ c1 ∧ c1 ≤ 4096 ∧ (∀ E ∈ es.take k, E.ss.length ≤ 4096) ∧ Below w.heap.size w wr) (fun _ _ i _ => n - (intOf i).toNat)
  case atStart => exact ⟨0, t, c, by omega, rfl, rfl, rfl, h0, h1, hc0, hc1, by simp, Below.refl _ _⟩
  case round =>
    obtain ⟨k, t1, c1, hk, rfl, rfl, rfl, p0, p1, p2, p3, hall, hb⟩ := hrel
    have HA : Hid (∀ E ∈ es.take k, E.ss.length ≤ 4096) := hall
    clear hall
    by_cases hlt : k < n
    · have hki : (k : Int) < (n : Int) := by omega
      obtain ⟨b, o, rfl, hE⟩ := HR.out (by have := HN.out; omega)
      obtain ⟨E, hEk⟩ : ∃ E, es[k]? = some E := ⟨es[k]'(by have := HN.out; omega), by simp⟩
      obtain ⟨e0, e1, e2, e3⟩ := (hE k E hEk).later hb
      obtain ⟨s0, s1, s2, s3⟩ := HO.out E (List.mem_of_getElem? hEk)
      have HS : Hid (SRow wr E.a E.ss) := e3
      have HSO : Hid (∀ s ∈ E.ss, s.ok) := s3
      clear hE e3 s3
      unfold maxLen at s0 s1 s2
      have fail3 : ∀ t2 : Int, 0 ≤ t2 → t2 ≤ 1048576 → TCB es (.returned (.tuple #[.int .i64 t2, .int .i64 c1, .bool false])) := fun t2 q0 q1 => ⟨t2, c1, false, rfl, q0, q1, p2, p3, fun h => by cases h⟩
      go_wp2_with fail
      refine (add_any t1 48 p0 p1 (by omega) (by omega) _).mono ?_
      rintro e w' ⟨⟨t2, b2, rfl, p4, p5⟩, rfl⟩
      cases b2
      · go_wp2_with fail
        go_ret3
        exact ⟨fail3 _ p4 p5, hb⟩
      go_wp2_with fail
      refine (add_any t2 E.g.size p4 p5 (by omega) (by omega) _).mono ?_
      rintro e w' ⟨⟨t3, b3, rfl, p6, p7⟩, rfl⟩
      cases b3
      · go_wp2_with fail
        go_ret3
        exact ⟨fail3 _ p6 p7, hb⟩
      go_wp2_with fail
      refine (add_any t3 E.o.size p6 p7 (by omega) (by omega) _).mono ?_
      rintro e w' ⟨⟨t4, b4, rfl, p8, p9⟩, rfl⟩
      cases b4
      · go_wp2_with fail
        go_ret3
        exact ⟨fail3 _ p8 p9, hb⟩
      have HAs : Hid (E.ss.length ≤ 4096 → ∀ E' ∈ es.take (k + 1), E'.ss.length ≤ 4096) := fun h E' hE' => by
        rw [List.take_add_one, List.mem_append] at hE'
        rcases hE' with h1 | h1
        · exact HA.out E' h1
        · rw [hEk] at h1; simp at h1; subst h1; exact h
      by_cases hcap : 4096 - c1 < (E.ss.length : Int)
      · go_wp2_with fail
        go_ret3
        exact ⟨fail3 _ p8 p9, hb⟩
      have HA1 := HAs.out (by omega)
      have HA1' : Hid (∀ E' ∈ es.take (k + 1), E'.ss.length ≤ 4096) := HA1
      have fail4 : ∀ t2 : Int, 0 ≤ t2 → t2 ≤ 1048576 → TCB es (.returned (.tuple #[.int .i64 t2, .int .i64 (c1 + (E.ss.length : Int)), .bool false])) := fun t2 q0 q1 => ⟨t2, _, false, rfl, q0, q1, by omega, by omega, fun h => by cases h⟩
      clear HA1 HAs e0 e1
      go_wp2_with fail
      generalize hm : E.ss.length = m at *
      have HM : Hid (E.ss.length = m) := hm
      clear hm
      go_loopw [0, 12] (fun t j wq => ∃ (p : Nat) (u1 : Int), p ≤ m ∧ j = .int .i64 p ∧ t = .int .i64 u1 ∧ 0 ≤ u1 ∧ u1 ≤ 1048576 ∧ Below wr.heap.size wr wq) (fun _ j _ => m - (intOf j).toNat)
      case atStart => exact ⟨0, t4, by omega, rfl, rfl, p8, p9, Below.refl _ _⟩
      case round =>
        obtain ⟨p, u1, hp, rfl, rfl, q0, q1, hbq⟩ := hrel
        by_cases hlt2 : p < m
        · have hpi : (p : Int) < (m : Int) := by omega
          obtain ⟨b5, o5, ea, hss⟩ := HS.out (by have := HM.out; omega)
          obtain ⟨s, hs⟩ : ∃ s, E.ss[p]? = some s := ⟨E.ss[p]'(by have := HM.out; omega), by simp⟩
          obtain ⟨x0, x1, x2, x3, x4, x5, x6⟩ := (hss p s hs).later hbq
          have hso : Hid s.ok := HSO.out s (List.mem_of_getElem? hs)
          clear hss hs
          rw [ea]
          go_wp2_with fail
          refine (addSetting_any u1 s q0 q1 hso.out _).mono ?_
          rintro e w6 ⟨⟨u2, b6, rfl, q2, q3⟩, hb6⟩
          have hbn := hbq.trans (hb6.mono hbq.size)
          cases b6
          · go_wp2_with fail
            go_ret3
            exact ⟨fail4 _ q2 q3, hb.trans (hbn.mono hb.size)⟩
          · go_wp2_with fail
            exact ⟨⟨p + 1, u2, by omega, by go_num, rfl, q2, q3, hbn⟩, by simp [intOf]; omega⟩
        · go_wp2_with fail
          exact ⟨⟨k + 1, u1, _, by omega, by go_num, rfl, rfl, q0, q1, by omega, by omega, HA1'.out, hb.trans (hbq.mono hb.size)⟩, by simp [intOf]; omega⟩
    · go_wp2_with fail
      go_ret3
      exact ⟨⟨t1, c1, true, rfl, p0, p1, p2, p3, fun _ E hE => HA.out E (by rwa [List.take_of_length_le (by have := HN.out; omega)])⟩, hb⟩

/-- what the bound on all arguments gives -/
def FB (gs : List Grp) (kes ses : List Ent) (e : Ending) : Prop := ∃ b : Bool, e = .returned (.bool b) ∧ (b = true → gs.length ≤ 4096 ∧ kes.length ≤ 4096 ∧ ses.length ≤ 4096 ∧ (∀ E ∈ kes, E.ss.length ≤ 4096) ∧ ∀ E ∈ ses, E.ss.length ≤ 4096)
theorem FB.no (gs : List Grp) (kes ses : List Ent) : FB gs kes ses (.returned (.bool false)) := ⟨false, rfl, fun h => by cases h⟩

set_option maxRecDepth 20000 in
set_option maxHeartbeats 2000000 in
theorem fits_any (ga ka sa : Option Addr) (gc kc sc : Nat) (gs : List Grp) (kes ses : List Ent) (s t : Stg) (hgl : gs.length ≤ 1048576) (hkl : kes.length ≤ 1048576) (hsl : ses.length ≤ 1048576)
    (hgo : ∀ G ∈ gs, G.n.size ≤ maxLen) (hko : ∀ E ∈ kes, E.ok) (hso : ∀ E ∈ ses, E.ok) (hs : s.ok) (ht : t.ok) (w : World) (hg : GRow w ga gs) (hk : ERow w ka kes) (hse : ERow w sa ses) :
    Calls Try.prog 6 #[.slice ga gs.length gc, .slice ka kes.length kc, .slice sa ses.length sc, sv s, sv t] w fun e w' => FB gs kes ses e ∧ Below w.heap.size w w' := by
  have HG : Hid (GRow w ga gs) := hg
  have HGO : Hid (∀ G ∈ gs, G.n.size ≤ maxLen) := hgo
  have HK : Hid (ERow w ka kes ∧ ∀ E ∈ kes, E.ok) := ⟨hk, hko⟩
  have HS : Hid (ERow w sa ses ∧ ∀ E ∈ ses, E.ok) := ⟨hse, hso⟩
  have HO : Hid (s.ok ∧ t.ok) := ⟨hs, ht⟩
  clear hg hgo hk hko hse hso hs ht
  have hno := FB.no gs kes ses
  have hal : Below w.heap.size w ((w.alloc (.cells #[.string s.f, .int .i64 s.l, .int .i64 s.e, .string s.g, .string s.o, .string s.v, .bool s.h] 25)).alloc (.cells #[.string t.f, .int .i64 t.l, .int .i64 t.e, .string t.g, .string t.o, .string t.v, .bool t.h] 25)) := ((Below.refl _ _).alloc (Nat.le_refl _) _).alloc (by simp) _
  by_cases c1 : (4096 : Int) < (gs.length : Int)
  · go_enter Try.func6, Try.ntmps6
    go_wp2_with fail
    go_ret
    exact ⟨hno, hal⟩
  by_cases c2 : (4096 : Int) < (kes.length : Int)
  · go_enter Try.func6, Try.ntmps6
    go_wp2_with fail
    go_ret
    exact ⟨hno, hal⟩
  by_cases c3 : (4096 : Int) < (ses.length : Int)
  · go_enter Try.func6, Try.ntmps6
    go_wp2_with fail
    go_ret
    exact ⟨hno, hal⟩
  go_enter Try.func6, Try.ntmps6
  go_wp2_with fail
  refine (addSetting_any 0 s (by omega) (by omega) HO.out.1 _).mono ?_
  rintro e w1 ⟨⟨t1, b1, rfl, p0, p1⟩, hb1⟩
  have B1 := hal.trans (hb1.mono hal.size)
  have h9 : StgAt w1 (w.heap.size + 1) 0 t := StgAt.later (by unfold StgAt; go_simp) hb1
  obtain ⟨x0, x1, x2, x3, x4, x5, x6⟩ := h9
  cases b1
  · go_wp2_with fail
    go_ret
    exact ⟨hno, B1⟩
  go_wp2_with fail
  refine (addSetting_any t1 t p0 p1 HO.out.2 _).mono ?_
  rintro e w2 ⟨⟨t2, b2, rfl, p2, p3⟩, hb2⟩
  have B2 := B1.trans (hb2.mono B1.size)
  clear x0 x1 x2 x3 x4 x5 x6
  cases b2
  · go_wp2_with fail
    go_ret
    exact ⟨hno, B2⟩
  go_wp2_with fail
  generalize hgn : gs.length = gn at *
  have HGN : Hid (gs.length = gn) := hgn
  clear hgn
  go_loopw [11, 13] (fun t i wr => ∃ (k : Nat) (t3 : Int), k ≤ gn ∧ i = .int .i64 k ∧ t = .int .i64 t3 ∧ 0 ≤ t3 ∧ t3 ≤ 1048576 ∧ wr = w2) (fun _ i _ => gn - (intOf i).toNat)
  case atStart => exact ⟨0, t2, by omega, rfl, rfl, p2, p3, rfl⟩
  case round =>
    obtain ⟨k, t3, hk, rfl, rfl, q0, q1, rfl⟩ := hrel
    by_cases hlt : k < gn
    · have hki : (k : Int) < (gn : Int) := by omega
      obtain ⟨b, o, rfl, hG⟩ := HG.out (by have := HGN.out; omega)
      obtain ⟨G, hGk⟩ : ∃ G, gs[k]? = some G := ⟨gs[k]'(by have := HGN.out; omega), by simp⟩
      obtain ⟨e0, e1⟩ := (hG k G hGk).later B2
      have s0 := HGO.out G (List.mem_of_getElem? hGk)
      clear hG
      unfold maxLen at s0
      go_wp2_with fail
      refine (add_any t3 24 q0 q1 (by omega) (by omega) _).mono ?_
      rintro e w' ⟨⟨t4, b4, rfl, q2, q3⟩, rfl⟩
      cases b4
      · go_wp2_with fail
        go_ret
        exact ⟨hno, B2⟩
      go_wp2_with fail
      refine (add_any t4 G.n.size q2 q3 (by omega) (by omega) _).mono ?_
      rintro e w' ⟨⟨t5, b5, rfl, q4, q5⟩, rfl⟩
      cases b5
      · go_wp2_with fail
        go_ret
        exact ⟨hno, B2⟩
      go_wp2_with fail
      exact ⟨⟨k + 1, t5, by omega, by go_num, rfl, q4, q5, by trivial⟩, by simp [intOf]; omega⟩
    · go_wp2_with fail
      refine (addEntries_any t3 0 ka kc kes q0 q1 (by omega) (by omega) hkl HK.out.2 _ (HK.out.1.later B2)).mono ?_
      rintro e w3 ⟨⟨t6, c6, b6, rfl, r0, r1, r2, r3, r4⟩, hb3⟩
      have B3 := B2.trans (hb3.mono B2.size)
      have R4 : Hid (b6 = true → ∀ E ∈ kes, E.ss.length ≤ 4096) := r4
      clear r4
      cases b6
      · go_wp2_with fail
        go_ret
        exact ⟨hno, B3⟩
      go_wp2_with fail
      refine (addEntries_any t6 c6 sa sc ses r0 r1 r2 r3 hsl HS.out.2 _ (HS.out.1.later B3)).mono ?_
      rintro e w4 ⟨⟨t7, c7, b7, rfl, r5, r6, r7, r8, r9⟩, hb4⟩
      have B4 := B3.trans (hb4.mono B3.size)
      have R9 : Hid (b7 = true → ∀ E ∈ ses, E.ss.length ≤ 4096) := r9
      clear r9
      cases b7
      · go_wp2_with fail
        go_ret
        exact ⟨hno, B4⟩
      go_wp2_with fail
      go_ret
      exact ⟨⟨true, rfl, fun _ => ⟨by have := HGN.out; omega, by omega, by omega, R4.out (by trivial), R9.out (by trivial)⟩⟩, B4⟩

end Go.Proofs.Qxb6630397a
