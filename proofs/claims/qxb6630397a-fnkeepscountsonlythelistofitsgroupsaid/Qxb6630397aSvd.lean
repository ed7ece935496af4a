import Derived.Test.Qxb6630397aCfg
import Derived.Test.Qxb6630397aFit
namespace Go.Proofs.Qxb6630397a
open Go.RowKit

set_option maxRecDepth 20000 in
set_option maxHeartbeats 4000000 in
theorem served_any (ag : Option Addr) (cg : Nat) (gs : List Grp) (N : ByteArray) (hg : gs.length ≤ 4096) (w : World) (rg : GRow w ag gs) :
    Calls Try.prog 12 #[.slice ag gs.length cg, .string N] w fun e w' => e = .returned (.bool (grpOf gs N)) ∧ w = w' := by
  have HRG : Hid (GRow w ag gs) := rg
  clear rg
  generalize hn : gs.length = n at *
  have HN : Hid (gs.length = n) := hn
  clear hn
  go_enter Try.func12, Try.ntmps12
  go_wp2_with fail
  go_loopw [5, 6] (fun v i wr => ∃ (k : Nat) (b : Bool), k ≤ n ∧ i = .int .i64 k ∧ v = .bool b ∧ b = grpOf (gs.take k) N ∧ w = wr) (fun _ i _ => n - (intOf i).toNat)
  case atStart => exact ⟨0, false, by omega, rfl, rfl, rfl, rfl⟩
  case round =>
    obtain ⟨k, bb, hk, rfl, rfl, hbb, rfl⟩ := hrel
    have HBB : Hid (bb = grpOf (gs.take k) N) := hbb
    clear hbb
    by_cases hlt : k < n
    · have hki : (k : Int) < (n : Int) := by omega
      obtain ⟨b, o, rfl, hE⟩ := HRG.out (by have := HN.out; omega)
      obtain ⟨G, hGk⟩ : ∃ G, gs[k]? = some G := ⟨gs[k]'(by have := HN.out; omega), by simp⟩
      obtain ⟨e0, e1⟩ := hE k G hGk
      have HTS : Hid (grpOf (gs.take (k + 1)) N = if N = G.n then G.on else grpOf (gs.take k) N) := by
        show _ = _
        rw [List.take_add_one, hGk]
        show grpOf (gs.take k ++ [G]) N = _
        rw [grpOf_snoc]; rfl
      clear hE hGk
      by_cases hN : G.n = N
      · go_wp2_with fail
        refine ⟨⟨k + 1, G.on, by omega, by go_num, rfl, ?_, trivial⟩, by simp [intOf]; omega⟩
        rw [HTS.out, if_pos hN.symm]
      · have hne : (G.n.toList == N.toList) = false := by
          rw [← beq_toListBytes, beqB]; simpa using hN
        go_wp2_with fail
        refine ⟨⟨k + 1, bb, by omega, by go_num, rfl, ?_, trivial⟩, by simp [intOf]; omega⟩
        rw [HTS.out, if_neg (fun h => hN h.symm)]; exact HBB.out
    · have hlt0 : ¬ (k : Int) < (n : Int) := by omega
      go_wp2_with fail
      go_ret
      have := HBB.out
      rw [List.take_of_length_le (by have := HN.out; omega)] at this
      exact ⟨by rw [this]; rfl, rfl⟩

set_option maxRecDepth 20000 in
set_option maxHeartbeats 2000000 in
/-- zzFits at every length -/
theorem fits_all (ga ka sa : Option Addr) (gc kc sc : Nat) (gs : List Grp) (kes ses : List Ent) (s t : Stg) (hgl : gs.length ≤ maxLen) (hkl : kes.length ≤ maxLen) (hsl : ses.length ≤ maxLen)
    (hgo : ∀ G ∈ gs, G.n.size ≤ maxLen) (hko : ∀ E ∈ kes, E.ok) (hso : ∀ E ∈ ses, E.ok) (hs : s.ok) (ht : t.ok) (w : World) (hg : GRow w ga gs) (hk : ERow w ka kes) (hse : ERow w sa ses) :
    Calls Try.prog 6 #[.slice ga gs.length gc, .slice ka kes.length kc, .slice sa ses.length sc, sv s, sv t] w fun e w' => FB gs kes ses e ∧ Below w.heap.size w w' := by
  by_cases hall : gs.length ≤ 4096 ∧ kes.length ≤ 4096 ∧ ses.length ≤ 4096
  · exact fits_any ga ka sa gc kc sc gs kes ses s t (by omega) (by omega) (by omega) hgo hko hso hs ht w hg hk hse
  · have hF := FB.no gs kes ses
    have hal : Below w.heap.size w ((w.alloc (.cells #[.string s.f, .int .i64 s.l, .int .i64 s.e, .string s.g, .string s.o, .string s.v, .bool s.h] 25)).alloc (.cells #[.string t.f, .int .i64 t.l, .int .i64 t.e, .string t.g, .string t.o, .string t.v, .bool t.h] 25)) := ((Below.refl _ _).alloc (Nat.le_refl _) _).alloc (by simp) _
    unfold maxLen at hgl hkl hsl
    clear hgo hko hso hs ht hg hk hse
    generalize gs.length = n at *
    generalize kes.length = m at *
    generalize ses.length = l at *
    go_enter Try.func6, Try.ntmps6
    go_wp2_with fail
    all_goals (go_ret; exact ⟨hF, hal⟩)

end Go.Proofs.Qxb6630397a
