import Derived.Test.Qxb6630397aPut
namespace Go.Proofs.Qxb6630397a
open Go.RowKit

theorem lt_of_cell {w : World} {a : Addr} {v : Value} (h : w.cell? a = some v) : a.block < w.heap.size := by
  apply Classical.byContradiction
  intro hn
  unfold World.cell? at h
  rw [Array.getElem?_eq_none (by omega)] at h
  simp at h

abbrev nob : ByteArray := ⟨#[]⟩

set_option maxRecDepth 20000 in
set_option maxHeartbeats 4000000 in
theorem keptFor_any (bc bk bg bs : Nat) (Tk : Tbl) (f : ByteArray → Bool) (Ts : Tbl) (G O : ByteArray) (w : World) (h : Cfg w bc bk bg bs Tk f Ts) :
    Calls Try.prog 17 #[.pointer (some ⟨bc, 0, none⟩), .string G, .string O] w fun e w' =>
      e = .returned (.tuple #[.map (some (if f G = true then bs else bk)), kv (if f G = true then nob else G) O]) ∧ Below w.heap.size w w' := by
  have hb : Below w.heap.size w (w.alloc (obK nob nob)) := (Below.refl _ _).alloc (Nat.le_refl _) _
  have hlk := grp_lookup (h.gg.later hb) G
  obtain ⟨c3, c4, c5, _, _, _⟩ := h
  have l0 : bc < w.heap.size := lt_of_cell c3
  cases hf : f G
  · rw [hf] at hlk
    go_enter Try.func17, Try.ntmps17
    go_wp2_with fail
    refine bodyPost_ret (v := .tuple #[.map (some bk), kv G O]) (by simp [results, Try.results17, go_sem]) rfl ⟨rfl, (Below.refl _ _).alloc (Nat.le_refl _) _⟩
  · rw [hf] at hlk
    go_enter Try.func17, Try.ntmps17
    go_wp2_with fail
    refine bodyPost_ret (v := .tuple #[.map (some bs), kv nob O]) (by simp [results, Try.results17, go_sem]) rfl ⟨rfl, (Below.refl _ _).alloc (Nat.le_refl _) _⟩

/-- the list that counts -/
def pick (Tk : Tbl) (f : ByteArray → Bool) (Ts : Tbl) (x : Stg) : List Stg := if f x.g = true then Ts nob x.o else Tk x.g x.o
theorem cfg_lookup {w : World} {bc bk bg bs : Nat} {Tk : Tbl} {f : ByteArray → Bool} {Ts : Tbl} (h : Cfg w bc bk bg bs Tk f Ts) (x : Stg) :
    ∃ a c, (Instr.lookup 35 (.map (some (if f x.g = true then bs else bk))) (kv (if f x.g = true then nob else x.g) x.o) false).run Try.prog w = .ok (.slice a (pick Tk f Ts x).length c) w ∧ SRow w a (pick Tk f Ts x) := by
  unfold pick
  by_cases hf : f x.g = true
  · rw [if_pos hf, if_pos hf, if_pos hf]
    obtain ⟨a, c, h1, _, h2⟩ := tbl_lookup h.ts nob x.o
    exact ⟨a, c, h1, h2⟩
  · rw [if_neg hf, if_neg hf, if_neg hf]
    obtain ⟨a, c, h1, _, h2⟩ := tbl_lookup h.tk x.g x.o
    exact ⟨a, c, h1, h2⟩

set_option maxRecDepth 20000 in
set_option maxHeartbeats 4000000 in
theorem keeps_any (bc bk bg bs : Nat) (Tk : Tbl) (f : ByteArray → Bool) (Ts : Tbl) (x : Stg) (hl : (pick Tk f Ts x).length ≤ 5000) (w : World) (h : Cfg w bc bk bg bs Tk f Ts) :
    Calls Try.prog 10 #[.pointer (some ⟨bc, 0, none⟩), sv x] w fun e w' => e = .returned (.bool ((pick Tk f Ts x).any (sEq · x))) ∧ Below w.heap.size w w' := by
  have hb : Below w.heap.size w (w.alloc (obM x)) := (Below.refl _ _).alloc (Nat.le_refl _) _
  have HC : Hid (Cfg (w.alloc (obM x)) bc bk bg bs Tk f Ts) := h.later hb
  have hq := eql27
  clear h
  go_enter Try.func10, Try.ntmps10
  go_wp2_with fail
  refine (keptFor_any bc bk bg bs Tk f Ts x.g x.o _ HC.out).mono ?_
  rintro e w2 ⟨rfl, hb2⟩
  have hw2 : Below w.heap.size w w2 := hb.trans (hb2.mono (by simp))
  have hz2 : w.heap.size + 1 ≤ w2.heap.size := by simpa using hb2.size
  obtain ⟨x0, x1, x2, x3, x4, x5, x6⟩ : StgAt w2 w.heap.size 0 x := StgAt.later (w := w.alloc (obM x)) (by unfold StgAt; go_simp) hb2
  generalize hB : (if f x.g = true then bs else bk) = B at *
  generalize hK : (if f x.g = true then nob else x.g) = K at *
  have hbk : Below w2.heap.size w2 (w2.alloc (obK K x.o)) := (Below.refl _ _).alloc (Nat.le_refl _) _
  obtain ⟨a, c, hlk, hrow⟩ := cfg_lookup ((HC.out.later hb2).later hbk) x
  rw [hB, hK] at hlk
  have HR : Hid (SRow (w2.alloc (obK K x.o)) a (pick Tk f Ts x)) := hrow
  clear hrow
  go_wp2_with fail
  have hx3 : StgAt (w2.alloc (obK K x.o)) w.heap.size 0 x := StgAt.later (w := w2) ⟨x0, x1, x2, x3, x4, x5, x6⟩ hbk
  have HX3 : Hid (StgAt (w2.alloc (obK K x.o)) w.heap.size 0 x) := hx3
  have hw3 : Below w.heap.size w (w2.alloc (obK K x.o)) := hw2.trans (hbk.mono (by omega))
  clear hx3 x0 x1 x2 x3 x4 x5 x6 hbk hlk hB hK HC hb2 hw2 hb
  have hz3 : w.heap.size < (w2.alloc (obK K x.o)).heap.size := by simp; omega
  generalize w2.alloc (obK K x.o) = w3 at *
  generalize hL : pick Tk f Ts x = L at *
  have HL : Hid (pick Tk f Ts x = L) := hL
  clear hL
  generalize hn : L.length = n at *
  have HN : Hid (L.length = n) := hn
  clear hn
  go_loopw [22] (fun i wr => ∃ (k : Nat), k ≤ n ∧ i = .int .i64 k ∧ (L.take k).any (sEq · x) = false ∧ Below w3.heap.size w3 wr) (fun i _ => n - (intOf i).toNat)
  case atStart => exact ⟨0, by omega, rfl, rfl, Below.refl _ _⟩
  case round =>
    obtain ⟨k, hk, rfl, hno, hb⟩ := hrel
    have hzr := hb.size
    have hwr : Below w.heap.size w wr := hw3.trans (hb.mono (by omega))
    have HNO : Hid ((L.take k).any (sEq · x) = false) := hno
    clear hno
    by_cases hlt : k < n
    · have hki : (k : Int) < (n : Int) := by omega
      obtain ⟨b, o, rfl, hE⟩ := HR.out (by have := HN.out; omega)
      obtain ⟨s, hsk⟩ : ∃ s, L[k]? = some s := ⟨L[k]'(by have := HN.out; omega), by simp⟩
      obtain ⟨y0, y1, y2, y3, y4, y5, y6⟩ := (hE k s hsk).later hb
      obtain ⟨x0, x1, x2, x3, x4, x5, x6⟩ := HX3.out.later hb
      have hlw : w.heap.size < wr.heap.size := by omega
      have HT : Hid ((L.take (k + 1)).any (sEq · x) = ((L.take k).any (sEq · x) || sEq s x)) := by
        show _ = _
        rw [List.take_add_one, hsk, List.any_append]; simp
      have HM : Hid (s ∈ L) := List.mem_of_getElem? hsk
      clear hE hsk
      have hba : Below w3.heap.size w3 (wr.alloc (obM s)) := hb.alloc hzr _
      have hbw : Below w.heap.size w (wr.alloc (obM s)) := hwr.alloc (by omega) _
      cases hsx : sEq s x
      · go_wp2_with fail
        exact ⟨⟨k + 1, by omega, by go_num, by rw [HT.out, HNO.out, hsx]; rfl, hba⟩, by simp [intOf]; omega⟩
      · go_wp2_with fail
        go_ret
        have : L.any (sEq · x) = true := List.any_eq_true.2 ⟨s, HM.out, hsx⟩
        exact ⟨by rw [HL.out, this]; rfl, hbw⟩
    · have hlt0 : ¬ (k : Int) < (n : Int) := by omega
      go_wp2_with fail
      go_ret
      have := HNO.out
      rw [List.take_of_length_le (by have := HN.out; omega)] at this
      exact ⟨by rw [HL.out, this]; rfl, hwr⟩

end Go.Proofs.Qxb6630397a
