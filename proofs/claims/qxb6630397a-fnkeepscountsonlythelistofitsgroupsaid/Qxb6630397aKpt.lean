import Derived.Test.Qxb6630397aLst
namespace Go.Proofs.Qxb6630397a
open Go.RowKit
open Go.ChangeMaps (setBlock)

/-- a table of kept settings -/
abbrev Tbl := ByteArray → ByteArray → List Stg
/-- a store into it -/
def updT (T : Tbl) (G O : ByteArray) (ss : List Stg) : Tbl := fun G' O' => if G' = G ∧ O' = O then ss else T G' O'
/-- the map in block B reads as this table -/
def TblIs (w : World) (B : Nat) (T : Tbl) : Prop :=
  ∃ es clk l, w.heap[B]? = some (.map es clk) ∧ MapEnts es l ∧ ∀ G O, ∃ a c, (valE G O l).getD (.slice none 0 0) = .slice a (T G O).length c ∧ (a = none → c = 0) ∧ SRow w a (T G O)

theorem TblIs.lt {w : World} {B : Nat} {T : Tbl} (h : TblIs w B T) : B < w.heap.size := by
  obtain ⟨es, clk, l, h1, _⟩ := h
  exact (Array.getElem?_eq_some_iff.1 h1).1
theorem TblIs.map {w : World} {B : Nat} {T : Tbl} (h : TblIs w B T) : ∃ es clk, w.heap[B]? = some (.map es clk) := by
  obtain ⟨es, clk, l, h1, _⟩ := h
  exact ⟨es, clk, h1⟩

theorem tbl_made (w : World) : TblIs (w.alloc (.map #[] 0)) w.heap.size (fun _ _ => []) :=
  ⟨#[], 0, [], heap_alloc_new w _, rfl, fun _ _ => ⟨none, 0, rfl, fun _ => rfl, fun h => by simp at h⟩⟩

theorem TblIs.later {w w' : World} {B : Nat} {T : Tbl} (h : TblIs w B T) (hb : Below w.heap.size w w') : TblIs w' B T := by
  have hlt := h.lt
  obtain ⟨es, clk, l, h1, h2, h3⟩ := h
  refine ⟨es, clk, l, by rw [hb.block B hlt]; exact h1, h2, fun G O => ?_⟩
  obtain ⟨a, c, h4, h6, h5⟩ := h3 G O
  exact ⟨a, c, h4, h6, h5.later hb⟩

/-- all cells stay where they are -/
def CellsKept (w w' : World) : Prop := ∀ a v, w.cell? a = some v → w'.cell? a = some v
theorem StgAt.kept {w w' : World} (hk : CellsKept w w') {b p : Nat} {s : Stg} (h : StgAt w b p s) : StgAt w' b p s := by
  obtain ⟨h0, h1, h2, h3, h4, h5, h6⟩ := h
  exact ⟨hk _ _ h0, hk _ _ h1, hk _ _ h2, hk _ _ h3, hk _ _ h4, hk _ _ h5, hk _ _ h6⟩
theorem SRow.kept {w w' : World} (hk : CellsKept w w') {a : Option Addr} {ss : List Stg} (h : SRow w a ss) : SRow w' a ss := fun h0 => by
  obtain ⟨b, o, h1, h2⟩ := h h0
  exact ⟨b, o, h1, fun j s hj => (h2 j s hj).kept hk⟩

theorem cells_setMap {w : World} {B : Nat} {es : Array MapEntry} {clk : Nat} (hb : w.heap[B]? = some (.map es clk)) (o : Obj) : CellsKept w (setBlock w B o) := by
  intro a v h
  have hne : a.block ≠ B := by
    intro e
    unfold World.cell? at h
    rw [e, hb] at h
    simp at h
  have := (heap_setBlock (o' := o) hb).2 a.block hne
  rw [World.cell?_of_block this]; exact h

/-- a store into one map turns nothing else -/
structure MapTurn (w w' : World) (B : Nat) : Prop where
  cells : CellsKept w w'
  grown : w.grownBy w' (some B)
  size : w'.heap.size = w.heap.size
  froz : ∀ a, w'.frozen? a = w.frozen? a ∨ a.block = B

theorem tbl_update {w : World} {B : Nat} {T : Tbl} (h : TblIs w B T) (G O : ByteArray) (a : Option Addr) (c : Nat) (ss : List Stg) (hn : a = none → c = 0) (hs : SRow w a ss) :
    ∃ w', (Instr.mapUpdate 35 (.map (some B)) (kv G O) (.slice a ss.length c)).run Try.prog w = .ok () w' ∧ TblIs w' B (updT T G O ss) ∧ MapTurn w w' B := by
  obtain ⟨es, clk, l, h1, h2, h3⟩ := h
  obtain ⟨es', clk', hr, he⟩ := run_update35 h1 h2 G O (.slice a ss.length c)
  have hk := cells_setMap h1 (.map es' clk')
  refine ⟨_, hr, ⟨es', clk', setE G O (.slice a ss.length c) l, (heap_setBlock h1).1, he, fun G' O' => ?_⟩, ⟨hk, ⟨rfl, rfl, rfl, by simp [setBlock], fun k _ hne => (heap_setBlock h1).2 k (fun e => hne (by rw [e]))⟩, by simp [setBlock], fun a => ?_⟩⟩
  · rw [valE_set]
    unfold updT
    by_cases hc : G' = G ∧ O' = O
    · rw [if_pos hc, if_pos hc]
      exact ⟨a, c, rfl, hn, hs.kept hk⟩
    · rw [if_neg hc, if_neg hc]
      obtain ⟨a', c', h4, h6, h5⟩ := h3 G' O'
      exact ⟨a', c', h4, h6, h5.kept hk⟩
  · by_cases hB : a.block = B
    · exact .inr hB
    · exact .inl (World.frozen?_of_block ((heap_setBlock h1).2 a.block hB))

theorem TblIs.turned {w w' : World} {B B' : Nat} {T : Tbl} (h : TblIs w B T) (ht : MapTurn w w' B') (hne : B ≠ B') : TblIs w' B T := by
  have hlt := h.lt
  obtain ⟨es, clk, l, h1, h2, h3⟩ := h
  refine ⟨es, clk, l, by rw [ht.grown.block B hlt (by simpa using hne)]; exact h1, h2, fun G O => ?_⟩
  obtain ⟨a, c, h4, h6, h5⟩ := h3 G O
  exact ⟨a, c, h4, h6, h5.kept ht.cells⟩

theorem MapTurn.below {w w' : World} {B N : Nat} (h : MapTurn w w' B) (hN : N ≤ B) : Below N w w' := by
  refine ⟨h.grown.os, h.grown.tape, h.grown.output, by rw [h.size]; exact Nat.le_refl _, fun k hk => ?_⟩
  by_cases hlt : k < w.heap.size
  · exact h.grown.block k hlt (by simp; omega)
  · have := h.size
    rw [Array.getElem?_eq_none (by omega), Array.getElem?_eq_none (by omega)]

/-- the look-up -/
theorem tbl_lookup {w : World} {B : Nat} {T : Tbl} (h : TblIs w B T) (G O : ByteArray) :
    ∃ a c, (Instr.lookup 35 (.map (some B)) (kv G O) false).run Try.prog w = .ok (.slice a (T G O).length c) w ∧ (a = none → c = 0) ∧ SRow w a (T G O) := by
  obtain ⟨es, clk, l, h1, h2, h3⟩ := h
  obtain ⟨a, c, h4, h6, h5⟩ := h3 G O
  exact ⟨a, c, by rw [run_lookup35 h1 h2, h4], h6, h5⟩

/-- the table that a list of entries stands for -/
def tblOf (drop : Bool) (x : Stg) (es : List Ent) : Tbl := es.foldl (fun T E => updT T E.g E.o (filt drop x E.ss)) (fun _ _ => [])
theorem tblOf_snoc (drop : Bool) (x : Stg) (es : List Ent) (E : Ent) : tblOf drop x (es ++ [E]) = updT (tblOf drop x es) E.g E.o (filt drop x E.ss) := by
  simp [tblOf]

theorem make35 (n : Int) (w : World) : (Instr.makeMap 35 (some (.int .i64 n))).run Try.prog w = .ok (.map (some w.heap.size)) (w.alloc (.map #[] 0)) := by
  simp [Instr.makeMap, run_underlying Try.underlying35, asInt, asIntOf, Result.andThen]
theorem make36 (n : Int) (w : World) : (Instr.makeMap 36 (some (.int .i64 n))).run Try.prog w = .ok (.map (some w.heap.size)) (w.alloc (.map #[] 0)) := by
  simp [Instr.makeMap, run_underlying Try.underlying36, asInt, asIntOf, Result.andThen]

/-- what the round's region may lean on -/
abbrev HeldK (b p bx : Nat) (E : Ent) (x : Stg) (w' : World) : Prop :=
  w'.cell? ⟨b, p, none⟩ = some (.string E.g) ∧ w'.cell? ⟨b, p + 1, none⟩ = some (.string E.o) ∧ w'.cell? ⟨b, p + 2, none⟩ = some (.slice E.a E.ss.length E.c) ∧
  w'.cell? ⟨bx, 0, none⟩ = some (.string x.f) ∧ w'.cell? ⟨bx, 1, none⟩ = some (.int .i64 x.l) ∧ w'.cell? ⟨bx, 2, none⟩ = some (.int .i64 x.e) ∧ w'.cell? ⟨bx, 3, none⟩ = some (.string x.g) ∧
  w'.cell? ⟨bx, 4, none⟩ = some (.string x.o) ∧ w'.cell? ⟨bx, 5, none⟩ = some (.string x.v) ∧ w'.cell? ⟨bx, 6, none⟩ = some (.bool x.h)
theorem heldK_kept {b p bx : Nat} {E : Ent} {x : Stg} {w w' : World} (hk : CellsKept w w') (h : HeldK b p bx E x w) : HeldK b p bx E x w' :=
  ⟨hk _ _ h.1, hk _ _ h.2.1, hk _ _ h.2.2.1, hk _ _ h.2.2.2.1, hk _ _ h.2.2.2.2.1, hk _ _ h.2.2.2.2.2.1, hk _ _ h.2.2.2.2.2.2.1, hk _ _ h.2.2.2.2.2.2.2.1, hk _ _ h.2.2.2.2.2.2.2.2.1, hk _ _ h.2.2.2.2.2.2.2.2.2⟩
theorem cellsKept_below {w w' : World} (hb : Below w.heap.size w w') : CellsKept w w' := fun _ _ h => cell_later hb h

set_option maxRecDepth 20000 in
set_option maxHeartbeats 4000000 in
theorem kept_any (a : Option Addr) (c : Nat) (es : List Ent) (drop : Bool) (x : Stg) (hl : es.length ≤ 4096) (hss : ∀ E ∈ es, E.ss.length ≤ 4096) (w : World) (hr : ERow w a es) :
    Calls Try.prog 16 #[.slice a es.length c, .bool drop, sv x] w fun e w' => e = .returned (.map (some (w.heap.size + 1))) ∧ TblIs w' (w.heap.size + 1) (tblOf drop x es) ∧ Below w.heap.size w w' := by
  have HR : Hid (ERow w a es) := hr
  have HSS : Hid (∀ E ∈ es, E.ss.length ≤ 4096) := hss
  have hmm := make35 es.length (w.alloc (obM x))
  have hal : Below w.heap.size w ((w.alloc (obM x)).alloc (.map #[] 0)) := ((Below.refl _ _).alloc (Nat.le_refl _) _).alloc (by simp) _
  have HT0 : Hid (TblIs ((w.alloc (obM x)).alloc (.map #[] 0)) (w.heap.size + 1) (fun _ _ => [])) := by
    show TblIs _ _ _
    have := tbl_made (w.alloc (obM x))
    simpa using this
  have hx0 : StgAt ((w.alloc (obM x)).alloc (.map #[] 0)) w.heap.size 0 x := by unfold StgAt; go_simp
  have HX0 : Hid (StgAt ((w.alloc (obM x)).alloc (.map #[] 0)) w.heap.size 0 x) := hx0
  clear hr hss hx0
  generalize hn : es.length = n at *
  have HN : Hid (es.length = n) := hn
  clear hn
  go_enter Try.func16, Try.ntmps16
  go_wp2_with fail
  go_loopw [8] (fun i wr => ∃ (k : Nat), k ≤ n ∧ i = .int .i64 k ∧ TblIs wr (w.heap.size + 1) (tblOf drop x (es.take k)) ∧ StgAt wr w.heap.size 0 x ∧ Below w.heap.size w wr) (fun i _ => n - (intOf i).toNat)
  case atStart => exact ⟨0, by omega, rfl, HT0.out, HX0.out, hal⟩
  case round =>
    obtain ⟨k, hk, rfl, htb, hxa, hb⟩ := hrel
    by_cases hlt : k < n
    · have hki : (k : Int) < (n : Int) := by omega
      obtain ⟨b, o, rfl, hE⟩ := HR.out (by have := HN.out; omega)
      obtain ⟨E, hEk⟩ : ∃ E, es[k]? = some E := ⟨es[k]'(by have := HN.out; omega), by simp⟩
      obtain ⟨e0, e1, e2, e3⟩ := (hE k E hEk).later hb
      have hE4 := HSS.out E (List.mem_of_getElem? hEk)
      have HE3 : Hid (SRow wr E.a E.ss) := e3
      have HTB : Hid (TblIs wr (w.heap.size + 1) (tblOf drop x (es.take k))) := htb
      have HXA : Hid (StgAt wr w.heap.size 0 x) := hxa
      have HTS : Hid (tblOf drop x (es.take (k + 1)) = updT (tblOf drop x (es.take k)) E.g E.o (filt drop x E.ss)) := by
        show _ = _
        rw [← tblOf_snoc, List.take_add_one, hEk]; rfl
      have hH : HeldK b (o + k * 3) w.heap.size E x wr := by
        obtain ⟨x0, x1, x2, x3, x4, x5, x6⟩ := hxa
        exact ⟨e0, e1, e2, x0, x1, x2, x3, x4, x5, x6⟩
      have HH : Hid (HeldK b (o + k * 3) w.heap.size E x wr) := hH
      clear hE hEk e0 e1 e2 e3 htb hxa hH
      go_upto_region 5 with fail
      go_region_held3 (fun w' => w'.cell? ⟨b, o + k * 3, none⟩ = some (.string E.g) ∧ w'.cell? ⟨b, o + k * 3 + 1, none⟩ = some (.string E.o) ∧ w'.cell? ⟨b, o + k * 3 + 2, none⟩ = some (.slice E.a E.ss.length E.c) ∧ w'.cell? ⟨w.heap.size, 0, none⟩ = some (.string x.f) ∧ w'.cell? ⟨w.heap.size, 1, none⟩ = some (.int .i64 x.l) ∧ w'.cell? ⟨w.heap.size, 2, none⟩ = some (.int .i64 x.e) ∧ w'.cell? ⟨w.heap.size, 3, none⟩ = some (.string x.g) ∧ w'.cell? ⟨w.heap.size, 4, none⟩ = some (.string x.o) ∧ w'.cell? ⟨w.heap.size, 5, none⟩ = some (.string x.v) ∧ w'.cell? ⟨w.heap.size, 6, none⟩ = some (.bool x.h))
        (first | exact HH.out | exact heldK_kept (cellsKept_below hb2) (by assumption) | exact heldK_kept hup2.cells (by assumption))
        (first
          | (go_at_call 18; refine (list_any E.a E.c E.ss drop x hE4 _ (HE3.out.later (Below.refl _ _).drew)).mono ?_; rintro e w2 ⟨⟨a2, c2, rfl, hn2, hrow⟩, hb2⟩; obtain ⟨w3, hup, htb3, hup2⟩ := tbl_update ((HTB.out.later (Below.refl _ _).drew).later hb2) E.g E.o a2 c2 (filt drop x E.ss) hn2 hrow))
      have hb3 : Below w.heap.size w w3 := (hb.drew.trans (hb2.mono (by simpa using hb.size))).trans (hup2.below (by omega))
      have hx3 : StgAt w3 w.heap.size 0 x := (HXA.out.later ((Below.refl _ _).drew.trans (by simpa using hb2))).kept hup2.cells
      go_wp2_with fail
      exact ⟨⟨k + 1, by omega, by go_num, by rw [HTS.out]; exact htb3, hx3, hb3⟩, by simp [intOf]; omega⟩
    · have hlt0 : ¬ (k : Int) < (n : Int) := by omega
      have HTB : Hid (TblIs wr (w.heap.size + 1) (tblOf drop x es)) := by
        show TblIs _ _ _
        rwa [List.take_of_length_le (by have := HN.out; omega)] at htb
      clear htb hxa
      go_wp2_with fail
      go_ret
      exact ⟨rfl, HTB.out, hb⟩

end Go.Proofs.Qxb6630397a
