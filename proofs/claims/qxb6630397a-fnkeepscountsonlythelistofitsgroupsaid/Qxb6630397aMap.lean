import Derived.Test.Qxb6630397aRows
import Derived.WalkKit
import Derived.WalkSpells
import Derived.WalkLawsBesides
import Derived.MapKept
import Derived.ChangeMaps4
namespace Go.Proofs.Qxb6630397a
open Go.RowKit
open Go.ChangeMaps (setBlock)

/-! ### A map keyed by (Group, Option): the model's own run, over the list of its entries -/
/-- a key of the kept settings -/
abbrev kv (G O : ByteArray) : Value := .agg #[.string G, .string O]

theorem tl_eq (a b : ByteArray) : (a.toList = b.toList) = (a = b) := by
  apply propext
  rw [ByteArray.toList_eq, ByteArray.toList_eq]
  constructor
  · intro e; apply ByteArray.ext; exact Array.toList_inj.1 e
  · rintro rfl; rfl

theorem eq_key (G O G' O' : ByteArray) (w : World) : (Op.equal 44 (kv G O) (kv G' O')).run Try.prog w = .ok (decide (G = G' ∧ O = O')) w := by
  unfold Op.equal Op.maxDepth
  go_simp
  simp only [tl_eq]
  by_cases h1 : G = G' <;> by_cases h2 : O = O' <;> simp [h1, h2]

theorem check_key (em : Bool) (G O : ByteArray) (w : World) : (Instr.checkKey em 10000 44 (kv G O)).run Try.prog w = .ok () w := by
  kernel_rfl

/-- an entry, as read -/
structure KE where
  g : ByteArray
  o : ByteArray
  v : Value

/-- the block's entries are these -/
def MapEnts (es : Array MapEntry) (l : List KE) : Prop := es.toList.map (fun e => (e.key, e.val)) = l.map (fun k => (kv k.g k.o, k.v))

/-- the first entry at a key -/
def findE (G O : ByteArray) : List KE → Nat → Option (Nat × Value)
  | [], _ => none
  | k :: l, i => if G = k.g ∧ O = k.o then some (i, k.v) else findE G O l (i + 1)
/-- the element at a key -/
def valE (G O : ByteArray) : List KE → Option Value
  | [] => none
  | k :: l => if G = k.g ∧ O = k.o then some k.v else valE G O l
/-- a store -/
def setE (G O : ByteArray) (v : Value) : List KE → List KE
  | [] => [⟨G, O, v⟩]
  | k :: l => if G = k.g ∧ O = k.o then ⟨G, O, v⟩ :: l else k :: setE G O v l

theorem findE_val (G O : ByteArray) : ∀ (l : List KE) (i : Nat), (findE G O l i).map (·.2) = valE G O l
  | [], _ => rfl
  | k :: l, i => by
    unfold findE valE
    split
    · rfl
    · exact findE_val G O l (i + 1)

theorem valE_set (G O : ByteArray) (v : Value) (G' O' : ByteArray) : ∀ l : List KE, valE G' O' (setE G O v l) = if G' = G ∧ O' = O then some v else valE G' O' l
  | [] => by simp [setE, valE]
  | k :: l => by
    unfold setE
    split
    · rename_i h
      obtain ⟨h1, h2⟩ := h
      unfold valE
      subst h1; subst h2
      by_cases c : G' = k.g ∧ O' = k.o
      · simp [c]
      · simp [c]
    · rename_i h
      unfold valE
      rw [valE_set G O v G' O' l]
      by_cases c : G' = k.g ∧ O' = k.o
      · obtain ⟨c1, c2⟩ := c
        subst c1; subst c2
        have hn : ¬ (k.g = G ∧ k.o = O) := fun e => h ⟨e.1.symm, e.2.symm⟩
        simp [hn]
      · rw [if_neg c, if_neg c]

/-- the first entry's place, and what a store does there -/
theorem findE_some {G O : ByteArray} : ∀ {l : List KE} {i j : Nat} {v : Value}, findE G O l i = some (j, v) → ∃ p, j = i + p ∧ (∃ k, l[p]? = some k ∧ k.g = G ∧ k.o = O) ∧ ∀ v', setE G O v' l = l.set p ⟨G, O, v'⟩
  | [], _, _, _, h => by cases h
  | k :: l, i, j, v, h => by
    unfold findE at h
    by_cases c : G = k.g ∧ O = k.o
    · rw [if_pos c] at h
      cases h
      exact ⟨0, rfl, ⟨k, rfl, c.1.symm, c.2.symm⟩, fun v' => by unfold setE; rw [if_pos c]; rfl⟩
    · rw [if_neg c] at h
      obtain ⟨p, h1, ⟨k', h2, h3⟩, h4⟩ := findE_some h
      exact ⟨p + 1, by omega, ⟨k', by simpa using h2, h3⟩, fun v' => by unfold setE; rw [if_neg c, h4 v']; rfl⟩
theorem findE_none {G O : ByteArray} : ∀ {l : List KE} {i : Nat}, findE G O l i = none → ∀ v', setE G O v' l = l ++ [⟨G, O, v'⟩]
  | [], _, _, _ => rfl
  | k :: l, i, h, v' => by
    unfold findE at h
    by_cases c : G = k.g ∧ O = k.o
    · rw [if_pos c] at h; cases h
    · rw [if_neg c] at h
      unfold setE
      rw [if_neg c, findE_none h v']; rfl

theorem run_findAsking (G O : ByteArray) (w : World) : ∀ (l : List MapEntry) (ls : List KE) (i : Nat), l.map (fun e => (e.key, e.val)) = ls.map (fun k => (kv k.g k.o, k.v)) →
    (Instr.findAsking 44 (kv G O) l i).run Try.prog w = .ok (findE G O ls i) w
  | [], [], i, _ => rfl
  | [], _ :: _, _, h => by simp at h
  | _ :: _, [], _, h => by simp at h
  | e :: l, k :: ls, i, h => by
    simp only [List.map_cons, List.cons.injEq, Prod.mk.injEq] at h
    obtain ⟨⟨h1, h2⟩, h3⟩ := h
    unfold Instr.findAsking findE
    rw [h1]
    simp only [Sem.run_bind, eq_key, Result.andThen_ok]
    by_cases c : G = k.g ∧ O = k.o
    · simp [c, h2]
    · simp only [c, decide_false, Bool.false_eq_true, if_false]
      exact run_findAsking G O w l ls (i + 1) h3

theorem run_findKey44 (G O : ByteArray) (w : World) (l : List MapEntry) (ls : List KE) (h : l.map (fun e => (e.key, e.val)) = ls.map (fun k => (kv k.g k.o, k.v))) :
    (Instr.findKey 44 (kv G O) l).run Try.prog w = .ok (findE G O ls 0) w := by
  unfold Instr.findKey
  simp only [Sem.run_bind, run_underlying Try.underlying44, Result.andThen_ok]
  cases l with
  | nil =>
    cases ls with
    | nil => rfl
    | cons k ls => simp at h
  | cons e l =>
    have : Instr.findNow (.struct #[{ name := "Group", type := 9, offset := 0, embedded := false, tag := "", pkgPath := "", byteOffset := 0 }, { name := "Option", type := 9, offset := 1, embedded := false, tag := "", pkgPath := "", byteOffset := 16 }]) (kv G O) (e :: l) 0 = none := by
      unfold Instr.findNow Instr.sameNow; rfl
    rw [this]
    exact run_findAsking G O w (e :: l) ls 0 h

theorem run_lookup35 {w : World} {B : Nat} {es : Array MapEntry} {clk : Nat} {l : List KE} (hb : w.heap[B]? = some (.map es clk)) (hl : MapEnts es l) (G O : ByteArray) :
    (Instr.lookup 35 (.map (some B)) (kv G O) false).run Try.prog w = .ok ((valE G O l).getD (.slice none 0 0)) w := by
  have hf := run_findKey44 G O w es.toList l hl
  unfold Instr.lookup
  simp only [Sem.run_bind, run_underlying Try.underlying35, Result.andThen_ok, MapKept.run_getObj_map hb, Sem.run_pure, check_key, hf]
  rw [← findE_val G O l 0]
  cases findE G O l 0 with
  | none => simp
  | some r => simp

theorem heap_setBlock {w : World} {b : Nat} {o o' : Obj} (hb : w.heap[b]? = some o) : (setBlock w b o').heap[b]? = some o' ∧ ∀ k, k ≠ b → (setBlock w b o').heap[k]? = w.heap[k]? :=
  MapKept.heap_set hb

theorem beqB (a b : ByteArray) : (a == b) = decide (a = b) := by
  rw [beq_toListBytes, Bool.eq_iff_iff]
  simp only [beq_iff_eq, decide_eq_true_eq, tl_eq]

theorem stays (G O : ByteArray) : Instr.sameBits 10000 (kv G O) (kv G O) = true := by
  simp [Instr.sameBits, beqB]

theorem run_update35 {w : World} {B : Nat} {es : Array MapEntry} {clk : Nat} {l : List KE} (hb : w.heap[B]? = some (.map es clk)) (hl : MapEnts es l) (G O : ByteArray) (v : Value) :
    ∃ es' clk', (Instr.mapUpdate 35 (.map (some B)) (kv G O) v).run Try.prog w = .ok () (setBlock w B (.map es' clk')) ∧ MapEnts es' (setE G O v l) := by
  have hf := run_findKey44 G O w es.toList l hl
  unfold Instr.mapUpdate
  simp only [Sem.run_bind, run_underlying Try.underlying35, Result.andThen_ok, MapKept.run_getObj_map hb, check_key, hf]
  cases hfe : findE G O l 0 with
  | none =>
    refine ⟨es.push { key := kv G O, val := v, born := clk }, clk + 1, ?_, ?_⟩
    · simp only [MapKept.run_setObj_map _ hb]; rfl
    · unfold MapEnts at hl ⊢
      rw [findE_none hfe v, List.map_append, ← hl]
      simp
  | some r =>
    obtain ⟨j, v0⟩ := r
    obtain ⟨p, h1, ⟨k, h2, h3, h4⟩, h5⟩ := findE_some hfe
    have hjp : j = p := by omega
    subst hjp
    have hlen : es.toList.length = l.length := by have := congrArg List.length hl; simpa using this
    have hp : j < es.size := by
      have : j < l.length := (List.getElem?_eq_some_iff.1 h2).1
      simpa using (by omega : j < es.toList.length)
    have hkey : es[j].key = kv G O := by
      have := congrArg (fun L => L[j]?) hl
      simp [h2, hp] at this
      rw [this.1, h3, h4]
    have hst : (Instr.keyThatStays (((es[j]?).map (·.key)).getD (kv G O)) (kv G O)).run Try.prog w = .ok (kv G O) w := by
      unfold Instr.keyThatStays
      simp [hp, hkey, stays G O]
    refine ⟨es.modify j fun e => { e with key := kv G O, val := v }, clk, ?_, ?_⟩
    · simp only [Sem.run_bind, hst, Result.andThen_ok, MapKept.run_setObj_map _ hb]; rfl
    · unfold MapEnts at hl ⊢
      rw [h5 v, List.map_set, ← hl]
      apply List.ext_getElem?
      intro i
      simp only [Array.toList_modify, List.getElem?_map, List.getElem?_modify, List.getElem?_set, List.length_map]
      by_cases hi : j = i
      · subst hi
        simp [hp]
      · simp [hi]

/-! ### A map from strings to bools -/
/-- an entry, as read -/
structure GE where
  n : ByteArray
  b : Bool
def GrpEnts (es : Array MapEntry) (l : List GE) : Prop := es.toList.map (fun e => (e.key, e.val)) = l.map (fun k => (Value.string k.n, Value.bool k.b))
def findG (N : ByteArray) : List GE → Nat → Option (Nat × Value)
  | [], _ => none
  | k :: l, i => if N = k.n then some (i, .bool k.b) else findG N l (i + 1)
def valG (N : ByteArray) : List GE → Bool
  | [] => false
  | k :: l => if N = k.n then k.b else valG N l
def setG (N : ByteArray) (b : Bool) : List GE → List GE
  | [] => [⟨N, b⟩]
  | k :: l => if N = k.n then ⟨N, b⟩ :: l else k :: setG N b l

theorem findG_val (N : ByteArray) : ∀ (l : List GE) (i : Nat), ((findG N l i).map (·.2)).getD (.bool false) = .bool (valG N l)
  | [], _ => rfl
  | k :: l, i => by
    unfold findG valG
    split
    · rfl
    · exact findG_val N l (i + 1)

theorem valG_set (N : ByteArray) (b : Bool) (N' : ByteArray) : ∀ l : List GE, valG N' (setG N b l) = if N' = N then b else valG N' l
  | [] => by simp [setG, valG]
  | k :: l => by
    unfold setG
    split
    · rename_i h
      unfold valG
      subst h
      by_cases c : N' = k.n
      · simp [c]
      · simp [c]
    · rename_i h
      unfold valG
      rw [valG_set N b N' l]
      by_cases c : N' = k.n
      · subst c
        have hn : ¬ k.n = N := fun e => h e.symm
        simp [hn]
      · rw [if_neg c, if_neg c]

theorem findG_some {N : ByteArray} : ∀ {l : List GE} {i j : Nat} {v : Value}, findG N l i = some (j, v) → ∃ p, j = i + p ∧ (∃ k, l[p]? = some k ∧ k.n = N) ∧ ∀ b', setG N b' l = l.set p ⟨N, b'⟩
  | [], _, _, _, h => by cases h
  | k :: l, i, j, v, h => by
    unfold findG at h
    by_cases c : N = k.n
    · rw [if_pos c] at h
      cases h
      exact ⟨0, rfl, ⟨k, rfl, c.symm⟩, fun b' => by unfold setG; rw [if_pos c]; rfl⟩
    · rw [if_neg c] at h
      obtain ⟨p, h1, ⟨k', h2, h3⟩, h4⟩ := findG_some h
      exact ⟨p + 1, by omega, ⟨k', by simpa using h2, h3⟩, fun b' => by unfold setG; rw [if_neg c, h4 b']; rfl⟩
theorem findG_none {N : ByteArray} : ∀ {l : List GE} {i : Nat}, findG N l i = none → ∀ b', setG N b' l = l ++ [⟨N, b'⟩]
  | [], _, _, _ => rfl
  | k :: l, i, h, b' => by
    unfold findG at h
    by_cases c : N = k.n
    · rw [if_pos c] at h; cases h
    · rw [if_neg c] at h
      unfold setG
      rw [if_neg c, findG_none h b']; rfl

theorem findNow_str (N : ByteArray) : ∀ (l : List MapEntry) (ls : List GE) (i : Nat), l.map (fun e => (e.key, e.val)) = ls.map (fun k => (Value.string k.n, Value.bool k.b)) →
    Instr.findNow .string (.string N) l i = some (findG N ls i)
  | [], [], i, _ => rfl
  | [], _ :: _, _, h => by simp at h
  | _ :: _, [], _, h => by simp at h
  | e :: l, k :: ls, i, h => by
    simp only [List.map_cons, List.cons.injEq, Prod.mk.injEq] at h
    obtain ⟨⟨h1, h2⟩, h3⟩ := h
    unfold Instr.findNow findG
    rw [h1]
    have hs : Instr.sameNow .string (.string N) (.string k.n) = some (decide (N = k.n)) := by
      show some (N == k.n) = _; rw [beqB]
    rw [hs]
    by_cases c : N = k.n
    · simp [c, h2]
    · simp only [c, decide_false, if_false]
      exact findNow_str N l ls (i + 1) h3

theorem check_str (em : Bool) (N : ByteArray) (w : World) : (Instr.checkKey em 10000 9 (.string N)).run Try.prog w = .ok () w :=
  MapKept.run_checkKey (k := .string N) Try.underlying9 (by simp [MapKept.IsKey]) em 9999

theorem run_lookup36 {w : World} {B : Nat} {es : Array MapEntry} {clk : Nat} {l : List GE} (hb : w.heap[B]? = some (.map es clk)) (hl : GrpEnts es l) (N : ByteArray) :
    (Instr.lookup 36 (.map (some B)) (.string N) false).run Try.prog w = .ok (.bool (valG N l)) w := by
  have hf : (Instr.findKey 9 (.string N) es.toList).run Try.prog w = .ok (findG N l 0) w := MapKept.run_findKey Try.underlying9 (findNow_str N es.toList l 0 hl)
  unfold Instr.lookup
  simp only [Sem.run_bind, run_underlying Try.underlying36, Result.andThen_ok, MapKept.run_getObj_map hb, Sem.run_pure, check_str, hf]
  rw [← findG_val N l 0]
  cases findG N l 0 with
  | none => simp
  | some r => simp

theorem run_update36 {w : World} {B : Nat} {es : Array MapEntry} {clk : Nat} {l : List GE} (hb : w.heap[B]? = some (.map es clk)) (hl : GrpEnts es l) (N : ByteArray) (b : Bool) :
    ∃ es' clk', (Instr.mapUpdate 36 (.map (some B)) (.string N) (.bool b)).run Try.prog w = .ok () (setBlock w B (.map es' clk')) ∧ GrpEnts es' (setG N b l) := by
  have hf : (Instr.findKey 9 (.string N) es.toList).run Try.prog w = .ok (findG N l 0) w := MapKept.run_findKey Try.underlying9 (findNow_str N es.toList l 0 hl)
  unfold Instr.mapUpdate
  simp only [Sem.run_bind, run_underlying Try.underlying36, Result.andThen_ok, MapKept.run_getObj_map hb, check_str, hf]
  cases hfe : findG N l 0 with
  | none =>
    refine ⟨es.push { key := .string N, val := .bool b, born := clk }, clk + 1, ?_, ?_⟩
    · simp only [MapKept.run_setObj_map _ hb]; rfl
    · unfold GrpEnts at hl ⊢
      rw [findG_none hfe b, List.map_append, ← hl]
      simp
  | some r =>
    obtain ⟨j, v0⟩ := r
    obtain ⟨p, h1, ⟨k, h2, h3⟩, h5⟩ := findG_some hfe
    have hjp : j = p := by omega
    subst hjp
    have hlen : es.toList.length = l.length := by have := congrArg List.length hl; simpa using this
    have hp : j < es.size := by
      have : j < l.length := (List.getElem?_eq_some_iff.1 h2).1
      simpa using (by omega : j < es.toList.length)
    have hkey : es[j].key = .string N := by
      have := congrArg (fun L => L[j]?) hl
      simp [h2, hp] at this
      rw [this.1, h3]
    have hst : (Instr.keyThatStays (((es[j]?).map (·.key)).getD (.string N)) (.string N)).run Try.prog w = .ok (.string N) w := by
      unfold Instr.keyThatStays
      simp [hp, hkey, Instr.sameBits, beqB]
    refine ⟨es.modify j fun e => { e with key := .string N, val := .bool b }, clk, ?_, ?_⟩
    · simp only [Sem.run_bind, hst, Result.andThen_ok, MapKept.run_setObj_map _ hb]; rfl
    · unfold GrpEnts at hl ⊢
      rw [h5 b, List.map_set, ← hl]
      apply List.ext_getElem?
      intro i
      simp only [Array.toList_modify, List.getElem?_map, List.getElem?_modify, List.getElem?_set, List.length_map]
      by_cases hi : j = i
      · subst hi
        simp [hp]
      · simp [hi]

end Go.Proofs.Qxb6630397a
