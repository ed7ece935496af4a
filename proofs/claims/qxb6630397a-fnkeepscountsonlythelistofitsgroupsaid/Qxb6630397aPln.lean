import Derived.Test.Qxb6630397aKps
namespace Go.Proofs.Qxb6630397a

/-- no list is longer than this -/
def TblLe (n : Nat) (T : Tbl) : Prop := ∀ G O, (T G O).length ≤ n
theorem updT_le {n : Nat} {T : Tbl} (h : TblLe n T) (G O : ByteArray) {ss : List Stg} (hs : ss.length ≤ n) : TblLe n (updT T G O ss) := by
  intro G' O'
  unfold updT
  split
  · exact hs
  · exact h _ _
theorem foldT_le {n : Nat} (drop : Bool) (x : Stg) : ∀ (es : List Ent) (T : Tbl), TblLe n T → (∀ E ∈ es, E.ss.length ≤ n) → TblLe n (es.foldl (fun T E => updT T E.g E.o (filt drop x E.ss)) T)
  | [], _, h, _ => h
  | E :: es, T, h, he => foldT_le drop x es _ (updT_le h _ _ (Nat.le_trans (List.length_filter_le _ _) (he E (by simp)))) (fun E' h' => he E' (by simp [h']))
theorem tblOf_le {n : Nat} (drop : Bool) (x : Stg) {es : List Ent} (h : ∀ E ∈ es, E.ss.length ≤ n) : TblLe n (tblOf drop x es) :=
  foldT_le drop x es _ (fun _ _ => by simp) h

theorem filt_twice (x : Stg) (l : List Stg) : filt true x l = filt true x (filt false x l) := by
  unfold filt
  simp
theorem foldT_filt (x : Stg) : ∀ (es : List Ent) (T T' : Tbl), (∀ G O, T' G O = filt true x (T G O)) →
    ∀ G O, es.foldl (fun T E => updT T E.g E.o (filt true x E.ss)) T' G O = filt true x (es.foldl (fun T E => updT T E.g E.o (filt false x E.ss)) T G O)
  | [], _, _, h => h
  | E :: es, T, T', h => foldT_filt x es _ _ (fun G O => by
      show updT T' E.g E.o _ G O = filt true x (updT T E.g E.o _ G O)
      unfold updT
      split
      · exact filt_twice x _
      · exact h G O)
theorem tblOf_filt (x : Stg) (es : List Ent) (G O : ByteArray) : tblOf true x es G O = filt true x (tblOf false x es G O) :=
  foldT_filt x es _ _ (fun _ _ => by simp [filt]) G O

/-- the answer of Keeps -/
def kp (Tk : Tbl) (f : ByteArray → Bool) (Ts : Tbl) (x : Stg) : Bool := (pick Tk f Ts x).any (sEq · x)
theorem sEq_comm (a b : Stg) : sEq a b = sEq b a := by
  rw [Bool.eq_iff_iff, sEq_iff, sEq_iff]
  exact ⟨fun h => h.symm, fun h => h.symm⟩
theorem any_filt (x t : Stg) (l : List Stg) : (filt true x l).any (sEq · t) = (l.any (sEq · t) && !sEq t x) := by
  rw [Bool.eq_iff_iff]
  simp only [filt, List.any_filter, Bool.and_eq_true, List.any_eq_true, Bool.not_eq_true', sEq_iff, Bool.true_and]
  constructor
  · rintro ⟨s, hs, h1, rfl⟩
    exact ⟨⟨s, hs, rfl⟩, h1⟩
  · rintro ⟨⟨s, hs, rfl⟩, h1⟩
    exact ⟨s, hs, h1, rfl⟩
theorem any_snoc (x t : Stg) (l : List Stg) : (l ++ [x]).any (sEq · t) = (l.any (sEq · t) || sEq t x) := by
  simp [List.any_append, sEq_comm x t]

/-- one put -/
def putT (T : Tbl) (G O : ByteArray) (x : Stg) : Tbl := updT T G O (T G O ++ [x])
theorem putT_le {n : Nat} {T : Tbl} (h : TblLe n T) (G O : ByteArray) (x : Stg) : TblLe (n + 1) (putT T G O x) :=
  updT_le (fun G O => Nat.le_trans (h G O) (by omega)) G O (by have := h G O; simp; omega)
theorem pick_le {n : Nat} {Tk Ts : Tbl} (h1 : TblLe n Tk) (h2 : TblLe n Ts) (f : ByteArray → Bool) (x : Stg) : (pick Tk f Ts x).length ≤ n := by
  unfold pick
  split
  · exact h2 _ _
  · exact h1 _ _

theorem any_put (T : Tbl) (G O : ByteArray) (x : Stg) (G' O' : ByteArray) (t : Stg) (h : t = x → G' = G ∧ O' = O) :
    (putT T G O x G' O').any (sEq · t) = ((T G' O').any (sEq · t) || sEq t x) := by
  unfold putT updT
  by_cases hc : G' = G ∧ O' = O
  · rw [if_pos hc, any_snoc, hc.1, hc.2]
  · rw [if_neg hc]
    have : sEq t x = false := by
      rw [Bool.eq_false_iff]
      intro hs
      exact hc (h ((sEq_iff _ _).1 hs))
    rw [this, Bool.or_false]

theorem law_put (Tk : Tbl) (f : ByteArray → Bool) (Ts : Tbl) (s t : Stg) : kp (putT Tk s.g s.o s) f (putT Ts nob s.o s) t = (kp Tk f Ts t || sEq t s) := by
  unfold kp pick
  split
  · exact any_put Ts nob s.o s nob t.o t (fun h => by rw [h]; exact ⟨rfl, rfl⟩)
  · exact any_put Tk s.g s.o s t.g t.o t (fun h => by rw [h]; exact ⟨rfl, rfl⟩)
theorem sEq_refl (s : Stg) : sEq s s = true := (sEq_iff s s).2 rfl
theorem law_put_self (Tk : Tbl) (f : ByteArray → Bool) (Ts : Tbl) (s : Stg) : kp (putT Tk s.g s.o s) f (putT Ts nob s.o s) s = true := by
  rw [law_put, sEq_refl, Bool.or_true]
theorem law_take (s t : Stg) (ks : List Ent) (f : ByteArray → Bool) (ss : List Ent) : kp (tblOf true s ks) f (tblOf true s ss) t = (kp (tblOf false s ks) f (tblOf false s ss) t && !sEq t s) := by
  unfold kp pick
  split
  · rw [tblOf_filt, any_filt]
  · rw [tblOf_filt, any_filt]
theorem law_take_self (s : Stg) (ks : List Ent) (f : ByteArray → Bool) (ss : List Ent) : kp (tblOf true s ks) f (tblOf true s ss) s = false := by
  rw [law_take, sEq_refl]; simp
theorem law_kept (Tk : Tbl) (f : ByteArray → Bool) (Ts : Tbl) (s : Stg) : kp (putT Tk s.g s.o s) f Ts s = (kp Tk f Ts s || !f s.g) := by
  unfold kp pick
  split
  · rename_i h; rw [h]; simp
  · rename_i h
    rw [any_put Tk s.g s.o s s.g s.o s (fun _ => ⟨rfl, rfl⟩), sEq_refl, Bool.eq_false_iff.2 h]; simp
theorem law_served (Tk : Tbl) (f : ByteArray → Bool) (Ts : Tbl) (s : Stg) : kp Tk f (putT Ts nob s.o s) s = (kp Tk f Ts s || f s.g) := by
  unfold kp pick
  split
  · rename_i h
    rw [any_put Ts nob s.o s nob s.o s (fun _ => ⟨rfl, rfl⟩), sEq_refl, h]
  · rename_i h; rw [Bool.eq_false_iff.2 h]; simp

end Go.Proofs.Qxb6630397a
