import Derived.Test.Qxb6631253aCln
namespace Go.Proofs.Qxb6631253a
open Go.RowKit

/-- the slice holds these bytes -/
def Seg (w : World) (v : Value) (xs : List Int) : Prop :=
  (xs = [] ∧ ∃ a c, v = .slice a 0 c) ∨
  ∃ b o c, v = .slice (some ⟨b, o, none⟩) xs.length c ∧ ∀ i, i < xs.length → w.cell? ⟨b, o + i, none⟩ = some (.int .u8 (xs.getD i 0))

theorem Seg.later {w w' : World} {v : Value} {xs : List Int} (h : Seg w v xs) (hb : Below w.heap.size w w') : Seg w' v xs := by
  rcases h with h | ⟨b, o, c, rfl, hc⟩
  · exact .inl h
  · exact .inr ⟨b, o, c, rfl, fun i hi => cell_later hb (hc i hi)⟩

set_option maxHeartbeats 400000 in
theorem same_empty (a1 a2 : Option Addr) (c1 c2 : Nat) (w : World) :
    Calls Try.prog 9 #[.agg #[.int .u8 79, .slice a1 0 c1], .agg #[.int .u8 79, .slice a2 0 c2]] w fun e w' => e = .returned (.bool true) ∧ Below w.heap.size w w' := by
  go_enter Try.func9, Try.ntmps9
  go_wp2
  refine wp_loop_rounds 1 ?_
  rw [rounds_succ]
  go_wp2
  go_ret
  exact ⟨rfl, ((Below.refl _ _).alloc (Nat.le_refl _) _).alloc (by simp) _⟩

set_option maxHeartbeats 400000 in
theorem same_row (b1 o1 c1 b2 o2 c2 : Nat) (xs : List Int) (hx : xs.length ≤ 1048577) (w : World) (h1 : ∀ i, i < xs.length → w.cell? ⟨b1, o1 + i, none⟩ = some (.int .u8 (xs.getD i 0))) (h2 : ∀ i, i < xs.length → w.cell? ⟨b2, o2 + i, none⟩ = some (.int .u8 (xs.getD i 0))) :
    Calls Try.prog 9 #[.agg #[.int .u8 79, .slice (some ⟨b1, o1, none⟩) xs.length c1], .agg #[.int .u8 79, .slice (some ⟨b2, o2, none⟩) xs.length c2]] w fun e w' => e = .returned (.bool true) ∧ Below w.heap.size w w' := by
  generalize hn : xs.length = n at *
  go_enter Try.func9, Try.ntmps9
  go_wp2
  go_loopw [5] (fun i wr => ∃ k : Nat, k ≤ n ∧ i = .int .i64 k ∧ ∃ q, wr = ((w.alloc (.cells #[.int .u8 79, .slice (some ⟨b1, o1, none⟩) n c1] 31)).alloc (.cells #[.int .u8 79, .slice (some ⟨b2, o2, none⟩) n c2] 31)).drewN q) (fun i _ => n - (intOf i).toNat)
  case atStart => exact ⟨0, by omega, rfl, 0, rfl⟩
  case round =>
    obtain ⟨k, hk, rfl, q, rfl⟩ := hrel
    by_cases hlt : k < n
    · have e1 := h1 k hlt
      have e2 := h2 k hlt
      have g1 : b1 < w.heap.size := World.block_lt_of_cell? _ _ e1
      have g2 : b2 < w.heap.size := World.block_lt_of_cell? _ _ e2
      have hki : (k : Int) < (n : Int) := by omega
      go_wp2_with fail
      go_quiet (fail)
      go_wp2_with fail
      exact ⟨⟨k + 1, by omega, by go_num, q + nq, rfl⟩, by simp [intOf]; omega⟩
    · go_wp2_with fail
      go_ret
      exact ⟨rfl, below_drewN (((Below.refl _ _).alloc (Nat.le_refl _) _).alloc (by simp) _) _⟩

theorem same_any (v1 v2 : Value) (xs : List Int) (hx : xs.length ≤ 1048577) (w : World) (h1 : Seg w v1 xs) (h2 : Seg w v2 xs) :
    Calls Try.prog 9 #[.agg #[.int .u8 79, v1], .agg #[.int .u8 79, v2]] w fun e w' => e = .returned (.bool true) ∧ Below w.heap.size w w' := by
  by_cases h0 : xs = []
  · subst h0
    have sh : ∀ v, Seg w v [] → ∃ a c, v = .slice a 0 c := by
      intro v h
      rcases h with ⟨_, h⟩ | ⟨b, o, c, rfl, _⟩
      · exact h
      · exact ⟨_, _, rfl⟩
    obtain ⟨a1, c1, rfl⟩ := sh v1 h1
    obtain ⟨a2, c2, rfl⟩ := sh v2 h2
    exact same_empty a1 a2 c1 c2 w
  · rcases h1 with ⟨h, _⟩ | ⟨b1, o1, c1, rfl, h1⟩
    · exact absurd h h0
    rcases h2 with ⟨h, _⟩ | ⟨b2, o2, c2, rfl, h2⟩
    · exact absurd h h0
    exact same_row b1 o1 c1 b2 o2 c2 xs hx w h1 h2

/-! ### EAPMessage, said of bytes -/
/-- a slice that is nil or leads to these bytes -/
def SegC (w : World) (a : Option Addr) (c : Nat) (xs : List Int) : Prop :=
  (a = none ∧ xs = [] ∧ c = 0) ∨ ∃ b o, a = some ⟨b, o, none⟩ ∧ xs.length ≤ c ∧ ∀ i, i < xs.length → w.cell? ⟨b, o + i, none⟩ = some (.int .u8 (xs.getD i 0))

theorem SegC.later {w w' : World} {a : Option Addr} {c : Nat} {xs : List Int} (h : SegC w a c xs) (hb : Below w.heap.size w w') : SegC w' a c xs := by
  rcases h with h | ⟨b, o, h1, h2, h3⟩
  · exact .inl h
  · exact .inr ⟨b, o, h1, h2, fun i hi => cell_later hb (h3 i hi)⟩

/-- the j-th value -/
def ck (xs : List Int) (j : Nat) : List Int := (xs.drop (253 * j)).take 253
/-- how many values -/
def cnt (n : Nat) : Nat := if n = 0 then 1 else (n + 252) / 253

/-- attributes of type 79 that lie in one row from block B on -/
def Atts (w : World) (B : Nat) (r : Value) (vs : List Value) : Prop :=
  ∃ g cap, r = .slice (some ⟨g, 0, none⟩) vs.length cap ∧ B ≤ g ∧ ∀ j, j < vs.length → w.cell? ⟨g, j * 2, none⟩ = some (.int .u8 79) ∧ w.cell? ⟨g, j * 2 + 1, none⟩ = some (vs.getD j undef)

theorem Atts.later {w w' : World} {B : Nat} {r : Value} {vs : List Value} (h : Atts w B r vs) (hb : Below w.heap.size w w') : Atts w' B r vs := by
  obtain ⟨g, cap, h1, h2, h3⟩ := h
  exact ⟨g, cap, h1, h2, fun j hj => ⟨cell_later hb (h3 j hj).1, cell_later hb (h3 j hj).2⟩⟩

theorem attrs_length (vs : List Value) : (attrs vs).length = 2 * vs.length := by
  induction vs with
  | nil => rfl
  | cons v vs ih => rw [show attrs (v :: vs) = [.int .u8 79, v] ++ attrs vs from rfl, List.length_append, ih]; simp; omega

theorem attrs_get (vs : List Value) : ∀ j, j < vs.length → (attrs vs)[2 * j]? = some (.int .u8 79) ∧ (attrs vs)[2 * j + 1]? = some (vs.getD j undef) := by
  induction vs with
  | nil => intro j hj; simp at hj
  | cons v vs ih =>
    intro j hj
    rw [show attrs (v :: vs) = .int .u8 79 :: v :: attrs vs from rfl]
    match j with
    | 0 => simp
    | j + 1 =>
      have := ih j (by simp at hj; omega)
      rw [show 2 * (j + 1) = 2 * j + 1 + 1 by omega]
      simpa using this

theorem atts_of_row {w : World} {B : Nat} {r : Value} {vs : List Value} (h : w.ownsRow B 31 2 r vs.length (attrs vs)) (h0 : 0 < vs.length) : Atts w B r vs := by
  rcases h.2 with ⟨_, h'⟩ | ⟨g, cap, cur, hr, hB, hg, _⟩
  · omega
  · refine ⟨g, cap, hr, hB, fun j hj => ?_⟩
    have hc := h.cells (g := g) (by rw [hr]; rfl)
    have ha : ∀ i : Nat, (⟨g, 0, none⟩ : Addr).add i = ⟨g, i, none⟩ := fun i => by unfold Addr.add; split <;> simp_all
    obtain ⟨e1, e2⟩ := attrs_get vs j hj
    have c1 := hc _ _ e1
    have c2 := hc _ _ e2
    rw [ha, Nat.mul_comm] at c1 c2
    exact ⟨c1, c2⟩

theorem getD_append_left {l r : List Value} {j : Nat} (h : j < l.length) : (l ++ r).getD j undef = l.getD j undef := by
  simp [List.getD, List.getElem?_append_left h]
theorem getD_fvs {b off c k j : Nat} (h : j < k) : (fvs b off c k).getD j undef = fv b off c j := by
  simp [fvs, List.getD, h]

theorem getD_ck (xs : List Int) (j i : Nat) (hi : i < (ck xs j).length) : (ck xs j).getD i 0 = xs.getD (253 * j + i) 0 := by
  have h253 : i < 253 := by simp [ck] at hi; omega
  have hl : 253 * j + i < xs.length := by simp [ck] at hi; omega
  simp [ck, List.getD, h253]

theorem eap_any (a : Option Addr) (c : Nat) (xs : List Int) (hx : xs.length ≤ 1048577) (w : World) (hs : SegC w a c xs) :
    Calls Try.prog 7 #[.slice a xs.length c] w fun e w' => ∃ r vs, e = .returned r ∧ vs.length = cnt xs.length ∧ Atts w' w.heap.size r vs ∧ (∀ j, j < vs.length → Seg w' (vs.getD j undef) (ck xs j)) ∧ Below w.heap.size w w' := by
  rcases hs with ⟨rfl, rfl, rfl⟩ | ⟨b, o, rfl, hc, hcell⟩
  · refine (eap_nil w).mono ?_
    rintro e w' ⟨r, rfl, hr, hb⟩
    refine ⟨r, [.slice none 0 0], rfl, rfl, atts_of_row hr (by simp), fun j hj => ?_, hb⟩
    have : j = 0 := by simp at hj; omega
    subst this
    exact .inl ⟨rfl, none, 0, rfl⟩
  · refine (eap_row b o xs.length c hx hc w).mono ?_
    rintro e w' ⟨r, k, rfl, hk, hk1, hr, hb⟩
    have hlen : (fvs b o c k ++ [Value.slice (some ⟨b, o + 253 * k, none⟩) (xs.length - 253 * k) (c - 253 * k)]).length = k + 1 := by simp [fvs]
    refine ⟨r, _, rfl, ?_, atts_of_row (by rw [hlen]; exact hr) (by rw [hlen]; omega), fun j hj => ?_, hb⟩
    · rw [hlen]; unfold cnt; split <;> omega
    · rw [hlen] at hj
      right
      rcases Nat.lt_or_ge j k with hjk | hjk
      · have hcl : (ck xs j).length = 253 := by simp [ck]; omega
        refine ⟨b, o + 253 * j, c - 253 * j, ?_, fun i hi => ?_⟩
        · rw [getD_append_left (by simpa [fvs] using hjk), getD_fvs hjk, hcl]; rfl
        · rw [getD_ck xs j i hi, show o + 253 * j + i = o + (253 * j + i) by omega]
          exact cell_later hb (hcell _ (by rw [hcl] at hi; omega))
      · have : j = k := by omega
        subst this
        have hcl : (ck xs j).length = xs.length - 253 * j := by simp [ck]; omega
        refine ⟨b, o + 253 * j, c - 253 * j, ?_, fun i hi => ?_⟩
        · rw [hcl]; simp [List.getD, fvs]
        · rw [getD_ck xs j i hi, show o + 253 * j + i = o + (253 * j + i) by omega]
          exact cell_later hb (hcell _ (by rw [hcl] at hi; omega))

end Go.Proofs.Qxb6631253a
