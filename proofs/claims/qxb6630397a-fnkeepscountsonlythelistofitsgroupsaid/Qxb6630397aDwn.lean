import Derived.Test.Qxb6630397aDat
import Derived.Deep.Slices
namespace Go.Proofs.Qxb6630397a
open Go.ChangeShapes Go.WideShapes

theorem cells49 : Try.prog.cellsOf 49 = 2 := by kernel_rfl
theorem cells9 : Try.prog.cellsOf 9 = 1 := by kernel_rfl
theorem cells4 : Try.prog.cellsOf 4 = 1 := by kernel_rfl
theorem cells52 : Try.prog.cellsOf 52 = 3 := by kernel_rfl
theorem cells50 : Try.prog.cellsOf 50 = 1 := by kernel_rfl
theorem cells25 : Try.prog.cellsOf 25 = 7 := by kernel_rfl
theorem cells3 : Try.prog.cellsOf 3 = 1 := by kernel_rfl


theorem spot_none {w : World} {a : Addr} {v : Value} (h : w.cell? a = some v) : ∃ b o, a = ⟨b, o, none⟩ := by
  obtain ⟨b, o, s⟩ := a
  cases s with
  | none => exact ⟨b, o, rfl⟩
  | some s =>
    unfold World.cell? at h
    split at h <;> simp at h

theorem at_add (b o n : Nat) : (⟨b, o, none⟩ : Addr).add n = ⟨b, o + n, none⟩ := by
  unfold Addr.add
  split <;> simp_all

theorem cells_at {w : World} {b o n k : Nat} {cs : List Value} (h : w.cells? 0 ((⟨b, o, none⟩ : Addr).add n) k = some cs) (r : Nat) (hr : r < k) : w.cell? ⟨b, o + n + r, none⟩ = cs[r]? := by
  have := (World.cells?_some h).2.2 r hr
  rwa [at_add, at_add] at this

section
variable {H : Type} {enc : TypeId × Value → H} {w : World} {held : Bool}

theorem down25 {n : Nat} {cs : List Value} {y : DataW H × List MemPlace} (h : DataW.trod enc Try.prog w 0 (fun _ => true) held n 25 cs = some y) :
    ∃ s : Stg, s.ok ∧ cs = [.string s.f, .int .i64 s.l, .int .i64 s.e, .string s.g, .string s.o, .string s.v, .bool s.h] := by
  obtain ⟨xs, m, _, rfl, hl, hlen, hf⟩ := DataW.trod_struct Try.underlying25 h
  rw [cells25] at hl
  match cs, hl with
  | [c0, c1, c2, c3, c4, c5, c6], _ =>
    match xs, hlen with
    | [y0, y1, y2, y3, y4, y5, y6], _ =>
      have h0 := hf 0 _ rfl
      have h1 := hf 1 _ rfl
      have h2 := hf 2 _ rfl
      have h3 := hf 3 _ rfl
      have h4 := hf 4 _ rfl
      have h5 := hf 5 _ rfl
      have h6 := hf 6 _ rfl
      simp [cells9, cells3, cells4] at h0 h1 h2 h3 h4 h5 h6
      obtain ⟨s0, e0, _, z0⟩ := DataW.trod_string Try.underlying9 h0
      obtain ⟨s1, e1, _, _⟩ := DataW.trod_int Try.underlying3 h1
      obtain ⟨s2, e2, _, _⟩ := DataW.trod_int Try.underlying3 h2
      obtain ⟨s3, e3, _, z3⟩ := DataW.trod_string Try.underlying9 h3
      obtain ⟨s4, e4, _, z4⟩ := DataW.trod_string Try.underlying9 h4
      obtain ⟨s5, e5, _, z5⟩ := DataW.trod_string Try.underlying9 h5
      obtain ⟨s6, e6, _⟩ := DataW.trod_bool Try.underlying4 h6
      cases e0; cases e1; cases e2; cases e3; cases e4; cases e5; cases e6
      exact ⟨⟨s0, s1, s2, s3, s4, s5, s6⟩, ⟨z0, z3, z4, z5⟩, rfl⟩

theorem down50 {n : Nat} {v : Value} {y : DataW H × List MemPlace} (h : DataW.trod enc Try.prog w 0 (fun _ => true) held n 50 [v] = some y) :
    ∃ a ss c, v = .slice a (List.length ss) c ∧ ss.length ≤ maxLen ∧ (∀ s ∈ ss, Stg.ok s) ∧ SRow w a ss := by
  rcases Deep.open_slice Try.underlying50 h with ⟨hcs, _⟩ | ⟨a, len, cap, m, n', D, Pl, hcs, _, hlc, hcm, hm, _, hel⟩
  · cases hcs
    exact ⟨none, [], 0, rfl, by simp, by simp, fun h => by simp at h⟩
  · cases hcs
    have hm' : m = cap := by simpa using hm
    rw [cells25] at hel
    haveI : Inhabited Stg := ⟨⟨ByteArray.empty, 0, 0, ByteArray.empty, ByteArray.empty, ByteArray.empty, false⟩⟩
    obtain ⟨S, hS⟩ := Deep.choose_lt (α := Stg) (n := len) (p := fun i s => s.ok ∧ w.cells? 0 (a.add (i * 7)) 7 = some [.string s.f, .int .i64 s.l, .int .i64 s.e, .string s.g, .string s.o, .string s.v, .bool s.h]) (fun i hi => by
      obtain ⟨cs', h1, h2⟩ := hel i (by omega)
      obtain ⟨s, hs, rfl⟩ := down25 h2
      exact ⟨s, hs, h1⟩)
    refine ⟨some a, (List.range len).map S, cap, by simp, by simp; omega, ?_, ?_⟩
    · intro s hs
      simp at hs
      obtain ⟨i, hi, rfl⟩ := hs
      exact (hS i hi).1
    · intro h0
      have h0 : 0 < len := by simpa using h0
      have hc0 := (World.cells?_some (hS 0 h0).2).2.2 0 (by omega)
      obtain ⟨b, o, rfl⟩ := spot_none (a := a) (v := .string (S 0).f) (by simpa [Addr.add] using hc0)
      refine ⟨b, o, rfl, fun j s hj => ?_⟩
      have hjl : j < len := by
        have := (List.getElem?_eq_some_iff.1 hj).1
        simpa using this
      have hsj : s = S j := by
        rw [List.getElem?_map, List.getElem?_range hjl] at hj
        simpa using hj.symm
      subst hsj
      have hc := (hS j hjl).2
      exact ⟨cells_at hc 0 (by omega), cells_at hc 1 (by omega), cells_at hc 2 (by omega), cells_at hc 3 (by omega), cells_at hc 4 (by omega), cells_at hc 5 (by omega), cells_at hc 6 (by omega)⟩

theorem down52 {n : Nat} {cs : List Value} {y : DataW H × List MemPlace} (h : DataW.trod enc Try.prog w 0 (fun _ => true) held n 52 cs = some y) :
    ∃ E : Ent, E.ok ∧ SRow w E.a E.ss ∧ cs = [.string E.g, .string E.o, .slice E.a E.ss.length E.c] := by
  obtain ⟨xs, m, _, rfl, hl, hlen, hf⟩ := DataW.trod_struct Try.underlying52 h
  rw [cells52] at hl
  match cs, hl with
  | [c0, c1, c2], _ =>
    match xs, hlen with
    | [y0, y1, y2], _ =>
      have h0 := hf 0 _ rfl
      have h1 := hf 1 _ rfl
      have h2 := hf 2 _ rfl
      simp [cells9, cells50] at h0 h1 h2
      obtain ⟨s0, e0, _, z0⟩ := DataW.trod_string Try.underlying9 h0
      obtain ⟨s1, e1, _, z1⟩ := DataW.trod_string Try.underlying9 h1
      obtain ⟨a, ss, c, rfl, hsl, hok, hrow⟩ := down50 h2
      cases e0; cases e1
      exact ⟨⟨s0, s1, a, c, ss⟩, ⟨z0, z1, hsl, hok⟩, hrow, rfl⟩

theorem down49 {n : Nat} {cs : List Value} {y : DataW H × List MemPlace} (h : DataW.trod enc Try.prog w 0 (fun _ => true) held n 49 cs = some y) :
    ∃ G : Grp, G.n.size ≤ maxLen ∧ cs = [.string G.n, .bool G.on] := by
  obtain ⟨xs, m, _, rfl, hl, hlen, hf⟩ := DataW.trod_struct Try.underlying49 h
  rw [cells49] at hl
  match cs, hl with
  | [c0, c1], _ =>
    match xs, hlen with
    | [y0, y1], _ =>
      have h0 := hf 0 _ rfl
      have h1 := hf 1 _ rfl
      simp [cells9, cells4] at h0 h1
      obtain ⟨s0, e0, _, z0⟩ := DataW.trod_string Try.underlying9 h0
      obtain ⟨s1, e1, _⟩ := DataW.trod_bool Try.underlying4 h1
      cases e0; cases e1
      exact ⟨⟨s0, s1⟩, z0, rfl⟩

theorem down23 {n : Nat} {v : Value} {y : DataW H × List MemPlace} (h : DataW.trod enc Try.prog w 0 (fun _ => true) held n 23 [v] = some y) :
    ∃ a es c, v = .slice a (List.length es) c ∧ es.length ≤ maxLen ∧ (∀ E ∈ es, Ent.ok E) ∧ ERow w a es := by
  rcases Deep.open_slice Try.underlying23 h with ⟨hcs, _⟩ | ⟨a, len, cap, m, n', D, Pl, hcs, _, hlc, hcm, hm, _, hel⟩
  · cases hcs
    exact ⟨none, [], 0, rfl, by simp, by simp, fun h => by simp at h⟩
  · cases hcs
    have hm' : m = cap := by simpa using hm
    rw [cells52] at hel
    haveI : Inhabited Ent := ⟨⟨ByteArray.empty, ByteArray.empty, none, 0, []⟩⟩
    obtain ⟨S, hS⟩ := Deep.choose_lt (α := Ent) (n := len) (p := fun i E => E.ok ∧ SRow w E.a E.ss ∧ w.cells? 0 (a.add (i * 3)) 3 = some [.string E.g, .string E.o, .slice E.a E.ss.length E.c]) (fun i hi => by
      obtain ⟨cs', h1, h2⟩ := hel i (by omega)
      obtain ⟨E, hE, hr, rfl⟩ := down52 h2
      exact ⟨E, hE, hr, h1⟩)
    refine ⟨some a, (List.range len).map S, cap, by simp, by simp; omega, ?_, ?_⟩
    · intro s hs
      simp at hs
      obtain ⟨i, hi, rfl⟩ := hs
      exact (hS i hi).1
    · intro h0
      have h0 : 0 < len := by simpa using h0
      have hc0 := (World.cells?_some (hS 0 h0).2.2).2.2 0 (by omega)
      obtain ⟨b, o, rfl⟩ := spot_none (a := a) (v := .string (S 0).g) (by simpa [Addr.add] using hc0)
      refine ⟨b, o, rfl, fun j s hj => ?_⟩
      have hjl : j < len := by
        have := (List.getElem?_eq_some_iff.1 hj).1
        simpa using this
      have hsj : s = S j := by
        rw [List.getElem?_map, List.getElem?_range hjl] at hj
        simpa using hj.symm
      subst hsj
      obtain ⟨_, hr, hc⟩ := hS j hjl
      exact ⟨cells_at hc 0 (by omega), cells_at hc 1 (by omega), cells_at hc 2 (by omega), hr⟩

theorem down22 {n : Nat} {v : Value} {y : DataW H × List MemPlace} (h : DataW.trod enc Try.prog w 0 (fun _ => true) held n 22 [v] = some y) :
    ∃ a gs c, v = .slice a (List.length gs) c ∧ gs.length ≤ maxLen ∧ (∀ G ∈ gs, (Grp.n G).size ≤ maxLen) ∧ GRow w a gs := by
  rcases Deep.open_slice Try.underlying22 h with ⟨hcs, _⟩ | ⟨a, len, cap, m, n', D, Pl, hcs, _, hlc, hcm, hm, _, hel⟩
  · cases hcs
    exact ⟨none, [], 0, rfl, by simp, by simp, fun h => by simp at h⟩
  · cases hcs
    have hm' : m = cap := by simpa using hm
    rw [cells49] at hel
    haveI : Inhabited Grp := ⟨⟨ByteArray.empty, false⟩⟩
    obtain ⟨S, hS⟩ := Deep.choose_lt (α := Grp) (n := len) (p := fun i G => G.n.size ≤ maxLen ∧ w.cells? 0 (a.add (i * 2)) 2 = some [.string G.n, .bool G.on]) (fun i hi => by
      obtain ⟨cs', h1, h2⟩ := hel i (by omega)
      obtain ⟨E, hE, rfl⟩ := down49 h2
      exact ⟨E, hE, h1⟩)
    refine ⟨some a, (List.range len).map S, cap, by simp, by simp; omega, ?_, ?_⟩
    · intro s hs
      simp at hs
      obtain ⟨i, hi, rfl⟩ := hs
      exact (hS i hi).1
    · intro h0
      have h0 : 0 < len := by simpa using h0
      have hc0 := (World.cells?_some (hS 0 h0).2).2.2 0 (by omega)
      obtain ⟨b, o, rfl⟩ := spot_none (a := a) (v := .string (S 0).n) (by simpa [Addr.add] using hc0)
      refine ⟨b, o, rfl, fun j s hj => ?_⟩
      have hjl : j < len := by
        have := (List.getElem?_eq_some_iff.1 hj).1
        simpa using this
      have hsj : s = S j := by
        rw [List.getElem?_map, List.getElem?_range hjl] at hj
        simpa using hj.symm
      subst hsj
      have hc := (hS j hjl).2
      exact ⟨cells_at hc 0 (by omega), cells_at hc 1 (by omega)⟩

end
end Go.Proofs.Qxb6630397a
