import Derived.Test.YbulkabbeUa
import Derived.Deep.CutBlock
/- For the law's walk: the lexer as it is made; what holds ahead of each step; slices.Clone at every row. -/
namespace Go.Proofs.Ybulkabbe
open Go.RowKit Go.Proofs Go.Shelf
set_option linter.unusedVariables false

theorem wpList_built' {P : Program} {w : World} {ops : Array Oper} {rest : List Oper} {o : Oper} {a : Act} {Q : Exit → Act → World → Prop} (hgd : o.guard = none) (t : TypeId) (parts : Array (Nat × Operand)) (ho : o.op = .build t parts) (c : Array Value) (vs : List (Nat × Value))
    (hv : (parts.map fun (i, x) => (i, a.eval x)).toList = vs) (hf : P.built t vs = some c) (h : wpList P ops Q rest (a.put o.dst (.agg c)) w) : wpList P ops Q (o :: rest) a w := by
  refine wpList_build hgd t parts ho (by rw [hv, hf]; rfl) ?_
  rw [hv, hf]
  exact h

theorem made54 (p : Addr) : ∃ c, Yba.prog.built 54 [(0, .pointer (some p))] = some c ∧ c.size = 1805 ∧ c[0]? = some (.pointer (some p)) ∧ c[4]? = some (.slice none 0 0) ∧ c[10]? = some (.slice none 0 0) ∧ c[1803]? = some (.int .i64 0) ∧ mid c = recs (List.replicate 256 (⟨0, 0, 0, 0, false, 0⟩, 0)) :=
  ⟨(Yba.prog.built 54 [(0, .pointer (some p))]).getD #[], by kernel_rfl, by kernel_rfl, by kernel_rfl, by kernel_rfl, by kernel_rfl, by kernel_rfl, by kernel_rfl⟩
theorem made39 : ∃ c, Yba.prog.built 39 [] = some c ∧ c[1]? = some (.int .i64 0) :=
  ⟨(Yba.prog.built 39 []).getD #[], by kernel_rfl, by kernel_rfl⟩

/-- The steps that came in. -/
structure Stp (w : World) (b off len : Nat) (Ln Ad Cx : Nat → Int) : Prop where
  l : ∀ i, i < len → w.cell? ⟨b, off + i * 3, none⟩ = some (.int .u16 (Ln i))
  a : ∀ i, i < len → w.cell? ⟨b, off + i * 3 + 1, none⟩ = some (.int .u16 (Ad i))
  c : ∀ i, i < len → w.cell? ⟨b, off + i * 3 + 2, none⟩ = some (.int .u8 (Cx i))
  lb : ∀ i, 0 ≤ Ln i ∧ Ln i ≤ 65535
  ab : ∀ i, 0 ≤ Ad i ∧ Ad i ≤ 65535
  cb : ∀ i, 0 ≤ Cx i ∧ Cx i ≤ 255

/-- What holds ahead of each step. -/
structure Inv (w0 w : World) (SB LB : Nat) (looks : Int) (k : Nat) (pos : Int) (sa : Option Addr) (n cap : Nat) (c : Array Value) (E : List En) (L : List (En × Int)) : Prop where
  sx : Sx w SB LB (.slice sa n cap) c looks pos
  len : E.length = n
  le : n ≤ k
  nil : n = 0 → sa = none ∧ cap = 0
  own : Own w w0.heap.size (.slice sa n cap) E
  sorted : Sorted E
  top : Top E
  rec_ : mid c = recs L
  rl : L.length = 256
  p0 : 0 ≤ pos
  p1 : pos ≤ 199 * k
  fr : Fr (fun _ => False) w0 w
  sb : w0.heap.size ≤ SB
  lb : w0.heap.size ≤ LB

theorem inv_start {w : World} {looks : Int} {c39 c54 : Array Value} (h39 : c39[1]? = some (.int .i64 0)) (hs : c54.size = 1805) (h0 : c54[0]? = some (.pointer (some ⟨w.heap.size, 0, none⟩))) (h4 : c54[4]? = some (.slice none 0 0)) (h10 : c54[10]? = some (.slice none 0 0)) (h18 : c54[1803]? = some (.int .i64 0)) (hm : mid c54 = recs (List.replicate 256 (⟨0, 0, 0, 0, false, 0⟩, 0)))
    {w' : World} (hw : w' = (w.alloc (.cells c39 39)).alloc (.cells (c54.setIfInBounds 1803 (.int .i64 looks)) 54) := by rfl) :
    Inv w w' (w.heap.size + 1) w.heap.size looks 0 0 none 0 0 (c54.setIfInBounds 1803 (.int .i64 looks)) [] (List.replicate 256 (⟨0, 0, 0, 0, false, 0⟩, 0)) := by
  subst hw
  have e1 := heap_alloc_new w (.cells c39 39)
  have e2 := heap_alloc_new (w.alloc (.cells c39 39)) (.cells (c54.setIfInBounds 1803 (.int .i64 looks)) 54)
  rw [World.size_alloc] at e2
  refine ⟨⟨e2, by simp [hs], ?_, ?_, ?_, ?_, c39, ?_, h39⟩, rfl, by omega, fun _ => ⟨rfl, rfl⟩, ⟨rfl, .inl ⟨rfl, rfl⟩⟩, fun j k e f _ h => by simp at h, fun e h => by simp at h, by rw [mid_looks]; exact hm, List.length_replicate, by omega, by omega, ?_, by omega, by omega⟩
  · rw [Array.getElem?_setIfInBounds_ne (by omega)]; exact h0
  · rw [Array.getElem?_setIfInBounds_ne (by omega)]; exact h4
  · rw [Array.getElem?_setIfInBounds_ne (by omega)]; exact h10
  · rw [Array.getElem?_setIfInBounds_self_of_lt (by omega)]
  · rw [Below.heap_alloc _ _ _ (by simp)]; exact e1
  · exact ((Fr.refl _ w).alloc _).alloc _

theorem clone_any (w : World) (base n cap : Nat) (sa : Option Addr) (E : List En) (hn : E.length = n) (h0 : n = 0 → sa = none ∧ cap = 0) (hl : n ≤ 1024) (hO : Own w base (.slice sa n cap) E) :
    Calls Yba.prog 5 #[.slice sa n cap] w fun e w' => ∃ ta tc, e = .returned (.slice ta n tc) ∧ Own w' w.heap.size (.slice ta n tc) E ∧ Fr (fun _ => False) w w' := by
  by_cases hz : n = 0
  · obtain ⟨rfl, rfl⟩ := h0 hz
    subst hz
    obtain rfl : E = [] := List.eq_nil_of_length_eq_zero hn
    refine (clone_nil w).mono ?_
    rintro e w' ⟨rfl, rfl⟩
    exact ⟨none, 0, rfl, ⟨rfl, .inl ⟨rfl, rfl⟩⟩, Fr.refl _ _⟩
  · rcases hO.form with ⟨h, h'⟩ | ⟨g, c', cur, h, _⟩
    · subst h'; exact absurd hn.symm hz
    · simp only [Value.slice.injEq] at h
      obtain ⟨rfl, _, _⟩ := h
      refine (clone_some w base g n cap E hn (by omega) hl hO).mono ?_
      rintro e w' ⟨v, rfl, hO', hF⟩
      obtain ⟨ta, tc, rfl, _⟩ := hO'.shape
      rw [hn] at hO' ⊢
      exact ⟨ta, tc, rfl, hO', hF⟩

end Go.Proofs.Ybulkabbe
