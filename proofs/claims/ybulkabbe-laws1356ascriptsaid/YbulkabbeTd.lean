import Derived.Test.YbulkabbeTc
/- slices.Insert of one end: at the end; and where there is no room. -/
namespace Go.Proofs.Ybulkabbe
open Go.RowKit Go.Proofs Go.Shelf
set_option linter.unusedVariables false

theorem Yba.info49f : (Yba.prog.info? 49).map (fun i => (i.zero, i.size, i.bytes)) = some (some (.agg #[.int .i64 0, .int .i64 0, .int .i64 0, .int .u8 0, .bool false, .int .i64 0]), 6, 40) := by kernel_rfl

theorem end_end {w w1 : World} {base g' cap' : Nat} {v : Value} {E : List En} {k : En} (how : w1.ownsRow base 49 6 (.slice (some ⟨g', 0, none⟩) (E.length + 1) cap') (E.length + 1) (rows E ++ k.cells))
    (hcase : (v = .slice (some ⟨g', 0, none⟩) E.length cap' ∧ E.length + 1 ≤ cap' ∧ Fr (· = g') w w1) ∨ (g' = w.heap.size ∧ w1.heap.size = w.heap.size + 1 ∧ Fr (fun _ => False) w w1)) :
    InsPost w base v E E.length k (.returned (.slice (some ⟨g', 0, none⟩) (E.length + 1) cap')) w1 := by
  refine ⟨g', cap', rfl, ?_, ?_⟩
  · have hl : (E.take E.length ++ k :: E.drop E.length) = E ++ [k] := by simp
    rw [hl]
    show World.ownsRow _ base 49 6 _ _ _
    rw [rows_append, List.length_append]
    simpa [rows] using how
  · rcases hcase with ⟨rfl, _, h⟩ | ⟨_, _, h⟩
    · exact h.mono (fun b _ e => by simp [Value.ownBlock, e])
    · exact h.mono (fun b _ e => e.elim)

set_option maxRecDepth 100000 in
set_option maxHeartbeats 1600000 in
theorem insert_end (w : World) (base : Nat) (sa : Option Addr) (n cap vb vc : Nat) (E : List En) (k : En) (hn : E.length = n) (hl : n ≤ 1024) (hb : base ≤ w.heap.size) (hO : Own w base (.slice sa n cap) E)
    (hv : w.heap[vb]? = some (.cells k.cells.toArray 49 (0, 0))) :
    Calls Yba.prog 14 #[.slice sa n cap, .int .i64 n, .slice (some ⟨vb, 0, none⟩) 1 vc] w fun e w' => InsPost w base (.slice sa n cap) E n k e w' := by
  obtain ⟨i49, hi, hz0, hz1, hz2⟩ := info_parts Yba.info49f
  have hcell : ∀ j u, k.cells[j]? = some u → w.cell? ((⟨vb, 0, none⟩ : Addr).add j) = some u := fun j u hj => by
    rw [addr_addT, Nat.zero_add, cellOf hv j]; simpa using hj
  have h1 : ∀ x ∈ k.cells, x.oneCell' = true := fun v hv => rows_one [k] v (by simpa [rows] using hv)
  have hO' : w.ownsRow base 49 6 (.slice sa n cap) n (rows E) := by have := hO; unfold Own at this; rwa [hn] at this
  have hml : n + 1 ≤ maxLen := by unfold maxLen; omega
  have hcp : n ≤ cap ∧ cap ≤ 9223372036854775807 := by
    rcases hO.form with ⟨h, h0⟩ | ⟨g, c, cur, h, _, _, h3, h4, _⟩
    · simp only [Value.slice.injEq] at h; omega
    · simp only [Value.slice.injEq] at h; unfold maxLen at h4; omega
  have hform : sa = none ∧ n = 0 ∧ cap = 0 ∨ ∃ g, sa = some ⟨g, 0, none⟩ := by
    rcases hO.form with ⟨h, h0⟩ | ⟨g, c, cur, h, _⟩
    · simp only [Value.slice.injEq] at h; exact .inl h
    · simp only [Value.slice.injEq] at h; exact .inr ⟨g, h.1⟩
  have HO := hid (And.intro hO' hn)
  clear hO hO' hv hn
  rcases hform with ⟨rfl, rfl, rfl⟩ | ⟨g, rfl⟩
  · go_enter Yba.func14, Yba.ntmps14
    go_wp2_with (at_builtin; refine wpList_append_fr _ rfl (.tmp 23) (.tmp 24) 46 rfl base 49 i49 _ 6 40 Yba.underlying46 hi hz0 hz1 hz2 rfl (.slice none 0 0) 0 (rows E) (by rfl) HO.out.1 ⟨vb, 0, none⟩ 1 vc k.cells (by rfl) rfl hcell h1 (by omega) (by omega) (by omega) hb ?_; intro g' cap' w1 how hcase)
    go_ret
    obtain rfl := List.eq_nil_of_length_eq_zero HO.out.2
    exact end_end (E := []) how hcase
  · by_cases hcn : cap = n
    · obtain rfl := hcn
      go_enter Yba.func14, Yba.ntmps14
      go_wp2_with (at_builtin; refine wpList_append_fr _ rfl (.tmp 23) (.tmp 24) 46 rfl base 49 i49 _ 6 40 Yba.underlying46 hi hz0 hz1 hz2 rfl (.slice (some ⟨g, 0, none⟩) cap cap) cap (rows E) (by rfl) HO.out.1 ⟨vb, 0, none⟩ 1 vc k.cells (by rfl) rfl hcell h1 (by omega) (by omega) (by omega) hb ?_; intro g' cap' w1 how hcase)
      go_ret
      obtain rfl := HO.out.2
      exact end_end how hcase

    · go_enter Yba.func14, Yba.ntmps14
      go_wp2_with (at_builtin; refine wpList_append_fr _ rfl (.tmp 23) (.tmp 24) 46 rfl base 49 i49 _ 6 40 Yba.underlying46 hi hz0 hz1 hz2 rfl (.slice (some ⟨g, 0, none⟩) n cap) n (rows E) (by rfl) HO.out.1 ⟨vb, 0, none⟩ 1 vc k.cells (by rfl) rfl hcell h1 (by omega) (by omega) (by omega) hb ?_; intro g' cap' w1 how hcase)
      go_ret
      obtain rfl := HO.out.2
      exact end_end how hcase

end Go.Proofs.Ybulkabbe
