import Derived.Test.YbulkabbeUd
/- More of rows that are owned. -/
namespace Go.Proofs.Ybulkabbe
open Go.RowKit Go.Proofs Go.Shelf
set_option linter.unusedVariables false

theorem Own.take_any {w : World} {base cap n k : Nat} {ta : Option Addr} {E : List En} (h : Own w base (.slice ta n cap) E) (hk : k ≤ E.length) : Own w base (.slice ta k cap) (E.take k) := by
  rcases h.form with ⟨h1, rfl⟩ | ⟨g', cap', cur, h1, _⟩
  · simp only [Value.slice.injEq] at h1
    obtain ⟨rfl, _, rfl⟩ := h1
    obtain rfl : k = 0 := by simpa using hk
    exact ⟨rfl, .inl ⟨rfl, rfl⟩⟩
  · simp only [Value.slice.injEq] at h1
    obtain ⟨rfl, _, _⟩ := h1
    exact Own.take h hk
theorem Own.parts {w : World} {base cap n : Nat} {ta : Option Addr} {E : List En} (h : Own w base (.slice ta n cap) E) : (ta = none ∨ ∃ t, ta = some ⟨t, 0, none⟩) ∧ n ≤ cap ∧ cap ≤ 9223372036854775807 := by
  rcases h.form with ⟨h1, rfl⟩ | ⟨g', cap', cur, h1, _, _, h3, h4, _⟩
  · simp only [Value.slice.injEq] at h1
    obtain ⟨rfl, rfl, rfl⟩ := h1
    exact ⟨.inl rfl, by omega, by omega⟩
  · simp only [Value.slice.injEq] at h1
    obtain ⟨rfl, rfl, rfl⟩ := h1
    exact ⟨.inr ⟨g', rfl⟩, h3, by unfold maxLen at h4; omega⟩
theorem drewN_fr (w : World) (q : Nat) : Fr (fun _ => False) w (w.drewN q) := ⟨rfl, rfl, rfl, Nat.le_refl _, fun _ _ _ => rfl⟩
theorem drew_fr (w : World) : Fr (fun _ => False) w w.drew := (Fr.refl _ w).drew

end Go.Proofs.Ybulkabbe
