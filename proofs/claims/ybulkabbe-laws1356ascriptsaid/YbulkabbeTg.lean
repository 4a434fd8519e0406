import Derived.Test.YbulkabbeTf
/- slices.Equal at equal rows; zzs1356asorted. -/
namespace Go.Proofs.Ybulkabbe
open Go.RowKit Go.Proofs Go.Shelf
set_option linter.unusedVariables false

/-- The six cells of an element, as the walk reads them. -/
theorem Own.six {w : World} {base g cap n : Nat} {E : List En} (h : Own w base (.slice (some ⟨g, 0, none⟩) n cap) E) {k : Nat} {e : En} (hk : E[k]? = some e) :
    w.cell? ⟨g, k * 6, none⟩ = some (.int .i64 e.at_) ∧ w.cell? ⟨g, k * 6 + 1, none⟩ = some (.int .i64 e.pos) ∧ w.cell? ⟨g, k * 6 + 2, none⟩ = some (.int .i64 e.hd) ∧ w.cell? ⟨g, k * 6 + 3, none⟩ = some (.int .u8 e.ctx) ∧ w.cell? ⟨g, k * 6 + 4, none⟩ = some (.bool e.inner) ∧ w.cell? ⟨g, k * 6 + 5, none⟩ = some (.int .i64 e.outer) :=
  ⟨h.get hk (o := 0) rfl, h.get hk (o := 1) rfl, h.get hk (o := 2) rfl, h.get hk (o := 3) rfl, h.get hk (o := 4) rfl, h.get hk (o := 5) rfl⟩

/-- nil with no element, or a block. -/
theorem Own.shape {w : World} {base : Nat} {v : Value} {E : List En} (h : Own w base v E) : ∃ sa cap, v = .slice sa E.length cap ∧ E.length ≤ cap ∧ cap ≤ 9223372036854775807 ∧ (0 < E.length → ∃ g, sa = some ⟨g, 0, none⟩) := by
  rcases h.form with ⟨rfl, rfl⟩ | ⟨g, cap, cur, rfl, _, _, h3, h4, _⟩
  · exact ⟨none, 0, rfl, by simp, by omega, fun h => by simp at h⟩
  · exact ⟨_, cap, rfl, h3, by unfold maxLen at h4; omega, fun _ => ⟨g, rfl⟩⟩

set_option maxRecDepth 100000 in
set_option maxHeartbeats 1600000 in
theorem equal_same (w : World) (b1 b2 : Nat) (sa ta : Option Addr) (n sc tc : Nat) (E : List En) (hn : E.length = n) (hl : n ≤ 1024) (hs : Own w b1 (.slice sa n sc) E) (ht : Own w b2 (.slice ta n tc) E) :
    Calls Yba.prog 7 #[.slice sa n sc, .slice ta n tc] w fun e w' => e = .returned (.bool true) ∧ ∃ q, w' = w.drewN q := by
  have h1 : 0 < n → ∃ g, sa = some ⟨g, 0, none⟩ := by
    obtain ⟨a, c, h, _, _, h'⟩ := hs.shape
    simp only [Value.slice.injEq] at h
    rw [h.1, h.2.1]; exact h'
  have h2 : 0 < n → ∃ g, ta = some ⟨g, 0, none⟩ := by
    obtain ⟨a, c, h, _, _, h'⟩ := ht.shape
    simp only [Value.slice.injEq] at h
    rw [h.1, h.2.1]; exact h'
  have H := hid (And.intro hn (And.intro hs (And.intro ht (And.intro h1 h2))))
  clear hn hs ht h1 h2
  go_enter Yba.func7, Yba.ntmps7
  go_wp2
  go_loopg [13] n (fun m s13 wr => ∃ k q : Nat, k ≤ n ∧ m = n - k ∧ s13 = .int .i64 k ∧ wr = w.drewN q)
  case atStart => exact ⟨0, 0, by omega, by omega, rfl, rfl⟩
  case round =>
    obtain ⟨k, q, hk, hm, rfl, rfl⟩ := hrel
    by_cases hkn : k < n
    · obtain ⟨g, rfl⟩ := H.out.2.2.2.1 (by omega)
      obtain ⟨g', rfl⟩ := H.out.2.2.2.2 (by omega)
      have hkE : k < E.length := by have := H.out.1; omega
      obtain ⟨c0, c1, c2, c3, c4, c5⟩ := H.out.2.1.six (List.getElem?_eq_getElem hkE)
      obtain ⟨d0, d1, d2, d3, d4, d5⟩ := H.out.2.2.1.six (List.getElem?_eq_getElem hkE)
      have hq : ∀ W : World, (binOp .neq 49 (.agg #[.int .i64 E[k].at_, .int .i64 E[k].pos, .int .i64 E[k].hd, .int .u8 E[k].ctx, .bool E[k].inner, .int .i64 E[k].outer]) (.agg #[.int .i64 E[k].at_, .int .i64 E[k].pos, .int .i64 E[k].hd, .int .u8 E[k].ctx, .bool E[k].inner, .int .i64 E[k].outer])).run Yba.prog W = .ok (.bool false) W := fun W => neq49 W E[k]
      generalize E[k] = e at c0 c1 c2 c3 c4 c5 d0 d1 d2 d3 d4 d5 hq
      have hi1 : (k : Int) < (n : Int) := by omega
      go_wp2
      go_quiet (fail)
      go_wp2
      go_roundg (n - (k + 1))
      case measure => omega
      case rel => exact ⟨k + 1, _, by omega, rfl, by go_num, rfl⟩
    · obtain rfl : k = n := by omega
      go_wp2
      go_ret
      exact ⟨rfl, _, rfl⟩

/-- The first end is no inner one. -/
def Top (E : List En) : Prop := ∀ e, E[0]? = some e → e.inner = false

set_option maxRecDepth 100000 in
set_option maxHeartbeats 1600000 in
theorem sorted_any (w : World) (b1 : Nat) (sa : Option Addr) (n sc : Nat) (E : List En) (hn : E.length = n) (hl : n ≤ 1025) (hs : Own w b1 (.slice sa n sc) E) (hS : Sorted E) (hT : Top E) :
    Calls Yba.prog 8 #[.slice sa n sc] w fun e w' => e = .returned (.bool true) ∧ ∃ q, w' = w.drewN q := by
  have h1 : 0 < n → ∃ g, sa = some ⟨g, 0, none⟩ := by
    obtain ⟨a, c, h, _, _, h'⟩ := hs.shape
    simp only [Value.slice.injEq] at h
    rw [h.1, h.2.1]; exact h'
  have H := hid (And.intro hn (And.intro hs (And.intro h1 (And.intro hS hT))))
  clear hn hs h1 hS hT
  go_enter Yba.func8, Yba.ntmps8
  go_wp2
  go_loopg [3] n (fun m s3 wr => ∃ j q : Nat, j ≤ n ∧ m = n - j ∧ s3 = .int .i64 ((j : Int) + 1) ∧ wr = w.drewN q)
  case atStart => exact ⟨0, 0, by omega, by omega, rfl, rfl⟩
  case round =>
    obtain ⟨j, q, hj, hm, rfl, rfl⟩ := hrel
    by_cases hjn : j + 1 < n
    · obtain ⟨g, rfl⟩ := H.out.2.2.1 (by omega)
      have hjE : j < E.length := by have := H.out.1; omega
      have hjE' : j + 1 < E.length := by have := H.out.1; omega
      have c0 := (H.out.2.1.six (List.getElem?_eq_getElem hjE)).1
      have d0 := (H.out.2.1.six (List.getElem?_eq_getElem hjE')).1
      have hle := H.out.2.2.2.1 j (j + 1) _ _ (by omega) (List.getElem?_eq_getElem hjE) (List.getElem?_eq_getElem hjE')
      generalize E[j] = e at c0 hle
      generalize E[j + 1] = f at d0 hle
      have hi0 : (j : Int) < (n : Int) := by omega
      have hi1 : (j : Int) + 1 < (n : Int) := by omega
      have hi2 : ¬ f.at_ < e.at_ := by omega
      have hw0 : IntKind.i64.wrap ((j : Int) + 1 - 1) = (j : Int) := by rw [IntKind.wrap_i64]; omega
      have ht1 : ((j : Int) + 1).toNat = j + 1 := by omega
      go_wp2
      go_quiet (fail)
      go_wp2
      go_roundg (n - (j + 1))
      case measure => omega
      case rel => exact ⟨j + 1, _, by omega, rfl, by go_num, rfl⟩
    · have hjn' : ¬ (j : Int) + 1 < (n : Int) := by omega
      by_cases h0 : 0 < n
      · obtain ⟨g, rfl⟩ := H.out.2.2.1 h0
        have hE0 : 0 < E.length := by have := H.out.1; omega
        have c4 := (H.out.2.1.six (List.getElem?_eq_getElem hE0)).2.2.2.2.1
        rw [H.out.2.2.2.2 _ (List.getElem?_eq_getElem hE0)] at c4
        simp only [Nat.zero_mul, Nat.zero_add] at c4
        have h0' : (0 : Int) < (n : Int) := by omega
        go_wp2
        go_ret
        exact ⟨rfl, _, rfl⟩
      · obtain rfl : n = 0 := by omega
        go_wp2
        go_ret
        exact ⟨rfl, _, rfl⟩

end Go.Proofs.Ybulkabbe
