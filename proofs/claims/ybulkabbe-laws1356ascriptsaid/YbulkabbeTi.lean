import Derived.Test.YbulkabbeTh
/- keepEnd of a long context: the plain part, and sort.Search at every row. -/
namespace Go.Proofs.Ybulkabbe
open Go.RowKit Go.Proofs Go.Shelf
set_option linter.unusedVariables false

set_option maxRecDepth 100000 in
set_option maxHeartbeats 800000 in
theorem search_zero (w : World) (f : Value) : Calls Yba.prog 12 #[.int .i64 0, f] w fun e w' => e = .returned (.int .i64 0) ∧ w' = w := by
  go_enter Yba.func12, Yba.ntmps12
  go_wp2
  refine wp_loop_rounds 1 ?_
  rw [rounds_succ]
  go_wp2
  go_ret
  exact ⟨rfl, rfl⟩

theorem search_all (w : World) (base SB bs bf n cap : Nat) (sa : Option Addr) (a : Int) (E : List En) (hn : n = E.length) (hl : n ≤ 1024) (hS : Sorted E)
    (h1 : w.cell? ⟨bs, 0, none⟩ = some (.pointer (some ⟨SB, 0, none⟩))) (h2 : w.cell? ⟨bf, 1, none⟩ = some (.int .i64 a)) (h10 : w.cell? ⟨SB, 10, none⟩ = some (.slice sa n cap)) (hO : Own w base (.slice sa n cap) E) :
    Calls Yba.prog 12 #[.int .i64 n, .func (.func 13) #[] #[.pointer (some ⟨bs, 0, none⟩), .pointer (some ⟨bf, 0, none⟩)]] w fun e w' => ∃ i q : Nat, e = .returned (.int .i64 i) ∧ Cut E a i ∧ w' = w.drewN q := by
  rcases hO.form with ⟨h, h0⟩ | ⟨g, c, cur, h, _⟩
  · subst h0
    obtain rfl : n = 0 := hn
    refine (search_zero w _).mono ?_
    rintro e w' ⟨rfl, rfl⟩
    exact ⟨0, 0, rfl, ⟨by simp, fun k e h => by omega, fun k e h he => by simp at he⟩, rfl⟩
  · simp only [Value.slice.injEq] at h
    obtain ⟨rfl, _, rfl⟩ := h
    exact search_any w base SB bs bf g cap n a E hn hl hS h1 h2 h10 hO

/-- Which ends go on, as inner ones. -/
def goes (a pos : Int) (e : En) : Bool := !e.inner && decide (a ≤ e.at_) && decide (e.pos ≤ pos)
def mark (pos : Int) (e : En) : En := { e with inner := true, outer := pos }
def kept' (a pos : Int) (E : List En) : List En := (E.filter (goes a pos)).map (mark pos)
theorem kept'_snoc (a pos : Int) (E : List En) (e : En) : kept' a pos (E ++ [e]) = if goes a pos e = true then kept' a pos E ++ [mark pos e] else kept' a pos E := by
  unfold kept'
  rw [List.filter_append, List.map_append]
  by_cases h : goes a pos e = true
  · simp [h]
  · simp [h]
theorem kept'_le (a pos : Int) (E : List En) : (kept' a pos E).length ≤ E.length := by
  unfold kept'; rw [List.length_map]; exact List.length_filter_le _ _

/-- What keepEnd leaves of the ends. -/
def after (a pos : Int) (k : En) (E : List En) (i : Nat) : List En := E.take i ++ k :: kept' a pos (E.drop i)

/-- A row's element turned. -/
theorem rows_set : ∀ (E : List En) (k : Nat) (e : En), k < E.length → rows (E.set k e) = (rows E).take (k * 6) ++ e.cells ++ (rows E).drop (k * 6 + 6)
  | [], k, e, h => by simp at h
  | x :: es, 0, e, h => by
    have h6 : x.cells.length = 6 := rfl
    simp only [List.set_cons_zero, rows, Nat.zero_mul, List.take_zero, List.nil_append, Nat.zero_add]
    rw [← h6, List.drop_left]
  | x :: es, k + 1, e, h => by
    have h6 : x.cells.length = 6 := rfl
    have e1 : x.cells.take ((k + 1) * 6) = x.cells := List.take_of_length_le (by rw [h6]; omega)
    have e2 : x.cells.drop ((k + 1) * 6 + 6) = [] := List.drop_of_length_le (by rw [h6]; omega)
    rw [List.set_cons_succ, rows, rows, rows_set es k e (by simpa using h), List.take_append, List.drop_append, h6, show (k + 1) * 6 - 6 = k * 6 by omega, show (k + 1) * 6 + 6 - 6 = k * 6 + 6 by omega, e1, e2]
    simp

theorem set6 (v0 v1 v2 v3 v4 v5 : Value) : ∀ (o : Nat) (l : List Value), o + 6 ≤ l.length → ((((((l.set o v0).set (o + 1) v1).set (o + 2) v2).set (o + 3) v3).set (o + 4) v4).set (o + 5) v5) = l.take o ++ [v0, v1, v2, v3, v4, v5] ++ l.drop (o + 6)
  | 0, l, h => by
    match l, h with
    | _ :: _ :: _ :: _ :: _ :: _ :: r, _ => simp
  | o + 1, l, h => by
    match l, h with
    | x :: l, h =>
      have := set6 v0 v1 v2 v3 v4 v5 o l (by simp at h; omega)
      rw [show o + 1 + 1 = (o + 1) + 1 from rfl, show o + 1 + 2 = (o + 2) + 1 by omega, show o + 1 + 3 = (o + 3) + 1 by omega, show o + 1 + 4 = (o + 4) + 1 by omega, show o + 1 + 5 = (o + 5) + 1 by omega, show o + 1 + 6 = (o + 6) + 1 by omega]
      simp only [List.set_cons_succ, List.take_succ_cons, List.drop_succ_cons, List.cons_append]
      rw [this]

/-- An element of an owned row, stored anew. -/
theorem Own.set {w : World} {base g cap n k : Nat} {E : List En} {e : En} (h : Own w base (.slice (some ⟨g, 0, none⟩) n cap) E) (hk : k < E.length) :
    Own ((((((w.setCell ⟨g, k * 6, none⟩ (.int .i64 e.at_)).setCell ⟨g, k * 6 + 1, none⟩ (.int .i64 e.pos)).setCell ⟨g, k * 6 + 2, none⟩ (.int .i64 e.hd)).setCell ⟨g, k * 6 + 3, none⟩ (.int .u8 e.ctx)).setCell ⟨g, k * 6 + 4, none⟩ (.bool e.inner)).setCell ⟨g, k * 6 + 5, none⟩ (.int .i64 e.outer)) base (.slice (some ⟨g, 0, none⟩) n cap) (E.set k e) := by
  rcases h.form with ⟨h1, _⟩ | ⟨g', cap', cur, h1, h2, h3, h4, h5, h6, h7⟩
  · cases h1
  · simp only [Value.slice.injEq, Option.some.injEq, Addr.mk.injEq] at h1
    obtain ⟨⟨rfl, _, _⟩, rfl, rfl⟩ := h1
    show World.ownsRow _ base 49 6 _ _ _
    rw [List.length_set]
    have hsz : k * 6 + 6 ≤ cur.size := by omega
    refine ⟨by rw [rows_length, List.length_set], .inr ⟨g, cap, _, rfl, h2, heap_setCell (heap_setCell (heap_setCell (heap_setCell (heap_setCell (heap_setCell h3 _ _) _ _) _ _) _ _) _ _) _ _, h4, h5, by simp [h6], ?_⟩⟩
    simp only [Array.toList_setIfInBounds]
    rw [set6 _ _ _ _ _ _ (k * 6) cur.toList (by rw [Array.length_toList]; exact hsz), rows_set E k e hk, ← h7]
    have hl : cur.toList.length = cap * 6 := by rw [Array.length_toList, h6]
    rw [List.append_assoc, List.take_append, List.take_take, List.length_take, hl, Nat.min_eq_right (show k * 6 ≤ E.length * 6 by omega), Nat.min_eq_left (show k * 6 ≤ cap * 6 by omega), List.take_append,
      List.take_of_length_le (l := [Value.int .i64 e.at_, _, _, _, _, _]) (by simp; omega), List.take_take, Nat.min_eq_left (show k * 6 ≤ E.length * 6 by omega), List.append_assoc]
    congr 1
    show [Value.int .i64 e.at_, _, _, _, _, _] ++ _ = e.cells ++ _
    congr 1
    rw [List.drop_take]
    simp only [List.length_cons, List.length_nil]
    rw [show E.length * 6 - k * 6 - (0 + 1 + 1 + 1 + 1 + 1 + 1) = E.length * 6 - (k * 6 + 6) by omega]

end Go.Proofs.Ybulkabbe
