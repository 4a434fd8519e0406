import Derived.Test.YbulkabbeSb
/- Script: the ends, as plain data; the row that holds them. sort.Search, the closure, heredocStack.keep. -/
namespace Go.Proofs.Ybulkabbe
open Go.RowKit
set_option linter.unusedVariables false

/-- One end that is kept. -/
structure En where
  at_ : Int
  pos : Int
  hd : Int
  ctx : Int
  inner : Bool
  outer : Int

def En.cells (e : En) : List Value := [.int .i64 e.at_, .int .i64 e.pos, .int .i64 e.hd, .int .u8 e.ctx, .bool e.inner, .int .i64 e.outer]
def rows : List En → List Value
  | [] => []
  | e :: es => e.cells ++ rows es
theorem rows_length : ∀ E, (rows E).length = E.length * 6
  | [] => rfl
  | e :: es => by rw [rows, List.length_append, rows_length es, List.length_cons]; simp [En.cells]; omega
theorem rows_append : ∀ A B, rows (A ++ B) = rows A ++ rows B
  | [], B => rfl
  | e :: es, B => by rw [List.cons_append, rows, rows, rows_append es B, List.append_assoc]
theorem rows_take : ∀ (E : List En) (n : Nat), (rows E).take (n * 6) = rows (E.take n)
  | [], n => by simp [rows]
  | e :: es, 0 => by simp [rows]
  | e :: es, n + 1 => by
    have h6 : e.cells.length = 6 := rfl
    rw [List.take_succ_cons, rows, rows, List.take_append, List.take_of_length_le (by rw [h6]; omega), h6, show (n + 1) * 6 - 6 = n * 6 by omega, rows_take es n]
theorem rows_drop : ∀ (E : List En) (n : Nat), (rows E).drop (n * 6) = rows (E.drop n)
  | [], n => by simp [rows]
  | e :: es, 0 => by simp [rows]
  | e :: es, n + 1 => by
    have h6 : e.cells.length = 6 := rfl
    rw [List.drop_succ_cons, rows, List.drop_append, List.drop_of_length_le (by rw [h6]; omega), h6, show (n + 1) * 6 - 6 = n * 6 by omega, rows_drop es n, List.nil_append]
theorem rows_get : ∀ {E : List En} {k : Nat} {e : En}, E[k]? = some e → ∀ {o : Nat} {v : Value}, e.cells[o]? = some v → (rows E)[k * 6 + o]? = some v
  | [], k, e, h, _, _, _ => by simp at h
  | x :: es, 0, e, h, o, v, hv => by
    simp at h; subst h
    have ho : o < 6 := (List.getElem?_eq_some_iff.1 hv).1
    rw [rows, List.getElem?_append_left (by simp [En.cells]; omega)]
    simpa using hv
  | x :: es, k + 1, e, h, o, v, hv => by
    have h6 : x.cells.length = 6 := rfl
    rw [rows, List.getElem?_append_right (by rw [h6]; omega), h6, show (k + 1) * 6 + o - 6 = k * 6 + o by omega]
    exact rows_get (by simpa using h) hv
theorem rows_one : ∀ (E : List En) (x), x ∈ rows E → x.oneCell' = true
  | [], x, h => by simp [rows] at h
  | e :: es, x, h => by
    rw [rows, List.mem_append] at h
    rcases h with h | h
    · simp [En.cells] at h
      rcases h with rfl | rfl | rfl | rfl | rfl | rfl <;> rfl
    · exact rows_one es x h

/-- The row of ends that v stands for. -/
abbrev Own (w : World) (base : Nat) (v : Value) (E : List En) : Prop := w.ownsRow base 49 6 v E.length (rows E)
theorem owns_at {w : World} {base : Nat} {e : TypeId} {size g n cap : Nat} {xs : List Value} (h : w.ownsRow base e size (.slice (some ⟨g, 0, none⟩) n cap) n xs) {j : Nat} {u : Value} (hj : xs[j]? = some u) : w.cell? ⟨g, j, none⟩ = some u := by
  have hadd : (⟨g, 0, none⟩ : Addr).add j = ⟨g, j, none⟩ := by unfold Addr.add; split <;> simp_all
  have := h.cells (g := g) rfl j u hj
  rwa [hadd] at this
/-- nil, or a row with a block. -/
theorem Own.form {w : World} {base : Nat} {v : Value} {E : List En} (h : Own w base v E) : (v = .slice none 0 0 ∧ E = []) ∨ ∃ g cap cur, v = .slice (some ⟨g, 0, none⟩) E.length cap ∧ base ≤ g ∧ w.heap[g]? = some (.cells cur 49 (0, 0)) ∧ E.length ≤ cap ∧ cap ≤ maxLen ∧ cur.size = cap * 6 ∧ cur.toList.take (E.length * 6) = rows E := by
  rcases h.2 with ⟨rfl, h0⟩ | ⟨g, cap, cur, rfl, h1, h2, h3, h4, h5, h6⟩
  · exact .inl ⟨rfl, List.eq_nil_of_length_eq_zero h0⟩
  · exact .inr ⟨g, cap, cur, rfl, h1, h2, h3, h4, h5, by rw [← h6]⟩
theorem Own.get {w : World} {base g cap n : Nat} {E : List En} (h : Own w base (.slice (some ⟨g, 0, none⟩) n cap) E) {k : Nat} {e : En} (hk : E[k]? = some e) {o : Nat} {v : Value} (hv : e.cells[o]? = some v) : w.cell? ⟨g, k * 6 + o, none⟩ = some v := by
  rcases h.form with ⟨h1, _⟩ | ⟨g', cap', cur, h1, h2, h3, _⟩
  · cases h1
  · simp only [Value.slice.injEq, Option.some.injEq, Addr.mk.injEq] at h1
    obtain ⟨⟨rfl, _, _⟩, rfl, rfl⟩ := h1
    exact owns_at h (rows_get hk hv)

/-- The least index from which on the openings lie at a or behind. -/
structure Cut (E : List En) (a : Int) (i : Nat) : Prop where
  le : i ≤ E.length
  lo : ∀ k e, k < i → E[k]? = some e → e.at_ < a
  hi : ∀ k e, i ≤ k → E[k]? = some e → a ≤ e.at_

def Sorted (E : List En) : Prop := ∀ (j k : Nat) (e f : En), j ≤ k → E[j]? = some e → E[k]? = some f → e.at_ ≤ f.at_

set_option maxRecDepth 100000 in
set_option maxHeartbeats 400000 in
theorem keep_nil (w : World) (SB : Nat) (h4 : w.cell? ⟨SB, 4, none⟩ = some (.slice none 0 0)) :
    Calls Yba.prog 11 #[.pointer (some ⟨SB, 4, none⟩), .int .i64 0] w fun e w' => e = .returned (.int .i64 (-1)) ∧ w' = w := by
  go_enter Yba.func11, Yba.ntmps11
  go_wp2
  go_ret
  exact ⟨rfl, rfl⟩

set_option maxRecDepth 100000 in
set_option maxHeartbeats 800000 in
/-- The closure that sort.Search is handed. -/
theorem pred_any (w : World) (base SB bs bf g cap n : Nat) (a : Int) (E : List En) (k : Nat) (e : En) (hn : n = E.length) (hl : n ≤ 1024) (hk : E[k]? = some e)
    (h1 : w.cell? ⟨bs, 0, none⟩ = some (.pointer (some ⟨SB, 0, none⟩))) (h2 : w.cell? ⟨bf, 1, none⟩ = some (.int .i64 a)) (h10 : w.cell? ⟨SB, 10, none⟩ = some (.slice (some ⟨g, 0, none⟩) n cap)) (hO : Own w base (.slice (some ⟨g, 0, none⟩) n cap) E) :
    Calls Yba.prog 13 #[.int .i64 k, .pointer (some ⟨bs, 0, none⟩), .pointer (some ⟨bf, 0, none⟩)] w fun e' w' => e' = .returned (.bool (decide (a ≤ e.at_))) ∧ ∃ q, w' = w.drewN q := by
  have c0 : w.cell? ⟨g, k * 6, none⟩ = some (.int .i64 e.at_) := hO.get hk (o := 0) rfl
  have hkn : k < n := by rw [hn]; exact (List.getElem?_eq_some_iff.1 hk).1
  have hkn' : (k : Int) < (n : Int) := by omega
  go_enter Yba.func13, Yba.ntmps13
  go_wp2
  go_quiet (fail)
  go_wp2
  go_ret
  exact ⟨rfl, _, rfl⟩

end Go.Proofs.Ybulkabbe
