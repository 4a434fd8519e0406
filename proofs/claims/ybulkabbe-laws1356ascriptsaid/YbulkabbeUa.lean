import Derived.Test.YbulkabbeTj
import Derived.ChangeKeysEq
/- The recent ends as plain data; arrays stored whole, compared whole. What keepEnd leaves, as plain facts. -/
namespace Go.Proofs.Ybulkabbe
open Go.RowKit Go.Proofs Go.Shelf
set_option linter.unusedVariables false

/-- A recent end's cells. -/
def rec7 (x : En × Int) : List Value := x.1.cells ++ [.int .i64 x.2]
def recs : List (En × Int) → List Value
  | [] => []
  | x :: xs => rec7 x ++ recs xs
theorem rec7_len (x : En × Int) : (rec7 x).length = 7 := rfl
theorem recs_len : ∀ L : List (En × Int), (recs L).length = L.length * 7
  | [] => rfl
  | x :: xs => by rw [recs, List.length_append, recs_len xs, rec7_len]; simp; omega
theorem recs_one : ∀ (L : List (En × Int)), ∀ v ∈ recs L, v.oneCell' = true
  | [], v, h => by simp [recs] at h
  | x :: xs, v, h => by
    rw [recs, List.mem_append] at h
    rcases h with h | h
    · simp [rec7, En.cells] at h
      rcases h with rfl | rfl | rfl | rfl | rfl | rfl | rfl <;> rfl
    · exact recs_one xs v h
theorem recs_at : ∀ (L : List (En × Int)) (m : Nat) (x : En × Int), L[m]? = some x → ((recs L).drop (m * 7)).take 7 = rec7 x
  | [], m, x, h => by simp at h
  | y :: ys, 0, x, h => by
    simp at h; subst h
    rw [recs, Nat.zero_mul, List.drop_zero, ← rec7_len y, List.take_left]
  | y :: ys, m + 1, x, h => by
    have := recs_at ys m x (by simpa using h)
    have e : (rec7 y).drop ((m + 1) * 7) = [] := List.drop_of_length_le (by rw [rec7_len]; omega)
    rw [recs, List.drop_append, rec7_len, show (m + 1) * 7 - 7 = m * 7 by omega, e, List.nil_append]
    exact this
theorem recs_set : ∀ (L : List (En × Int)) (m : Nat) (x : En × Int), m < L.length → recs (L.set m x) = (recs L).take (m * 7) ++ rec7 x ++ (recs L).drop (m * 7 + 7)
  | [], k, e, h => by simp at h
  | y :: ys, 0, x, h => by
    simp only [List.set_cons_zero, recs, Nat.zero_mul, List.take_zero, List.nil_append, Nat.zero_add]
    rw [← rec7_len y, List.drop_left]
  | y :: ys, k + 1, x, h => by
    have e1 : (rec7 y).take ((k + 1) * 7) = rec7 y := List.take_of_length_le (by rw [rec7_len]; omega)
    have e2 : (rec7 y).drop ((k + 1) * 7 + 7) = [] := List.drop_of_length_le (by rw [rec7_len]; omega)
    rw [List.set_cons_succ, recs, recs, recs_set ys k x (by simpa using h), List.take_append, List.drop_append, rec7_len, show (k + 1) * 7 - 7 = k * 7 by omega, show (k + 1) * 7 + 7 - 7 = k * 7 + 7 by omega, e1, e2]
    simp

/-- The recent ends' cells within the lexer's block. -/
def mid (c : Array Value) : List Value := (c.toList.drop 11).take 1792

theorem setL_size : ∀ (vs : List Value) (c : Array Value) (o : Nat), (setL c o vs).size = c.size
  | [], c, o => rfl
  | v :: vs, c, o => by rw [setL, setL_size vs]; simp
theorem setL_get : ∀ (vs : List Value) (c : Array Value) (o j : Nat), o + vs.length ≤ c.size → (setL c o vs)[j]? = if o ≤ j ∧ j < o + vs.length then vs[j - o]? else c[j]?
  | [], c, o, j, h => by simp [setL]; intro h1 h2; omega
  | v :: vs, c, o, j, h => by
    simp only [List.length_cons] at h
    rw [setL, setL_get vs _ (o + 1) j (by simp; omega)]
    by_cases h1 : o = j
    · subst h1
      rw [if_neg (by omega), if_pos (by simp), Nat.sub_self, Array.getElem?_setIfInBounds_self_of_lt (by omega)]
      rfl
    · rw [Array.getElem?_setIfInBounds_ne h1]
      by_cases h2 : o + 1 ≤ j ∧ j < o + 1 + vs.length
      · rw [if_pos h2, if_pos (by simp only [List.length_cons]; omega), show j - o = (j - (o + 1)) + 1 by omega, List.getElem?_cons_succ]
      · rw [if_neg h2, if_neg (by simp only [List.length_cons]; omega)]

theorem mid_set {c : Array Value} (hc : c.size = 1805) {L : List (En × Int)} (hL : L.length = 256) (hm : mid c = recs L) {m : Nat} (h : m < 256) (x : En × Int) : mid (setL c (11 + m * 7) (rec7 x)) = recs (L.set m x) := by
  rw [recs_set L m x (by omega), ← hm]
  apply List.ext_getElem?
  intro j
  have hl : (rec7 x).length = 7 := rfl
  have hml : (mid c).length = 1792 := by rw [hm, recs_len, hL]
  unfold mid
  rw [List.getElem?_take, List.getElem?_drop, Array.getElem?_toList, setL_get _ _ _ _ (by rw [hl, hc]; omega), hl]
  rw [List.getElem?_append, List.getElem?_append, List.length_append, List.length_take, List.length_take, List.length_drop, Array.length_toList, hc, hl, List.getElem?_take, List.getElem?_take, List.getElem?_drop, List.getElem?_drop, List.getElem?_take, List.getElem?_drop, Array.getElem?_toList]
  have e0 : min (m * 7) (min 1792 (1805 - 11)) = m * 7 := by omega
  rw [e0]
  by_cases h1 : j < m * 7
  · rw [if_pos (by omega), if_neg (by omega), if_pos (by omega), if_pos h1, if_pos h1, if_pos (by omega), Array.getElem?_toList]
  · by_cases h2 : j < m * 7 + 7
    · rw [if_pos (by omega), if_pos (by omega), if_pos h2, if_neg h1, show 11 + j - (11 + m * 7) = j - m * 7 by omega]
      simp
    · by_cases h3 : j < 1792
      · rw [if_pos h3, if_neg (by omega), if_neg h2, if_pos (by omega), Array.getElem?_toList]
        congr 1; omega
      · rw [if_neg h3, if_neg h2, if_neg (by omega)]

theorem mid_ten {c : Array Value} (v : Value) : mid (c.setIfInBounds 10 v) = mid c := by
  unfold mid
  rw [Array.toList_setIfInBounds, List.drop_set_of_lt (by omega)]
theorem mid_looks {c : Array Value} (v : Value) : mid (c.setIfInBounds 1803 v) = mid c := by
  unfold mid
  rw [Array.toList_setIfInBounds, List.drop_set, if_neg (by omega), List.take_set_of_le (by omega)]

/-- A block stored over from its head. -/
theorem heap_setCells {b : Nat} {t : TypeId} {f : Nat × Nat} : ∀ (vs : List Value) (o : Nat) (w : World) (c : Array Value), w.heap[b]? = some (.cells c t f) → (w.setCells b o vs).heap[b]? = some (.cells (setL c o vs) t f)
  | [], o, w, c, h => h
  | v :: vs, o, w, c, h => by rw [World.setCells, setL]; exact heap_setCells vs (o + 1) _ _ (heap_setCell h o v)
theorem fr_setCells {S : Nat → Prop} {b : Nat} {w0 : World} : ∀ (vs : List Value) (o : Nat) (w : World), Fr S w0 w → (S b ∨ w0.heap.size ≤ b) → Fr S w0 (w.setCells b o vs)
  | [], o, w, h, hb => h
  | v :: vs, o, w, h, hb => by rw [World.setCells]; exact fr_setCells vs (o + 1) _ (h.setCell (p := ⟨b, o, none⟩) hb v) hb
theorem setL_whole (c : Array Value) (vs : List Value) (h : vs.length = c.size) : setL c 0 vs = vs.toArray := by
  apply Array.ext_getElem?
  intro j
  rw [setL_get _ _ _ _ (by omega)]
  by_cases hj : j < vs.length
  · rw [if_pos (by omega)]; simp
  · rw [if_neg (by omega), Array.getElem?_eq_none (by omega)]
    simp; omega
theorem there_of {w : World} {b : Nat} {c : Array Value} {t : TypeId} (h : w.heap[b]? = some (.cells c t (0, 0))) {o n : Nat} (hn : o + n ≤ c.size) : w.there b o n := fun j hj =>
  ⟨by rw [cellOf h]; rw [Array.getElem?_eq_getElem (by omega)]; rfl, freeOf h _⟩
theorem range_of {w : World} {b : Nat} {l : List Value} {t : TypeId} (h : w.heap[b]? = some (.cells l.toArray t (0, 0))) : w.rangeAt b 0 l := fun j v hv => by
  rw [cellOf h, Nat.zero_add]; simpa using hv
theorem range_mid {w : World} {b : Nat} {c : Array Value} {t : TypeId} (h : w.heap[b]? = some (.cells c t (0, 0))) : w.rangeAt b 11 (mid c) := fun j v hv => by
  rw [cellOf h]
  unfold mid at hv
  rw [List.getElem?_take] at hv
  split at hv
  · rw [List.getElem?_drop] at hv; simpa using hv
  · cases hv
theorem range_fr {S : Nat → Prop} {w w' : World} {b o : Nat} {l : List Value} (h : w.rangeAt b o l) (F : Fr S w w') (hb : ¬ S b) : w'.rangeAt b o l := fun j v hv => F.cell (h j v hv) hb

theorem info52 : (Yba.prog.info? 52).map (·.size) = some 1792 := by kernel_rfl
theorem under52 : Yba.prog.underlying 52 = some (.array 256 51) := by kernel_rfl
theorem cells51 : Yba.prog.cellsOf 51 = 7 := by kernel_rfl

/-- What a fresh array holds. -/
theorem zero52 : ∃ z : Array Value, z.size = 1792 ∧ ∀ w : World, (zeroValue 52).run Yba.prog w = .ok (.agg z) w := by
  refine ⟨(((Yba.prog.info? 52).bind (·.zero)).map (·.cells)).getD #[], by kernel_rfl, fun w => ?_⟩
  have h : (Yba.prog.info? 52).bind (·.zero) = some (.agg ((((Yba.prog.info? 52).bind (·.zero)).map (·.cells)).getD #[])) := by kernel_rfl
  generalize (((Yba.prog.info? 52).bind (·.zero)).map (·.cells)).getD #[] = z at h
  cases hi : Yba.prog.info? 52 with
  | none => rw [hi] at h; cases h
  | some i =>
    rw [hi] at h
    have h' : i.zero = some (.agg z) := h
    simp [zeroValue, typeInfo, hi, h']

theorem eqIn51 (w : World) (d : Nat) (x : En × Int) : (Op.equalIn (d + 3) 51 (.agg (rec7 x).toArray) (.agg (rec7 x).toArray)).run Yba.prog w = .ok true w := by
  have u3 := Yba.underlying3
  have a3 := Yba.isAgg3
  have z3 := Yba.sizeOf3
  have a49 := Yba.isAgg49
  have z49 := Yba.sizeOf49
  have hS : Yba.prog.underlying 51 = some (.struct (Yba.prog.fieldsOf 51)) := by kernel_rfl
  have hp : Yba.prog.stoodInHeld 51 = false := by kernel_rfl
  have h49 := eqIn49 w d x.1
  rw [show d + 3 = (d + 2) + 1 from rfl, run_equalIn_agg w (d + 2) 51 _ _ hS hp]
  simp only [Program.fieldsOf, Yba.underlying51, rec7, En.cells] at h49 ⊢
  go_simp

theorem eqItems51 (w : World) (d : Nat) (L : List (En × Int)) : ∀ (is : List Nat), (∀ i ∈ is, i < L.length) → (Op.eqItems (d + 3) 51 7 (recs L).toArray (recs L).toArray is).run Yba.prog w = .ok true w
  | [], _ => rfl
  | i :: is, h => by
    have hi := h i (by simp)
    have hx : L[i]? = some L[i] := List.getElem?_eq_getElem hi
    have hp : (part 51 (recs L).toArray (i * 7)).run Yba.prog w = .ok (.agg (rec7 L[i]).toArray) w := by
      have a51 := Yba.isAgg51
      have z51 := Yba.sizeOf51
      unfold part
      simp [Sem.run_bind, a51, z51]
      exact recs_at L i _ hx
    rw [Op.eqItems, Sem.run_bind, hp]
    simp only [Result.andThen_ok, Sem.run_bind, hp, eqIn51, Bool.not_true, Bool.false_eq_true, if_false]
    exact eqItems51 w d L is (fun j hj => h j (by simp [hj]))

theorem eqIn52 (w : World) (L : List (En × Int)) (hL : L.length = 256) : (Op.equalIn 10000 52 (.agg (recs L).toArray) (.agg (recs L).toArray)).run Yba.prog w = .ok true w := by
  obtain ⟨i, hi⟩ : ∃ i, Yba.prog.info? 51 = some i := by
    cases h : Yba.prog.info? 51 with
    | none => have : (Yba.prog.info? 51).isSome = true := by kernel_rfl
              rw [h] at this; cases this
    | some i => exact ⟨i, rfl⟩
  rw [show (10000 : Nat) = 9999 + 1 from rfl, run_equalIn_array w 9999 _ _ under52 hi, cells51]
  exact eqItems51 w 9996 L _ (fun j hj => by rw [hL]; simpa using hj)
theorem neq52 (w : World) (L : List (En × Int)) (hL : L.length = 256) : (binOp .neq 52 (.agg (recs L).toArray) (.agg (recs L).toArray)).run Yba.prog w = .ok (.bool false) w := by
  rw [run_neq_struct, eqIn52 w L hL]
  rfl

/-! ### What keepEnd leaves -/
theorem sorted_iff (E : List En) : Sorted E ↔ E.Pairwise (fun e f => e.at_ ≤ f.at_) := by
  rw [List.pairwise_iff_getElem]
  constructor
  · intro h i j hi hj hij
    exact h i j _ _ (by omega) (List.getElem?_eq_getElem hi) (List.getElem?_eq_getElem hj)
  · intro h j k e f hjk he hf
    obtain ⟨h1, rfl⟩ := List.getElem?_eq_some_iff.1 he
    obtain ⟨h2, rfl⟩ := List.getElem?_eq_some_iff.1 hf
    by_cases e : j = k
    · subst e; omega
    · exact h j k h1 h2 (by omega)

theorem kept'_mem {a pos : Int} {E : List En} {e : En} (h : e ∈ kept' a pos E) : e.inner = true ∧ e.outer = pos ∧ a ≤ e.at_ ∧ e.pos ≤ pos := by
  unfold kept' at h
  rw [List.mem_map] at h
  obtain ⟨x, hx, rfl⟩ := h
  rw [List.mem_filter] at hx
  have := hx.2
  simp [goes] at this
  exact ⟨rfl, rfl, this.1.2, this.2⟩
theorem kept'_sorted {a pos : Int} {E : List En} (h : E.Pairwise (fun e f => e.at_ ≤ f.at_)) : (kept' a pos E).Pairwise (fun e f => e.at_ ≤ f.at_) := by
  unfold kept'
  rw [List.pairwise_map]
  exact List.Pairwise.filter _ h

structure Kept (a pos : Int) (k : En) (E : List En) (i : Nat) : Prop where
  le : i ≤ E.length
  len : (after a pos k E i).length ≤ E.length + 1
  lt : i < (after a pos k E i).length
  low : ∀ j e, j < i → (after a pos k E i)[j]? = some e → e.at_ < a
  here : (after a pos k E i)[i]? = some k
  same : (after a pos k E i).take i = E.take i
  high : ∀ j e, i < j → (after a pos k E i)[j]? = some e → e.inner = true ∧ e.outer = pos ∧ a ≤ e.at_ ∧ e.pos ≤ pos
  sorted : Sorted (after a pos k E i)
  top : Top (after a pos k E i)

theorem kept_facts {a pos : Int} {k : En} {E : List En} {i i0 : Nat} (hc : Cut E a i0) (hi : i ≤ i0) (hS : Sorted E) (hT : Top E) (hka : k.at_ = a) (hki : k.inner = false) : Kept a pos k E i := by
  have hle : i ≤ E.length := Nat.le_trans hi hc.le
  have hl : (E.take i).length = i := by rw [List.length_take]; omega
  have hk := kept'_le a pos (E.drop i)
  rw [List.length_drop] at hk
  have hlow : ∀ e ∈ E.take i, e.at_ < a := by
    intro e he
    obtain ⟨j, hj, rfl⟩ := List.getElem_of_mem he
    have hj' : j < i := by omega
    refine hc.lo j _ (by omega) ?_
    rw [← List.getElem?_eq_getElem hj, List.getElem?_take, if_pos hj']
  refine ⟨hle, ?_, ?_, ?_, ?_, ?_, ?_, ?_, ?_⟩
  · unfold after; rw [List.length_append, List.length_cons, hl]; omega
  · unfold after; rw [List.length_append, List.length_cons, hl]; omega
  · intro j e hj he
    unfold after at he
    rw [List.getElem?_append_left (by omega)] at he
    exact hlow e (List.mem_of_getElem? he)
  · unfold after; rw [List.getElem?_append_right (by omega), hl, Nat.sub_self]; rfl
  · unfold after; exact List.take_left' hl
  · intro j e hj he
    unfold after at he
    rw [List.getElem?_append_right (by omega), hl, show j - i = (j - i - 1) + 1 by omega, List.getElem?_cons_succ] at he
    exact kept'_mem (List.mem_of_getElem? he)
  · rw [sorted_iff] at hS ⊢
    unfold after
    rw [List.pairwise_append, List.pairwise_cons]
    refine ⟨hS.sublist (List.take_sublist _ _), ⟨fun e he => ?_, kept'_sorted (hS.sublist (List.drop_sublist _ _))⟩, fun e he f hf => ?_⟩
    · rw [hka]; exact (kept'_mem he).2.2.1
    · have h1 := hlow e he
      rw [List.mem_cons] at hf
      rcases hf with rfl | hf
      · omega
      · have := (kept'_mem hf).2.2.1; omega
  · intro e he
    unfold after at he
    by_cases h0 : i = 0
    · subst h0
      simp at he
      subst he; exact hki
    · rw [List.getElem?_append_left (by omega), List.getElem?_take, if_pos (by omega)] at he
      exact hT e he

end Go.Proofs.Ybulkabbe
