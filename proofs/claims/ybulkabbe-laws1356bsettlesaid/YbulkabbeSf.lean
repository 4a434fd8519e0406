import Derived.Test.YbulkabbeSe
namespace Go.Proofs.Ybulkabbe
open Go.RowKit
set_option linter.unusedVariables false

theorem built54 (p : Addr) (wh ls en : Value) (tr lk : Int) (wa la ea : Option Addr) (wn wc ln lc en' ec : Nat) :
    ∃ c, Yba.prog.built 54 [(0, .pointer (some p)), (1, .agg #[.slice wa wn wc, .slice none 0 0, .slice none 0 0]), (3, .int .i64 tr), (5, .slice ea en' ec), (2, .agg #[.slice none 0 0, .int .i64 0, .slice la ln lc, .slice none 0 0]), (7, .int .i64 lk)] = some c ∧
      c[0]? = some (.pointer (some p)) ∧ c[1]? = some (.slice wa wn wc) ∧ c[4]? = some (.slice none 0 0) ∧ c[5]? = some (.int .i64 0) ∧ c[6]? = some (.slice la ln lc) ∧ c[8]? = some (.int .i64 tr) ∧ c[9]? = some (.slice none 0 0) ∧ c[10]? = some (.slice ea en' ec) ∧ c[1803]? = some (.int .i64 lk) :=
  ⟨(Yba.prog.built 54 [(0, .pointer (some p)), (1, .agg #[.slice wa wn wc, .slice none 0 0, .slice none 0 0]), (3, .int .i64 tr), (5, .slice ea en' ec), (2, .agg #[.slice none 0 0, .int .i64 0, .slice la ln lc, .slice none 0 0]), (7, .int .i64 lk)]).getD #[], by kernel_rfl, by kernel_rfl, by kernel_rfl, by kernel_rfl, by kernel_rfl, by kernel_rfl, by kernel_rfl, by kernel_rfl, by kernel_rfl, by kernel_rfl⟩

theorem Yba.info59 : (Yba.prog.info? 59).map (fun i => (i.zero, i.size, i.bytes)) = some (some (.agg #[.int .u8 0, .int .i64 0, .int .i64 0, .int .i64 0, .bool false, .bool false, .bool false, .bool false]), 8, 40) := by kernel_rfl
theorem Yba.info49 : (Yba.prog.info? 49).map (fun i => (i.zero, i.size, i.bytes)) = some (some (.agg #[.int .i64 0, .int .i64 0, .int .i64 0, .int .u8 0, .bool false, .int .i64 0]), 6, 40) := by kernel_rfl

def zc59 : Array Value := #[.int .u8 0, .int .i64 0, .int .i64 0, .int .i64 0, .bool false, .bool false, .bool false, .bool false]
def z40 (n : Nat) : Array Value := madeCells zc59 (n * 8)
def z46 (n : Nat) : Array Value := madeCells #[.int .i64 0, .int .i64 0, .int .i64 0, .int .u8 0, .bool false, .int .i64 0] (n * 6)

theorem make40 (W : World) (n : Nat) (hn : n ≤ 1000) : (Instr.makeSlice 40 (.int .i64 1) (.int .i64 ((n : Int) + 1))).run Yba.prog W = .ok (.slice (some ⟨W.heap.size, 0, none⟩) 1 (n + 1)) (W.alloc (.cells (z40 (n + 1)) 59)) := by
  obtain ⟨i9, hj, hy0, hy1, hy2⟩ := info_parts Yba.info59
  have h := run_make (P := Yba.prog) W 40 59 i9 _ Yba.underlying40 hj hy0 .i64 .i64 1 ((n : Int) + 1) (by omega) (by omega) (by rw [hy2]; omega) (by omega)
  rw [h, hy1]
  have e : ((n : Int) + 1).toNat = n + 1 := by omega
  rw [e]
  rfl

theorem make46 (W : World) (n : Nat) (hn : n ≤ 1000) : (Instr.makeSlice 46 (.int .i64 (n : Int)) (.int .i64 (n : Int))).run Yba.prog W = .ok (.slice (some ⟨W.heap.size, 0, none⟩) n n) (W.alloc (.cells (z46 n) 49)) := by
  obtain ⟨i9, hj, hy0, hy1, hy2⟩ := info_parts Yba.info49
  have h := run_make (P := Yba.prog) W 46 49 i9 _ Yba.underlying46 hj hy0 .i64 .i64 n n (by omega) (by omega) (by rw [hy2]; omega) (by omega)
  rw [h, hy1]
  simp only [Int.toNat_natCast]
  rfl

theorem z40_size (n : Nat) : (z40 n).size = n * 8 := by simp [z40, size_madeCells]
theorem z40_get (n j : Nat) (hj : j < 8) : (z40 (n + 1))[j]? = zc59[j]? := by
  have h1 : j < (z40 (n + 1)).size := by rw [z40_size]; omega
  have h8 : zc59.size = 8 := rfl
  rw [Array.getElem?_eq_getElem h1, Array.getElem?_eq_getElem (by rw [h8]; exact hj)]
  unfold z40 madeCells
  simp only [Array.getElem_map, Array.getElem_range, h8]
  rw [Nat.mod_eq_of_lt hj, getElem!_pos zc59 j (by rw [h8]; exact hj)]
theorem set_id {c : Array Value} {i : Nat} {v : Value} (h : c[i]? = some v) : c.setIfInBounds i v = c := by
  apply Array.ext_getElem?
  intro k
  rw [Array.getElem?_setIfInBounds]
  by_cases e : i = k
  · subst e
    have := (Array.getElem?_eq_some_iff.1 h).1
    rw [if_pos rfl, if_pos this, h]
  · rw [if_neg e]

/-- The stack's cells behind k frames. -/
def stk (P : Nat → Nat) (T : Nat → Bool) : Nat → List Value
  | 0 => frCells 0 false
  | k + 1 => stk P T k ++ frCells (P k) (T k)
theorem stk_len (P : Nat → Nat) (T : Nat → Bool) : ∀ k, (stk P T k).length = (k + 1) * 8
  | 0 => rfl
  | k + 1 => by rw [stk, List.length_append, stk_len P T k]; simp [frCells]; omega
theorem stk_get (P : Nat → Nat) (T : Nat → Bool) {o : Nat} {v : Value} : ∀ {k i : Nat}, i < k → (frCells (P i) (T i))[o]? = some v → (stk P T k)[(i + 1) * 8 + o]? = some v
  | 0, i, h, _ => by omega
  | k + 1, i, h, hv => by
    have ho : o < 8 := by have := (List.getElem?_eq_some_iff.1 hv).1; simpa [frCells] using this
    rw [stk]
    by_cases e : i = k
    · subst e
      rw [List.getElem?_append_right (by rw [stk_len]; omega), stk_len, Nat.add_sub_cancel_left]; exact hv
    · rw [List.getElem?_append_left (by rw [stk_len]; omega)]
      exact stk_get P T (by omega) hv
theorem stk_zero (P : Nat → Nat) (T : Nat → Bool) : ∀ k, (stk P T k)[0]? = some (.int .u8 0)
  | 0 => rfl
  | k + 1 => by rw [stk, List.getElem?_append_left (by rw [stk_len]; omega)]; exact stk_zero P T k

theorem frOk_of {w : World} {B g k cap : Nat} {P : Nat → Nat} {T : Nat → Bool} (h : w.ownsRow B 59 8 (.slice (some ⟨g, 0, none⟩) (k + 1) cap) (k + 1) (stk P T k)) : FrOk w g k P T ∧ B ≤ g := by
  obtain ⟨hl, h2⟩ := h
  rcases h2 with ⟨hv, _⟩ | ⟨g', cap', cur, hv, hb, hg, hnc, hcm, hcs, htake⟩
  · cases hv
  · simp only [Value.slice.injEq, Option.some.injEq, Addr.mk.injEq] at hv
    obtain ⟨⟨rfl, _⟩, _⟩ := hv
    have get : ∀ (j : Nat) (v : Value), (stk P T k)[j]? = some v → cur[j]? = some v := by
      intro j v hj
      rw [← htake, List.getElem?_take] at hj
      split at hj
      · simpa using hj
      · cases hj
    exact ⟨⟨cur, hg, get 0 _ (stk_zero P T k), fun i hi o v hv => get _ _ (stk_get P T hi hv)⟩, hb⟩

/-- The first trial, and where it opens. -/
def firstI (T : Nat → Bool) : Nat → Int
  | 0 => -1
  | k + 1 => if T k = true ∧ firstI T k < 0 then (k : Int) else firstI T k
def fAtI (T : Nat → Bool) (P : Nat → Nat) : Nat → Int
  | 0 => 0
  | k + 1 => if T k = true ∧ firstI T k < 0 then (P k : Int) else fAtI T P k
theorem firstI_new {T : Nat → Bool} {k : Nat} (h : T k = true) (h' : firstI T k < 0) : firstI T (k + 1) = k := by rw [firstI, if_pos ⟨h, h'⟩]
theorem fAtI_new {T : Nat → Bool} {P : Nat → Nat} {k : Nat} (h : T k = true) (h' : firstI T k < 0) : fAtI T P (k + 1) = P k := by rw [fAtI, if_pos ⟨h, h'⟩]
theorem firstI_old {T : Nat → Bool} {k : Nat} (h : ¬ (T k = true ∧ firstI T k < 0)) : firstI T (k + 1) = firstI T k := by rw [firstI, if_neg h]
theorem fAtI_old {T : Nat → Bool} {P : Nat → Nat} {k : Nat} (h : ¬ (T k = true ∧ firstI T k < 0)) : fAtI T P (k + 1) = fAtI T P k := by rw [fAtI, if_neg h]
theorem firstI_range (T : Nat → Bool) : ∀ k : Nat, -1 ≤ firstI T k ∧ firstI T k < k
  | 0 => by simp [firstI]
  | k + 1 => by have := firstI_range T k; rw [firstI]; split <;> omega
theorem fAtI_range (T : Nat → Bool) (P : Nat → Nat) (sz : Nat) (hP : ∀ i, P i ≤ sz) : ∀ k : Nat, 0 ≤ fAtI T P k ∧ fAtI T P k ≤ sz
  | 0 => by simp [fAtI]
  | k + 1 => by have := fAtI_range T P sz hP k; have := hP k; rw [fAtI]; split <;> omega

theorem cnt_zero {T : Nat → Bool} : ∀ {m : Nat}, cnt T m = 0 → ∀ i, i < m → T i = false
  | 0, _, i, h => by omega
  | m + 1, h, i, hi => by
    simp only [cnt] at h
    by_cases e : i = m
    · subst e; cases hT : T i with
      | false => rfl
      | true => rw [hT] at h; simp at h
    · exact cnt_zero (m := m) (by omega) i (by omega)
theorem firstI_none {T : Nat → Bool} : ∀ {m : Nat}, (∀ i, i < m → T i = false) → firstI T m = -1
  | 0, _ => rfl
  | m + 1, h => by rw [firstI_old (fun h' => by rw [h m (by omega)] at h'; exact absurd h'.1 (by simp))]; exact firstI_none (fun i hi => h i (by omega))
theorem firstI_at {T : Nat → Bool} {P : Nat → Nat} {m : Nat} (h0 : ∀ i, i < m → T i = false) (hT : T m = true) : ∀ {k : Nat}, m < k → firstI T k = m ∧ fAtI T P k = P m
  | 0, h => by omega
  | k + 1, h => by
    by_cases e : m = k
    · subst e
      have hn : firstI T m < 0 := by rw [firstI_none h0]; omega
      exact ⟨firstI_new hT hn, fAtI_new hT hn⟩
    · have ih := firstI_at (P := P) h0 hT (k := k) (by omega)
      have hn : ¬ (T k = true ∧ firstI T k < 0) := fun h' => by rw [ih.1] at h'; omega
      rw [firstI_old hn, fAtI_old hn]; exact ih

/-- What the law wants of the end: how much is kept, where reading goes on, which offsets are known. -/
theorem end_facts {len k : Nat} {T : Nat → Bool} {P : Nat → Nat} {pos : Int} (hk : k ≤ len) (h0 : cnt T (len - k) = 0) (h1 : k = 0 ∨ 0 < cnt T (len - k + 1)) :
    (k = 0 ∧ firstI T len = -1 ∧ posB len T P pos k = pos ∧ ∀ i, i < len → T i = false) ∨ (0 < k ∧ firstI T len = ((len - k : Nat) : Int) ∧ posB len T P pos k = fAtI T P len ∧ T (len - k) = true) := by
  have hz := cnt_zero h0
  rcases h1 with rfl | h1
  · exact .inl ⟨rfl, firstI_none (by simpa using hz), rfl, by simpa using hz⟩
  · by_cases e : k = 0
    · subst e; exact .inl ⟨rfl, firstI_none (by simpa using hz), rfl, by simpa using hz⟩
    · right
      have hT : T (len - k) = true := by
        simp only [cnt, h0] at h1
        cases hT : T (len - k) with
        | true => rfl
        | false => rw [hT] at h1; simp at h1
      obtain ⟨k', rfl⟩ : ∃ k', k = k' + 1 := ⟨k - 1, by omega⟩
      have hf := firstI_at (P := P) hz hT (k := len) (by omega)
      have e1 : len - 1 - k' = len - (k' + 1) := by omega
      refine ⟨by omega, hf.1, ?_, hT⟩
      rw [posB, e1, hT, hf.2]; rfl

theorem hitB_iff {len : Nat} {T : Nat → Bool} {P : Nat → Nat} (p : Nat) : ∀ {k : Nat}, k ≤ len → (hitB len T P k p = true ↔ ∃ i, len - k ≤ i ∧ i < len ∧ T i = true ∧ P i = p)
  | 0, _ => by simp [hitB]; intro i h1 h2; omega
  | k + 1, hk => by
    have ih := hitB_iff (len := len) (T := T) (P := P) p (k := k) (by omega)
    have e1 : len - 1 - k = len - (k + 1) := by omega
    rw [hitB, e1]
    cases hT : T (len - (k + 1)) with
    | false =>
      simp only [Bool.false_eq_true, if_false]
      rw [ih]
      constructor
      · rintro ⟨i, h1, h2⟩; exact ⟨i, by omega, h2⟩
      · rintro ⟨i, h1, h2, h3, h4⟩
        refine ⟨i, ?_, h2, h3, h4⟩
        by_cases e : i = len - (k + 1)
        · subst e; rw [hT] at h3; cases h3
        · omega
    | true =>
      simp only [if_true, hitAt]
      by_cases e : p = P (len - (k + 1))
      · rw [if_pos e]
        simp only [true_iff]
        exact ⟨len - (k + 1), by omega, by omega, hT, e.symm⟩
      · rw [if_neg e, ih]
        constructor
        · rintro ⟨i, h1, h2⟩; exact ⟨i, by omega, h2⟩
        · rintro ⟨i, h1, h2, h3, h4⟩
          refine ⟨i, ?_, h2, h3, h4⟩
          by_cases e' : i = len - (k + 1)
          · subst e'; exact absurd h4.symm e
          · omega

/-- What the law's inner loop reckons: has one of the first t frames a trial at p? -/
def wantI (T : Nat → Bool) (P : Nat → Nat) (p : Nat) : Nat → Bool
  | 0 => false
  | t + 1 => wantI T P p t || (T t && P t == p)
theorem wantI_iff (T : Nat → Bool) (P : Nat → Nat) (p : Nat) : ∀ t, wantI T P p t = true ↔ ∃ i, i < t ∧ T i = true ∧ P i = p
  | 0 => by simp [wantI]
  | t + 1 => by
    rw [wantI, Bool.or_eq_true, wantI_iff T P p t]
    simp only [Bool.and_eq_true, beq_iff_eq]
    constructor
    · rintro (⟨i, h1, h2⟩ | ⟨h1, h2⟩)
      · exact ⟨i, by omega, h2⟩
      · exact ⟨t, by omega, h1, h2⟩
    · rintro ⟨i, h1, h2, h3⟩
      by_cases e : i = t
      · subst e; exact .inr ⟨h2, h3⟩
      · exact .inl ⟨i, by omega, h2, h3⟩
theorem want_hit {len k : Nat} {T : Nat → Bool} {P : Nat → Nat} (hk : k ≤ len) (h0 : cnt T (len - k) = 0) (p : Nat) : hitB len T P k p = wantI T P p len := by
  rw [Bool.eq_iff_iff, hitB_iff p hk, wantI_iff]
  constructor
  · rintro ⟨i, _, h⟩; exact ⟨i, h⟩
  · rintro ⟨i, h1, h2, h3⟩
    refine ⟨i, ?_, h1, h2, h3⟩
    rcases Nat.lt_or_ge i (len - k) with h | h
    · rw [cnt_zero h0 i h] at h2; cases h2
    · exact h

end Go.Proofs.Ybulkabbe
