import Derived.Test.YbulkabbsJb
/- begin, addReader. -/
namespace Go.Proofs.Ybulkabbs
open Go.RowKit
set_option linter.unusedVariables false

/-- A frames' row with no room. -/
def Empt (w : World) (fa : Option Addr) : Prop := fa = none ∨ ∃ f d, fa = some ⟨f, 0, none⟩ ∧ w.heap[f]? = some (.cells d 38 (0, 0)) ∧ d.size = 0
theorem Empt.owns {w : World} {fa : Option Addr} (h : Empt w fa) : w.ownsRow 0 38 2 (.slice fa 0 0) 0 [] := by
  rcases h with rfl | ⟨f, d, rfl, h1, h2⟩
  · exact ⟨rfl, .inl ⟨rfl, rfl⟩⟩
  · exact ⟨rfl, .inr ⟨f, 0, d, rfl, by omega, h1, by omega, by unfold maxLen; omega, by omega, by simp⟩⟩

theorem row_at {W : World} {l : List Value} {t : TypeId} {B : Nat} (hB : W.heap.size = B) : ∀ j u, l[j]? = some u → (W.alloc (.cells l.toArray t)).cell? ((⟨B, 0, none⟩ : Addr).add j) = some u := by
  intro j u hj
  subst hB
  have hadd : (⟨W.heap.size, 0, none⟩ : Addr).add j = ⟨W.heap.size, j, none⟩ := by unfold Addr.add; split <;> simp_all
  rw [hadd, World.cell?_alloc_new]
  simpa using hj

theorem grew {w w1 : World} {o : Obj} {fa : Option Addr} {g' n cap m : Nat} (hm : 0 < m) (h : (Value.slice fa n n = .slice (some ⟨g', 0, none⟩) n cap ∧ n + m ≤ cap ∧ Fr (· = g') (w.alloc o) w1) ∨ (g' = (w.alloc o).heap.size ∧ w1.heap.size = (w.alloc o).heap.size + 1 ∧ Fr (fun _ => False) (w.alloc o) w1)) :
    Fr (fun _ => False) w w1 ∧ w.heap.size ≤ g' := by
  rcases h with ⟨h, hc, _⟩ | ⟨h, _, hF⟩
  · simp only [Value.slice.injEq] at h; omega
  · exact ⟨((Fr.refl _ w).alloc o).trans hF, by rw [h, World.size_alloc]; omega⟩

theorem addr_add (b off k : Nat) : (⟨b, off, none⟩ : Addr).add k = ⟨b, off + k, none⟩ := by unfold Addr.add; split <;> simp_all
theorem owns_at {w : World} {base : Nat} {e : TypeId} {size g n cap : Nat} {xs : List Value} (h : w.ownsRow base e size (.slice (some ⟨g, 0, none⟩) n cap) n xs) {j : Nat} {u : Value} (hj : xs[j]? = some u) : w.cell? ⟨g, j, none⟩ = some u := by
  have := h.cells (g := g) rfl j u hj
  rwa [addr_add, Nat.zero_add] at this

def BegPost (w : World) (g m : Nat) (c : Array Value) (t : TypeId) (i : Int) (w' : World) : Prop :=
  ∃ f' cap, w.heap.size ≤ f' ∧ w'.heap[g]? = some (.cells ((c.setIfInBounds m (.slice (some ⟨f', 0, none⟩) 1 cap)).setIfInBounds (m + 1) (.int .i64 0)) t (0, 0)) ∧ w'.cell? ⟨f', 0, none⟩ = some (.int .i64 i) ∧ Fr (· = g) w w'

set_option maxRecDepth 100000 in
set_option maxHeartbeats 800000 in
theorem begin_any (w : World) (g m : Nat) (c : Array Value) (t : TypeId) (fa : Option Addr) (i : Int) (hg : w.heap[g]? = some (.cells c t (0, 0))) (hm : m + 1 < c.size) (h0 : c[m]? = some (.slice fa 0 0)) (hE : Empt w fa) :
    Calls Yba.prog 11 #[.pointer (some ⟨g, m, none⟩), .int .i64 i] w fun e w' => e = .returned (.tuple #[]) ∧ BegPost w g m c t i w' := by
  obtain ⟨i38, hi, hz0, hz1, hz2⟩ := info_parts Yba.info38
  have hx : w.cell? ⟨g, m, none⟩ = some (.slice fa 0 0) := (cellOf hg m).trans h0
  have hown := hE.owns
  go_enter Yba.func11, Yba.ntmps11
  have hmk : ∀ x : Nat, (0 : Nat) + 1 ≤ maxLen := fun _ => by unfold maxLen; omega
  go_wp2_with (at_builtin; refine wpList_append_fr _ rfl (.tmp 9) (.tmp 12) 32 rfl 0 38 i38 _ 2 16 Yba.underlying32 hi hz0 hz1 hz2 rfl (.slice fa 0 0) 0 [] (by rfl) (hown.alloc _) ⟨w.heap.size, 0, none⟩ 1 1 [.int .i64 i, .bool false] (by rfl) rfl (row_at rfl) (by simp [Value.oneCell']) (by omega) (hmk 0) (by omega) (by omega) ?_; intro g' cap' w1 how hcase; obtain ⟨F1, hge⟩ := grew (by omega) hcase; have hg1 := F1.obj hg (fun h => h); have e0 : w1.cell? ⟨g, m, none⟩ = some (.slice fa 0 0) := (cellOf hg1 m).trans h0; have e1 : w1.cell? ⟨g, m + 1, none⟩ = some (c[m + 1]'hm) := (cellOf hg1 (m + 1)).trans (Array.getElem?_eq_getElem _); have fr0 := freeOf hg1 m; have fr1 := freeOf hg1 (m + 1))
  first | go_end0 | refine bodyPost_ret (results_none rfl _ _ _) rfl ?_
  have hgl := obj_lt hg
  have Fg : Fr (· = g) w1 ((w1.setCell ⟨g, m, none⟩ (.slice (some ⟨g', 0, none⟩) 1 cap')).setCell ⟨g, m + 1, none⟩ (.int .i64 0)) :=
    ((Fr.refl (· = g) w1).setCell (p := ⟨g, m, none⟩) (.inl rfl) _).setCell (p := ⟨g, m + 1, none⟩) (.inl rfl) _
  refine ⟨rfl, g', cap', hge, heap_setCell (heap_setCell hg1 _ _) _ _, Fg.cell (owns_at how rfl) (by simp; omega), (F1.mono (fun _ _ h => h.elim)).trans Fg⟩

/-- What the readers read, from what was built. -/
theorem Blt.rds {w : World} {g n : Nat} {L : Nat → Nat} {O : Nat → Nat → Int} (h : Blt w g n n L O) (hl : ∀ k, k < n → L k ≤ 1024) : ∃ FA, Rds w g n FA L L (fun k => O k (L k - 1)) := by
  obtain ⟨c, F, h1, h2, h3⟩ := h
  refine ⟨fun k => some ⟨F k, 0, none⟩, ⟨fun k hk => (cellOf h1 _).trans (h3 k hk).1, hl, fun k hk h0 => ?_⟩⟩
  obtain ⟨d, e1, e2, e3⟩ := (h3 k hk).2
  exact ⟨F k, 0, rfl, by rw [Nat.zero_add]; exact (cellOf e1 _).trans (e3 _ (by omega))⟩

/-- What addReader hands back. -/
def AddPost (w : World) (g n : Nat) (L : Nat → Nat) (i : Int) (e : Ending) (w' : World) : Prop :=
  ∃ g' n' cap' FA FL FC V, e = .returned (.slice (some ⟨g', 0, none⟩) n' cap') ∧ n' ≤ 1025 ∧ Rds w' g' n' FA FL FC V ∧ hitR FL V i n' = true ∧ (((∃ m, m < n ∧ L m = 0) ∧ n' = n) ∨ ((∀ k, k < n → 0 < L k) ∧ n' = n + 1)) ∧ Fr (· = g) w w'

/-- An idle reader was taken. -/
theorem add_idle {w w' : World} {g n m : Nat} {L : Nat → Nat} {O : Nat → Nat → Int} {c : Array Value} {F : Nat → Nat} {i : Int} (hn : n ≤ 1024) (hl : ∀ k, k < n → L k ≤ 1024)
    (h1 : w.heap[g]? = some (.cells c 35 (0, 0))) (h2 : c.size = n * 7) (h3 : ∀ j, j < n → c[j * 7]? = some (.slice (some ⟨F j, 0, none⟩) (L j) (L j)) ∧ FrB w (F j) (L j) (L j) (O j)) (hm : m < n) (h0 : L m = 0)
    (hP : BegPost w g (m * 7) c 35 i w') : AddPost w g n L i (.returned (.slice (some ⟨g, 0, none⟩) n n)) w' := by
  obtain ⟨f', cap, hf, hg', hc', hF⟩ := hP
  refine ⟨g, n, n, fun k => if k = m then some ⟨f', 0, none⟩ else some ⟨F k, 0, none⟩, fun k => if k = m then 1 else L k, fun k => if k = m then cap else L k, fun k => if k = m then i else O k (L k - 1), rfl, by omega, ⟨fun k hk => ?_, fun k hk => ?_, fun k hk hk0 => ?_⟩, ?_, .inl ⟨⟨m, hm, h0⟩, rfl⟩, hF⟩
  · refine (cellOf hg' _).trans ?_
    rw [Array.getElem?_setIfInBounds, if_neg (by omega), Array.getElem?_setIfInBounds]
    by_cases e : k = m
    · subst e
      rw [if_pos rfl, if_pos (by omega)]
      simp
    · rw [if_neg (by omega)]
      simp only [if_neg e]
      exact (h3 k hk).1
  · by_cases e : k = m
    · simp [e]
    · simp only [if_neg e]; exact hl k hk
  · by_cases e : k = m
    · subst e
      simp only [if_true] at hk0 ⊢
      exact ⟨f', 0, rfl, hc'⟩
    · simp only [if_neg e] at hk0 ⊢
      obtain ⟨d, e1, e2, e3⟩ := (h3 k hk).2
      have hne : ¬ F k = g := fun e => by rw [e, h1] at e1; simp at e1
      exact ⟨F k, 0, rfl, by rw [Nat.zero_add]; exact (cellOf (hF.obj e1 hne) _).trans (e3 _ (by omega))⟩
  · exact (hitR_iff _ _ _ _).2 ⟨m, hm, by simp, by simp⟩

def news (f' cap : Nat) : List Value := [.slice (some ⟨f', 0, none⟩) 1 cap, .int .i64 0, .bool false, .int .i64 0, .bool false, .int .i64 0, .string ⟨#[]⟩]

/-- A new reader was laid behind the others. -/
theorem add_new {w w' : World} {g n g' cap' f' cap : Nat} {L : Nat → Nat} {O : Nat → Nat → Int} {c : Array Value} {F : Nat → Nat} {i : Int} (hn : n ≤ 1024) (hl : ∀ k, k < n → L k ≤ 1024)
    (h1 : w.heap[g]? = some (.cells c 35 (0, 0))) (h2 : c.size = n * 7) (h3 : ∀ j, j < n → c[j * 7]? = some (.slice (some ⟨F j, 0, none⟩) (L j) (L j)) ∧ FrB w (F j) (L j) (L j) (O j)) (h0 : ∀ k, k < n → 0 < L k)
    (hown : w'.ownsRow 0 35 7 (.slice (some ⟨g', 0, none⟩) (n + 1) cap') (n + 1) (c.toList ++ news f' cap)) (hc' : w'.cell? ⟨f', 0, none⟩ = some (.int .i64 i)) (hF : Fr (fun _ => False) w w') :
    AddPost w g n L i (.returned (.slice (some ⟨g', 0, none⟩) (n + 1) cap')) w' := by
  refine ⟨g', n + 1, cap', fun k => if k = n then some ⟨f', 0, none⟩ else some ⟨F k, 0, none⟩, fun k => if k = n then 1 else L k, fun k => if k = n then cap else L k, fun k => if k = n then i else O k (L k - 1), rfl, by omega, ⟨fun k hk => ?_, fun k hk => ?_, fun k hk hk0 => ?_⟩, ?_, .inr ⟨h0, rfl⟩, hF.mono (fun _ _ h => h.elim)⟩
  · refine owns_at hown ?_
    by_cases e : k = n
    · subst e
      rw [List.getElem?_append_right (by simp [h2]), Array.length_toList, h2, Nat.sub_self]
      simp [news]
    · rw [List.getElem?_append_left (by simp [h2]; omega), Array.getElem?_toList]
      simp only [if_neg e]
      exact (h3 k (by omega)).1
  · by_cases e : k = n
    · simp [e]
    · simp only [if_neg e]; exact hl k (by omega)
  · by_cases e : k = n
    · subst e
      simp only [if_true] at hk0 ⊢
      exact ⟨f', 0, rfl, hc'⟩
    · simp only [if_neg e] at hk0 ⊢
      obtain ⟨d, e1, e2, e3⟩ := (h3 k (by omega)).2
      exact ⟨F k, 0, rfl, by rw [Nat.zero_add]; exact (cellOf (hF.obj e1 (fun h => h)) _).trans (e3 _ (by omega))⟩
  · exact (hitR_iff _ _ _ _).2 ⟨n, by omega, by simp, by simp⟩

theorem ext_lt {L : Nat → Nat} {k j : Nat} (h : ∀ j, j < k → 0 < L j) (hk : 0 < L k) (hj : j < k + 1) : 0 < L j := by
  rcases Nat.lt_or_ge j k with h' | h'
  · exact h j h'
  · obtain rfl : j = k := by omega
    exact hk

set_option maxRecDepth 100000 in
set_option maxHeartbeats 800000 in
theorem addReader_any (w : World) (g n : Nat) (L : Nat → Nat) (O : Nat → Nat → Int) (i : Int) (hn : n ≤ 1024) (hl : ∀ k, k < n → L k ≤ 1024) (hB : Blt w g n n L O) :
    Calls Yba.prog 8 #[.slice (some ⟨g, 0, none⟩) n n, .int .i64 i] w fun e w' => AddPost w g n L i e w' := by
  obtain ⟨c, F, h1, h2, h3⟩ := hB
  have HL := hid hl
  have H3 := hid h3
  have H1 := hid h1
  clear hl h3 h1
  obtain ⟨i35, hi, hz0, hz1, hz2⟩ := info_parts Yba.info35
  go_enter Yba.func8, Yba.ntmps8
  go_wp2
  go_loopg [9] n (fun m s9 wr => ∃ k : Nat, k ≤ n ∧ m = n - k ∧ s9 = .int .i64 k ∧ (∀ j, j < k → 0 < L j) ∧ w = wr)
  case atStart => exact ⟨0, by omega, by omega, rfl, fun j h => by omega, rfl⟩
  case round =>
    obtain ⟨k, hk, hm, rfl, hp, rfl⟩ := hrel
    have HP := hid hp
    clear hp
    by_cases hkn : k < n
    · have Hr := hid (reading_any w g (k * 7) (some ⟨F k, 0, none⟩) (L k) (L k) ((cellOf H1.out _).trans (H3.out k hkn).1) (HL.out k hkn))
      by_cases h0 : L k = 0
      · have Hr' : Hid (Calls Yba.prog 10 #[.pointer (some ⟨g, k * 7, none⟩)] w fun e w' => e = .returned (.bool false) ∧ w' = w) := by unfold Hid; have := Hr.out; rw [h0] at this; exact this
        have Hb : Hid (Calls Yba.prog 11 #[.pointer (some ⟨g, k * 7, none⟩), .int .i64 i] w fun e w' => e = .returned (.tuple #[]) ∧ BegPost w g (k * 7) c 35 i w') := by
          obtain ⟨d, e1, e2, _⟩ := (H3.out k hkn).2
          have := (H3.out k hkn).1
          rw [h0] at this
          exact begin_any w g (k * 7) c 35 _ i H1.out (by omega) this (.inr ⟨F k, d, rfl, e1, by omega⟩)
        clear Hr
        go_wp2_with (first | (go_at_call 10; refine Hr'.out.mono ?_; rintro e w' ⟨rfl, rfl⟩) | (go_at_call 11; refine Hb.out.mono ?_; rintro e w2 ⟨rfl, hP⟩))
        go_ret
        exact add_idle hn HL.out H1.out h2 H3.out hkn h0 hP
      · have h0' : 0 < L k := by omega
        have Hr' : Hid (Calls Yba.prog 10 #[.pointer (some ⟨g, k * 7, none⟩)] w fun e w' => e = .returned (.bool true) ∧ w' = w) := by unfold Hid; have := Hr.out; rw [show decide (0 < L k) = true by simp [h0']] at this; exact this
        clear Hr
        go_wp2_with (go_at_call 10; refine Hr'.out.mono ?_; rintro e w' ⟨rfl, rfl⟩)
        go_roundg (n - (k + 1))
        case measure => omega
        case rel => exact ⟨k + 1, by omega, rfl, by go_num, fun j hj => ext_lt HP.out h0' hj, rfl⟩
    · obtain rfl : k = n := by omega
      go_wp2_with fail
      refine (begin_any _ w.heap.size 0 zc35 35 none i (heap_alloc_new w _) (by decide) rfl (.inl rfl)).mono ?_
      rintro e w2 ⟨rfl, f', cap, hf, hg2, hc2, hF2⟩
      have r0 : w2.cell? ⟨w.heap.size, 0, none⟩ = some (.slice (some ⟨f', 0, none⟩) 1 cap) := (cellOf hg2 0).trans rfl
      have r1 : w2.cell? ⟨w.heap.size, 1, none⟩ = some (.int .i64 0) := (cellOf hg2 1).trans rfl
      have r2 : w2.cell? ⟨w.heap.size, 2, none⟩ = some (.bool false) := (cellOf hg2 2).trans rfl
      have r3 : w2.cell? ⟨w.heap.size, 3, none⟩ = some (.int .i64 0) := (cellOf hg2 3).trans rfl
      have r4 : w2.cell? ⟨w.heap.size, 4, none⟩ = some (.bool false) := (cellOf hg2 4).trans rfl
      have r5 : w2.cell? ⟨w.heap.size, 5, none⟩ = some (.int .i64 0) := (cellOf hg2 5).trans rfl
      have r6 : w2.cell? ⟨w.heap.size, 6, none⟩ = some (.string ⟨#[]⟩) := (cellOf hg2 6).trans rfl
      have hFw : Fr (fun _ => False) w w2 := ((Fr.refl (fun _ => False) w).alloc _).trans' hF2 (fun i hi h => by omega)
      have hown : w2.ownsRow 0 35 7 (.slice (some ⟨g, 0, none⟩) k k) k c.toList :=
        ⟨by simp [h2], .inr ⟨g, k, c, rfl, by omega, hFw.obj H1.out (fun h => h), by omega, by unfold maxLen; omega, h2, by rw [← h2, ← Array.length_toList]; exact List.take_length⟩⟩
      have HX := hid (And.intro hc2 hFw)
      have hml : k + 1 ≤ maxLen := by unfold maxLen; omega
      clear hF2 hg2 hc2 hFw
      go_wp2_with (at_builtin; refine wpList_append_fr _ rfl (.tmp 26) (.tmp 28) 28 rfl 0 35 i35 _ 7 80 Yba.underlying28 hi hz0 hz1 hz2 rfl (.slice (some ⟨g, 0, none⟩) k k) k c.toList (by rfl) (hown.alloc _) ⟨w2.heap.size, 0, none⟩ 1 1 (news f' cap) (by rfl) rfl (row_at rfl) (by simp [news, Value.oneCell']) (by omega) hml (by omega) (by omega) ?_; intro g' cap' w3 how hcase; obtain ⟨F1, hge⟩ := grew (by omega) hcase)
      go_ret
      exact add_new hn HL.out H1.out h2 H3.out HP.out how (F1.cell HX.out.1 (fun h => h)) (HX.out.2.trans F1)

end Go.Proofs.Ybulkabbs
