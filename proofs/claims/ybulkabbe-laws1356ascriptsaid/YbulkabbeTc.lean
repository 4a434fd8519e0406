import Derived.Test.YbulkabbeTb
import Derived.Shelf.Spec.SlicesInsertGrow
/- slices.Insert of one end. -/
namespace Go.Proofs.Ybulkabbe
open Go.RowKit Go.Proofs Go.Shelf
set_option linter.unusedVariables false

/-- copy, at elements of k cells, where what is written lies in one row. -/
theorem run_copy_rowK {P : Program} (w : World) (dT sT ty elem : TypeId) (k g o dLen dCap : Nat) (a : Addr) (sLen sCap : Nat) (cur : Array Value) (t : TypeId) (cs : List Value)
    (hu : P.underlying dT = some (.slice elem)) (hs : (P.info? elem).map (·.size) = some k)
    (hg : w.heap[g]? = some (.cells cur t (0, 0))) (hn : cs.length = Nat.min sLen dLen * k)
    (hsrc : ∀ j v, cs[j]? = some v → w.cell? (a.add j) = some v) (hfit : o + cs.length ≤ cur.size) (h1 : ∀ v ∈ cs, v.oneCell' = true) :
    (Builtin.copy_ #[dT, sT] ty #[.slice (some ⟨g, o, none⟩) dLen dCap, .slice (some a) sLen sCap]).run P w =
      .ok (goInt (Nat.min sLen dLen)) (w.setRow g (cur.toList.take o ++ cs ++ cur.toList.drop (o + cs.length)).toArray) := by
  have hl := run_loadCells_list (P := P) w a cs hsrc
  have hst := run_storeCells_at P g o t cs 0 cur w hg (by simpa using hfit) h1
  rw [hn] at hl
  cases hq : P.info? elem with
  | none => simp [hq] at hs
  | some i =>
    have hi : i.size = k := by simpa [hq] using hs
    simp [Builtin.copy_, run_underlying hu, Builtin.lenOf, Builtin.firstCells, sizeOf, typeInfo, hq, hi, hl, hst]

theorem addr_addT (b off k : Nat) : (⟨b, off, none⟩ : Addr).add k = ⟨b, off + k, none⟩ := by unfold Addr.add; split <;> simp_all

theorem setRow_fr (w : World) (g : Nat) (cs : Array Value) : Fr (· = g) w (w.setRow g cs) :=
  ⟨rfl, rfl, rfl, by simp [World.setRow], fun k _ hk => setRow_other w g k _ hk⟩

theorem Yba.info49' : (Yba.prog.info? 49).map (·.size) = some 6 := by kernel_rfl
theorem Yba.sizeOf49' (w : World) : (Go.sizeOf 49).run Yba.prog w = .ok 6 w := by
  obtain ⟨i, hi, hs⟩ := Option.map_eq_some_iff.1 Yba.info49'
  simp [sizeOf, typeInfo, hi, hs]

/-- What slices.Insert leaves. -/
def InsPost (w : World) (base : Nat) (s : Value) (E : List En) (i : Nat) (k : En) (e : Ending) (w' : World) : Prop :=
  ∃ g cap, e = .returned (.slice (some ⟨g, 0, none⟩) (E.length + 1) cap) ∧ Own w' base (.slice (some ⟨g, 0, none⟩) (E.length + 1) cap) (E.take i ++ k :: E.drop i) ∧ Fr (fun b => s.ownBlock = some b) w w'

theorem shape_of {w : World} {b : Nat} {c : Array Value} {t : TypeId} {f : Nat × Nat} (h : w.heap[b]? = some (.cells c t f)) : w.shape? b = some (t, c.size) := by
  simp [World.shape?, h]

theorem mixedY : Yba.prog.follows Departure.mixedOrders = true := by kernel_rfl

/-- The row behind the two copies. -/
theorem shift_row {cur : List Value} {E : List En} {k : En} {n i : Nat} {C1 : List Value} (hn : E.length = n) (hi : i < n) (hsz : (n + 1) * 6 ≤ cur.length) (hrow : cur.take (n * 6) = rows E)
    (hC1 : C1 = cur.take ((i + 1) * 6) ++ rows (E.drop i) ++ cur.drop ((i + 1) * 6 + (rows (E.drop i)).length)) :
    (C1.take (i * 6) ++ k.cells ++ C1.drop (i * 6 + k.cells.length)).take ((n + 1) * 6) = rows (E.take i ++ k :: E.drop i) := by
  have h6 : k.cells.length = 6 := rfl
  have hdl : (rows (E.drop i)).length = (n - i) * 6 := by rw [rows_length, List.length_drop, hn]
  have e1 : C1.take (i * 6) = rows (E.take i) := by
    rw [hC1, List.append_assoc, List.take_append_of_le_length (by rw [List.length_take]; omega), List.take_take, Nat.min_eq_left (by omega), ← rows_take, ← hrow, List.take_take, Nat.min_eq_left (by omega)]
  have e2 : C1.drop (i * 6 + 6) = rows (E.drop i) ++ cur.drop ((i + 1) * 6 + (rows (E.drop i)).length) := by
    rw [hC1, List.append_assoc]
    have hl : (cur.take ((i + 1) * 6)).length = i * 6 + 6 := by rw [List.length_take]; omega
    rw [← hl, List.drop_left]
  rw [h6, e1, e2, rows_append, rows, ← List.append_assoc]
  have hl : (rows (E.take i) ++ k.cells ++ rows (E.drop i)).length = (n + 1) * 6 := by
    rw [List.length_append, List.length_append, rows_length, h6, hdl, List.length_take, hn, Nat.min_eq_left (by omega)]; omega
  rw [List.take_append_of_le_length (by omega), List.take_of_length_le (by omega), List.append_assoc]

theorem shift_end {w : World} {base g n cap i : Nat} {cur C1 C2 : Array Value} {E : List En} {k : En} (hn : E.length = n) (hi : i < n) (hroom : n + 1 ≤ cap) (hcap : cap ≤ maxLen) (hb : base ≤ g)
    (hg : w.heap[g]? = some (.cells cur 49 (0, 0))) (hcs : cur.size = cap * 6) (hrow : cur.toList.take (n * 6) = rows E) (hs1 : C1.size = cap * 6)
    (hC1 : C1 = (cur.toList.take ((i + 1) * 6) ++ rows (E.drop i) ++ cur.toList.drop ((i + 1) * 6 + (rows (E.drop i)).length)).toArray)
    (hC2 : C2 = (C1.toList.take (i * 6) ++ k.cells ++ C1.toList.drop (i * 6 + k.cells.length)).toArray) :
    InsPost w base (.slice (some ⟨g, 0, none⟩) n cap) E i k (.returned (.slice (some ⟨g, 0, none⟩) (n + 1) cap)) ((w.drew.setRow g C1).setRow g C2) := by
  have hg1 : (w.drew.setRow g C1).heap[g]? = some (.cells C1 49 (0, 0)) := setRow_heap w.drew g cur C1 49 (0, 0) hg
  have hg2 := setRow_heap (w.drew.setRow g C1) g C1 C2 49 (0, 0) hg1
  have hlen : (E.take i ++ k :: E.drop i).length = n + 1 := by simp [hn]; omega
  refine ⟨g, cap, by rw [hn], ?_, ((Fr.refl _ w).drew.trans ((setRow_fr w.drew g C1).mono (fun b _ h => by simp [Value.ownBlock, h]))).trans ((setRow_fr _ g C2).mono (fun b _ h => by simp [Value.ownBlock, h]))⟩
  have hs2 : C2.size = cap * 6 := by
    rw [hC2]
    simp only [List.size_toArray, List.length_append, List.length_take, List.length_drop, Array.length_toList, hs1]
    have h6 : k.cells.length = 6 := rfl
    rw [h6]; omega
  show World.ownsRow _ base 49 6 _ _ _
  rw [hlen, hn]
  refine ⟨by rw [rows_length, hlen], .inr ⟨g, cap, C2, rfl, hb, hg2, hroom, hcap, hs2, ?_⟩⟩
  have := shift_row (k := k) hn hi (by rw [Array.length_toList, hcs]; omega) hrow (C1 := C1.toList) (by rw [hC1])
  rw [hC2]
  exact this

set_option maxRecDepth 100000 in
set_option maxHeartbeats 1600000 in
theorem insert_shift (w : World) (base g n cap i vb vc : Nat) (cur : Array Value) (E : List En) (k : En) (hn : E.length = n) (hi : i < n) (hroom : n + 1 ≤ cap) (hcap : cap ≤ maxLen) (hb : base ≤ g)
    (hg : w.heap[g]? = some (.cells cur 49 (0, 0))) (hcs : cur.size = cap * 6) (hrow : cur.toList.take (n * 6) = rows E) (hv : w.heap[vb]? = some (.cells k.cells.toArray 49 (0, 0))) (hvg : vb ≠ g) :
    Calls Yba.prog 14 #[.slice (some ⟨g, 0, none⟩) n cap, .int .i64 i, .slice (some ⟨vb, 0, none⟩) 1 vc] w fun e w' => InsPost w base (.slice (some ⟨g, 0, none⟩) n cap) E i k e w' := by
  have hcap' : cap ≤ 9223372036854775807 := by unfold maxLen at hcap; omega
  have hov : ∀ lb cb, (callFunc 27 #[.slice (some ⟨vb, 0, none⟩) 1 vc, .slice (some ⟨g, (i + 1) * 6, none⟩) lb cb]).run Yba.prog w = .ok (.value (.bool false)) w := fun lb cb => by
    rw [run_callFunc_extern Yba.func27 (by kernel_rfl) (by kernel_rfl) (by kernel_rfl) (e := Extern.SlicesOverlaps.overlaps #[46, 46] #[4]) (by kernel_rfl),
      Lib.run_overlaps_apart w 46 4 49 Yba.underlying46 6 Yba.sizeOf49' ⟨vb, 0, none⟩ ⟨g, (i + 1) * 6, none⟩ 1 vc lb cb hvg 49 49 6 (cap * 6) (by rw [shape_of hv]; rfl) (by rw [shape_of hg, hcs]) (by omega) (freeOf hv 0) (freeOf hv 6)]
    rfl
  have hz2 : ¬ ((i : Int) = (n : Int)) := by omega
  have hdl : (rows (E.drop i)).length = (n - i) * 6 := by rw [rows_length, List.length_drop, hn]
  have hw1 : IntKind.i64.wrap ((i : Int) + 1) = (i : Int) + 1 := by rw [IntKind.wrap_i64]; omega
  have hb1 : (0 : Int) ≤ (i : Int) + 1 := by omega
  have hin : i ≤ n := by omega
  have htn : ((i : Int) + 1).toNat = i + 1 := by omega
  have hb2 : ¬ (cap = i + 1) := by omega
  have hb3 : (i : Int) ≤ (n : Int) + 1 := by omega
  have hb4 : ¬ (cap = i) := by omega
  have hi6 : (i + 1) * 6 + (n - i) * 6 ≤ cap * 6 := by omega
  obtain ⟨C1, hC1⟩ : ∃ C1, C1 = (cur.toList.take ((i + 1) * 6) ++ rows (E.drop i) ++ cur.toList.drop ((i + 1) * 6 + (rows (E.drop i)).length)).toArray := ⟨_, rfl⟩
  have hcp1 : ∀ ty dc sc, (Builtin.copy_ #[46, 46] ty #[.slice (some ⟨g, (i + 1) * 6, none⟩) (n - i) dc, .slice (some ⟨g, i * 6, none⟩) (n + 1 - i) sc]).run Yba.prog w.drew = .ok (goInt (Nat.min (n + 1 - i) (n - i))) (w.drew.setRow g C1) := fun ty dc sc => by
    rw [hC1]
    exact run_copy_rowK w.drew 46 46 ty 49 6 g ((i + 1) * 6) (n - i) dc ⟨g, i * 6, none⟩ (n + 1 - i) sc cur 49 (rows (E.drop i)) Yba.underlying46 Yba.info49' hg (by rw [hdl]; simp only [Nat.min_def]; split <;> omega)
      (fun j v hj => by
        rw [addr_addT, ← rows_drop, List.getElem?_drop, ← hrow, List.getElem?_take] at *
        split at hj
        · rw [show w.drew.cell? ⟨g, i * 6 + j, none⟩ = cur[i * 6 + j]? from cellOf hg _]; simpa using hj
        · cases hj)
      (by rw [hdl]; omega) (rows_one _)
  have hs1 : C1.size = cap * 6 := by rw [hC1]; simp [hdl, hcs]; omega
  have hg1 : (w.drew.setRow g C1).heap[g]? = some (.cells C1 49 (0, 0)) := setRow_heap w.drew g cur C1 49 (0, 0) hg
  have hv1 : (w.drew.setRow g C1).heap[vb]? = some (.cells k.cells.toArray 49 (0, 0)) := (setRow_fr w.drew g C1).obj hv hvg
  obtain ⟨C2, hC2⟩ : ∃ C2, C2 = (C1.toList.take (i * 6) ++ k.cells ++ C1.toList.drop (i * 6 + k.cells.length)).toArray := ⟨_, rfl⟩
  have hcp2 : ∀ (W : World), W.heap = (w.drew.setRow g C1).heap → ∀ ty dc, (Builtin.copy_ #[46, 46] ty #[.slice (some ⟨g, i * 6, none⟩) (n + 1 - i) dc, .slice (some ⟨vb, 0, none⟩) 1 vc]).run Yba.prog W = .ok (goInt (Nat.min 1 (n + 1 - i))) (W.setRow g C2) := fun W hW ty dc => by
    rw [hC2]
    exact run_copy_rowK W 46 46 ty 49 6 g (i * 6) (n + 1 - i) dc ⟨vb, 0, none⟩ 1 vc C1 49 k.cells Yba.underlying46 Yba.info49' (by rw [hW]; exact hg1) (by simp only [Nat.min_def]; split <;> first | rfl | omega)
      (fun j v hj => by
        rw [addr_addT, Nat.zero_add, cellOf (w := W) (by rw [hW]; exact hv1) j]
        simpa using hj)
      (by rw [hs1]; simp [En.cells]; omega) (fun v hv => rows_one [k] v (by simpa [rows] using hv))
  have mixed : Yba.prog.follows Departure.mixedOrders = true := mixedY
  have HG := hid (And.intro hg (And.intro hv (And.intro hC1 (And.intro hC2 hg1))))
  clear hg hv hC1 hC2 hg1 hv1
  go_enter Yba.func14, Yba.ntmps14
  go_wp2_with (simp only [hov])
  go_region_law_o (refine step_copy_runI rfl _ _ 46 46 rfl _ _ (by simp [Act.eval, Act.put]) (by simp [Act.eval, Act.put]) (hcp1 _ _ _) ?_)
  go_wp2_with (at_builtin; refine wpList_copy_runI _ rfl _ _ 46 46 rfl _ _ rfl rfl (hcp2 _ rfl _ _) ?_)
  go_ret
  exact shift_end hn hi hroom hcap hb HG.out.1 hcs hrow hs1 HG.out.2.2.1 HG.out.2.2.2.1

end Go.Proofs.Ybulkabbe
