import Derived.Test.YbulkabbeTd
/- slices.Insert of one end: no room: a new row. And all cases together. -/
namespace Go.Proofs.Ybulkabbe
open Go.RowKit Go.Proofs Go.Shelf
set_option linter.unusedVariables false

theorem grow_row {ROW C1 : List Value} {E : List En} {k : En} {n i : Nat} (hn : E.length = n) (hi : i < n) (hsz : (n + 1) * 6 ≤ ROW.length) (hrow : ROW.take (i * 6) = rows (E.take i))
    (hC1 : C1 = ROW.take (i * 6) ++ k.cells ++ ROW.drop (i * 6 + k.cells.length)) :
    (C1.take ((i + 1) * 6) ++ rows (E.drop i) ++ C1.drop ((i + 1) * 6 + (rows (E.drop i)).length)).take ((n + 1) * 6) = rows (E.take i ++ k :: E.drop i) := by
  have h6 : k.cells.length = 6 := rfl
  have hdl : (rows (E.drop i)).length = (n - i) * 6 := by rw [rows_length, List.length_drop, hn]
  have hl0 : (rows (E.take i)).length = i * 6 := by rw [rows_length, List.length_take, hn, Nat.min_eq_left (by omega)]
  have e1 : C1.take ((i + 1) * 6) = rows (E.take i) ++ k.cells := by
    rw [hC1, hrow]
    rw [List.take_append_of_le_length (by rw [List.length_append, hl0, h6]; omega), List.take_of_length_le (by rw [List.length_append, hl0, h6]; omega)]
  rw [e1, rows_append, rows, ← List.append_assoc]
  have hl : (rows (E.take i) ++ k.cells ++ rows (E.drop i)).length = (n + 1) * 6 := by
    rw [List.length_append, List.length_append, hl0, h6, hdl]; omega
  rw [List.take_append_of_le_length (by omega), List.take_of_length_le (by omega)]

theorem grow_end {w w2 : World} {base n cap i g G : Nat} {C2 : Array Value} {E : List En} {k : En} (hn : E.length = n) (hi : i < n) (hG : n + 1 ≤ G) (hGm : G ≤ maxLen) (hb : base ≤ w.heap.size)
    (hg2 : w2.heap[w.heap.size]? = some (.cells C2 49 (0, 0))) (hs : C2.size = G * 6) (hrow : C2.toList.take ((n + 1) * 6) = rows (E.take i ++ k :: E.drop i)) (F : Fr (fun _ => False) w w2) :
    InsPost w base (.slice (some ⟨g, 0, none⟩) n cap) E i k (.returned (.slice (some ⟨w.heap.size, 0, none⟩) (n + 1) G)) w2 := by
  have hlen : (E.take i ++ k :: E.drop i).length = n + 1 := by simp [hn]; omega
  refine ⟨w.heap.size, G, by rw [hn], ?_, F.mono (fun _ _ h => h.elim)⟩
  show World.ownsRow _ base 49 6 _ _ _
  rw [hlen, hn]
  exact ⟨by rw [rows_length, hlen], .inr ⟨w.heap.size, G, C2, rfl, hb, hg2, hG, hGm, hs, hrow⟩⟩

set_option maxRecDepth 100000 in
set_option maxHeartbeats 1600000 in
theorem insert_grow (w : World) (base g n i vb vc : Nat) (cur : Array Value) (E : List En) (k : En) (hn : E.length = n) (hl : n ≤ 1024) (hi : i < n) (hb : base ≤ w.heap.size)
    (hg : w.heap[g]? = some (.cells cur 49 (0, 0))) (hrow : cur.toList.take (n * 6) = rows E) (hv : w.heap[vb]? = some (.cells k.cells.toArray 49 (0, 0))) :
    Calls Yba.prog 14 #[.slice (some ⟨g, 0, none⟩) n n, .int .i64 i, .slice (some ⟨vb, 0, none⟩) 1 vc] w fun e w' => InsPost w base (.slice (some ⟨g, 0, none⟩) n n) E i k e w' := by
  obtain ⟨i49, hi0, hz0, hzs, hzb⟩ := info_parts Yba.info49f
  have mixed : Yba.prog.follows Departure.mixedOrders = true := mixedY
  have hz2 : ¬ ((i : Int) = (n : Int)) := by omega
  have hdl : (rows (E.drop i)).length = (n - i) * 6 := by rw [rows_length, List.length_drop, hn]
  have hl0 : (rows (E.take i)).length = i * 6 := by rw [rows_length, List.length_take, hn, Nat.min_eq_left (by omega)]
  have h6 : k.cells.length = 6 := rfl
  have hcur : ∀ j v, (rows E)[j]? = some v → w.cell? ⟨g, j, none⟩ = some v := fun j v hj => by
    rw [cellOf hg j]
    rw [← hrow, List.getElem?_take] at hj
    split at hj
    · simpa using hj
    · cases hj
  have hkk : (n : Int) + 1 - (i : Int) = ((n + 1 - i : Nat) : Int) := by omega
  have hik : i + (n + 1 - i) = n + 1 := by omega
  have hold : (Builtin.firstCells i49.size i (.slice (some ⟨g, 0, none⟩) i n)).run Yba.prog w.drew = .ok (rows (E.take i)).toArray w.drew := by
    rw [hzs]
    exact run_firstCells_some w.drew 6 i ⟨g, 0, none⟩ i n (rows (E.take i)) hl0 (fun j v hj => by
      rw [addr_addT, Nat.zero_add]
      rw [← rows_take, List.getElem?_take] at hj
      split at hj
      · exact hcur j v hj
      · cases hj)
  obtain ⟨G, hG⟩ : ∃ G, G = grownCap w (n + 1) n 49 := ⟨_, rfl⟩
  obtain ⟨ROW, hROW⟩ : ∃ ROW : Array Value, ROW = (rows (E.take i)).toArray ++ Builtin.zeroCells #[.int .i64 0, .int .i64 0, .int .i64 0, .int .u8 0, .bool false, .int .i64 0] (n + 1 - i) ++ Builtin.zeroCells #[.int .i64 0, .int .i64 0, .int .i64 0, .int .u8 0, .bool false, .int .i64 0] (G - (n + 1)) := ⟨_, rfl⟩
  have hrz : ∀ ty, (Builtin.append_ #[46, 3] ty #[.slice (some ⟨g, 0, none⟩) i n, .int .i64 ((n : Int) + 1 - (i : Int))]).run Yba.prog w = .ok (.slice (some ⟨w.heap.size, 0, none⟩) (n + 1) G) (w.drew.alloc (.cells ROW 49)) := fun ty => by
    have h := Lib.run_append_grow_zeros w 46 3 ty 49 i49 _ .i64 .i64 Yba.underlying46 Yba.underlying3 hi0 hz0 (some ⟨g, 0, none⟩) i n (rows (E.take i)) hold (n + 1 - i) (by omega) (by rw [hzs]; omega) (by omega) (by omega) (by rw [hzb]; omega) (by rw [hzb, hik]; exact growslice_fits (by omega) (by omega))
    rw [hik] at h
    rw [hkk, h, hROW, hG]
    rfl
  have hGn : n + 1 ≤ G := by rw [hG]; exact grownCap_ge w _ _ _
  have hGm : G ≤ maxLen := by rw [hG]; exact grownCap_le_maxLen w (n + 1) n 49 (by unfold maxLen; omega)
  have hG63 : G ≤ 9223372036854775807 := by unfold maxLen at hGm; omega
  have hRs : ROW.size = G * 6 := by
    rw [hROW]; simp [Builtin.zeroCells, hl0]; omega
  have hRt : ROW.toList.take (i * 6) = rows (E.take i) := by
    rw [hROW, Array.toList_append, Array.toList_append, List.append_assoc, List.take_append_of_le_length (by simp [hl0]), List.take_of_length_le (by simp [hl0])]
  have hgl := obj_lt hg
  have hvl := obj_lt hv
  obtain ⟨C1, hC1⟩ : ∃ C1, C1 = (ROW.toList.take (i * 6) ++ k.cells ++ ROW.toList.drop (i * 6 + k.cells.length)).toArray := ⟨_, rfl⟩
  have hs1 : C1.size = G * 6 := by
    rw [hC1]
    simp only [List.size_toArray, List.length_append, List.length_take, List.length_drop, Array.length_toList, hRs, h6]
    omega
  have F1 : Fr (fun _ => False) w (w.drew.alloc (.cells ROW 49)) := (Fr.refl _ w).drew.alloc _
  have hN1 : (w.drew.alloc (.cells ROW 49)).heap[w.heap.size]? = some (.cells ROW 49 (0, 0)) := heap_alloc_new w.drew _
  have hcpA : ∀ (W : World), W.heap = (w.drew.alloc (.cells ROW 49)).heap → ∀ ty dc, (Builtin.copy_ #[46, 46] ty #[.slice (some ⟨w.heap.size, i * 6, none⟩) (n + 1 - i) dc, .slice (some ⟨vb, 0, none⟩) 1 vc]).run Yba.prog W = .ok (goInt (Nat.min 1 (n + 1 - i))) (W.setRow w.heap.size C1) := fun W hW ty dc => by
    rw [hC1]
    exact run_copy_rowK W 46 46 ty 49 6 w.heap.size (i * 6) (n + 1 - i) dc ⟨vb, 0, none⟩ 1 vc ROW 49 k.cells Yba.underlying46 Yba.info49' (by rw [hW]; exact hN1) (by simp only [Nat.min_def]; split <;> first | rfl | omega)
      (fun j v hj => by
        rw [addr_addT, Nat.zero_add, cellOf (w := W) (by rw [hW]; exact F1.obj hv (fun h => h)) j]
        simpa using hj)
      (by rw [hRs]; simp [En.cells]; omega) (fun v hv => rows_one [k] v (by simpa [rows] using hv))
  obtain ⟨C2, hC2⟩ : ∃ C2, C2 = (C1.toList.take ((i + 1) * 6) ++ rows (E.drop i) ++ C1.toList.drop ((i + 1) * 6 + (rows (E.drop i)).length)).toArray := ⟨_, rfl⟩
  have hs2 : C2.size = G * 6 := by
    rw [hC2]
    simp only [List.size_toArray, List.length_append, List.length_take, List.length_drop, Array.length_toList, hs1, hdl]
    omega
  have hN2 : ((w.drew.alloc (.cells ROW 49)).setRow w.heap.size C1).heap[w.heap.size]? = some (.cells C1 49 (0, 0)) := setRow_heap _ _ _ _ _ _ hN1
  have hcpB : ∀ (W : World), W.heap = ((w.drew.alloc (.cells ROW 49)).setRow w.heap.size C1).heap → ∀ ty dc sc, (Builtin.copy_ #[46, 46] ty #[.slice (some ⟨w.heap.size, (i + 1) * 6, none⟩) (n - i) dc, .slice (some ⟨g, i * 6, none⟩) (n - i) sc]).run Yba.prog W = .ok (goInt (Nat.min (n - i) (n - i))) (W.setRow w.heap.size C2) := fun W hW ty dc sc => by
    rw [hC2]
    exact run_copy_rowK W 46 46 ty 49 6 w.heap.size ((i + 1) * 6) (n - i) dc ⟨g, i * 6, none⟩ (n - i) sc C1 49 (rows (E.drop i)) Yba.underlying46 Yba.info49' (by rw [hW]; exact hN2) (by rw [hdl]; simp only [Nat.min_def]; split <;> omega)
      (fun j v hj => by
        have hgW : W.heap[g]? = some (.cells cur 49 (0, 0)) := by rw [hW]; exact (setRow_fr _ _ _).obj (F1.obj hg (fun h => h)) (by omega)
        rw [addr_addT, cellOf hgW, ← cellOf hg]
        exact hcur _ v (by rwa [← rows_drop, List.getElem?_drop] at hj))
      (by rw [hs1, hdl]; omega) (rows_one _)
  have hend := grow_row (ROW := ROW.toList) (C1 := C1.toList) hn hi (by rw [Array.length_toList, hRs]; omega) hRt (by rw [hC1])
  have HEnd := hid (And.intro hend (And.intro hC2 (And.intro hN2 F1)))
  have hw1 : IntKind.i64.wrap ((i : Int) + 1) = (i : Int) + 1 := by rw [IntKind.wrap_i64]; omega
  have hb1 : (0 : Int) ≤ (i : Int) + 1 := by omega
  have hin : i ≤ n := by omega
  have htn : ((i : Int) + 1).toNat = i + 1 := by omega
  have hb3 : (i : Int) ≤ (n : Int) := by omega
  have hGi : ¬ (G = i) := by omega
  have hGim : ¬ (G = i + 1) := by omega
  have hci : ¬ (n = i) := by omega
  have hE1 : ((w.alloc (.cells ROW 49)).drew).heap = (w.drew.alloc (.cells ROW 49)).heap := rfl
  have hE2 : (((w.alloc (.cells ROW 49)).drew.setRow w.heap.size C1).drew).heap = ((w.drew.alloc (.cells ROW 49)).setRow w.heap.size C1).heap := rfl
  clear hkk hik hold hROW hG hRs hRt hcur hg hv hrow hC1 hC2 hN1 hN2 hend hdl hl0 hs1
  go_enter Yba.func14, Yba.ntmps14
  go_wp2_with (first
    | (at_builtin; refine Lib.wpList_append_run _ rfl _ _ _ _ rfl _ _ rfl rfl _ _ (hrz _) ?_)
    | (at_builtin; refine wpList_copy_runI _ rfl _ _ 46 46 rfl _ _ rfl rfl (hcpA _ hE1 _ _) ?_))
  go_region_law_o (refine step_copy_runI rfl _ _ 46 46 rfl (.slice (some ⟨w.heap.size, (i + 1) * 6, none⟩) (n - i) (G - (i + 1))) (.slice (some ⟨g, i * 6, none⟩) (n - i) (n - i)) (by simp [Act.eval, Act.put]) (by simp [Act.eval, Act.put]) (hcpB _ hE2 3 (G - (i + 1)) (n - i)) ?_)
  go_wp2
  go_ret
  have FF : Fr (fun _ => False) w (((w.alloc (.cells ROW 49)).drew.setRow w.heap.size C1).drew.setRow w.heap.size C2) :=
    ((((Fr.refl (fun _ => False) w).alloc (.cells ROW 49)).drew.trans' (setRow_fr _ w.heap.size C1) (fun b hb e => by omega)).drew).trans' (setRow_fr _ w.heap.size C2) (fun b hb e => by omega)
  exact grow_end hn hi hGn hGm hb (setRow_heap _ _ C1 C2 49 (0, 0) HEnd.out.2.2.1) hs2 (by rw [HEnd.out.2.1]; exact HEnd.out.1) FF

/-- slices.Insert of one end, all in all. -/
theorem insert_any (w : World) (base : Nat) (sa : Option Addr) (n cap i vb vc : Nat) (E : List En) (k : En) (hn : E.length = n) (hl : n ≤ 1024) (hi : i ≤ n) (hb : base ≤ w.heap.size) (hO : Own w base (.slice sa n cap) E)
    (hv : w.heap[vb]? = some (.cells k.cells.toArray 49 (0, 0))) (hvg : sa ≠ some ⟨vb, 0, none⟩) :
    Calls Yba.prog 14 #[.slice sa n cap, .int .i64 i, .slice (some ⟨vb, 0, none⟩) 1 vc] w fun e w' => InsPost w base (.slice sa n cap) E i k e w' := by
  by_cases hin : i = n
  · subst hin
    exact insert_end w base sa i cap vb vc E k hn hl hb hO hv
  · rcases hO.form with ⟨h, h0⟩ | ⟨g, c, cur, h, h1, h2, h3, h4, h5, h6⟩
    · simp only [Value.slice.injEq] at h; omega
    · simp only [Value.slice.injEq] at h
      obtain ⟨rfl, _, rfl⟩ := h
      rw [hn] at h3 h6
      by_cases hroom : n + 1 ≤ cap
      · exact insert_shift w base g n cap i vb vc cur E k hn (by omega) hroom h4 h1 h2 h5 h6 hv (fun e => hvg (by rw [e]))
      · obtain rfl : cap = n := by omega
        exact insert_grow w base g cap i vb vc cur E k hn hl (by omega) hb h2 h6 hv

end Go.Proofs.Ybulkabbe
