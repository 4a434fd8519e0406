import Derived.Test.YbulkabbeTjb
import Derived.Deep.CutBlock
/- keepEnd of a long context: the walk. -/
namespace Go.Proofs.Ybulkabbe
open Go.RowKit Go.Proofs Go.Shelf
set_option linter.unusedVariables false
set_option linter.unusedSimpArgs false

set_option maxRecDepth 100000 in
set_option maxHeartbeats 2000000 in
theorem keep_long (w : World) (base SB LB : Nat) (sa : Option Addr) (n cap : Nat) (c : Array Value) (looks pos a ctx : Int) (E : List En) (hX : Sx w SB LB (.slice sa n cap) c looks pos) (hn : E.length = n) (hl : n ≤ 1024) (hO : Own w base (.slice sa n cap) E) (hbase : base ≤ w.heap.size)
    (hS : Sorted E) (hT : Top E) (hlt : 256 ≤ pos - a) (ha : 0 ≤ a) (hp : pos ≤ 300000) :
    Calls Yba.prog 6 #[.pointer (some ⟨SB, 0, none⟩), fAgg ctx a] w fun e w' => LongPost w base SB c sa cap E a pos (keptOf ctx a pos) (fun i => ∃ i0, Cut E a i0 ∧ i ≤ i0) e w' := by
  have hSB : SB < w.heap.size := obj_lt hX.hS
  have hLB : LB < w.heap.size := by obtain ⟨d, h, _⟩ := hX.hL; exact obj_lt h
  have Hgne := hid (own_apart hX hO)
  unfold fAgg
  go_enter Yba.func6, Yba.ntmps6
  go_wp2
  obtain ⟨F, k0, b0, f0, f1, f3⟩ := boxes w SB ctx a
  have hX2 := hX.fr F (fun h => h) (fun h => h)
  obtain ⟨r0, r4, r10, r18, rp⟩ := hX2.at_
  have HX := hid (And.intro F hX2)
  clear hX F hX2
  generalize (w.alloc (.cells #[.pointer (some ⟨SB, 0, none⟩)] 23)).alloc (.cells #[.int .u8 ctx, .int .i64 a, .int .i64 0, .int .i64 0, .bool false, .bool false, .bool false, .bool false] 59) = w2 at HX k0 b0 f0 f1 f3 r0 r4 r10 r18 rp ⊢
  go_cut [4] (fun s4 wc => s4 = .pointer (some ⟨w.heap.size + 2, 0, none⟩) ∧ (w2.alloc (.cells #[.int .i64 a, .int .i64 pos, .int .i64 (-1), .int .u8 ctx, .bool false, .int .i64 0] 49)).drew = wc)
  case first =>
    go_region_held3 (fun w' => w'.cell? ⟨SB, 0, none⟩ = some (.pointer (some ⟨LB, 0, none⟩)) ∧ w'.cell? ⟨SB, 4, none⟩ = some (.slice none 0 0) ∧ w'.cell? ⟨LB, 1, none⟩ = some (.int .i64 pos) ∧ w'.cell? ⟨w.heap.size, 0, none⟩ = some (.pointer (some ⟨SB, 0, none⟩)) ∧ w'.cell? ⟨w.heap.size + 1, 0, none⟩ = some (.int .u8 ctx) ∧ w'.cell? ⟨w.heap.size + 1, 1, none⟩ = some (.int .i64 a) ∧ w'.cell? ⟨w.heap.size + 1, 3, none⟩ = some (.int .i64 0)) (go_keep)
      (first | (go_at_call 11; refine (keep_nil _ SB ?_).mono ?_; (simp [*]); rintro e w' ⟨rfl, rfl⟩))
    all_goals
      go_wp2
      go_meet
      case rel => exact ⟨rfl, rfl⟩
  case rest =>
    obtain ⟨h4, hw⟩ := hcut
    subst h4
    obtain ⟨F3, hX3, b0', f0', f1', f3', kc⟩ := kept_box k0 HX.out.1 HX.out.2 b0 f0 f1 f3 hw
    obtain ⟨r0', r4', r10', r18', rp'⟩ := hX3.at_
    have hlt' : ¬ pos - a < 256 := by omega
    have hw1 : IntKind.i64.wrap (pos - a) = pos - a := by rw [IntKind.wrap_i64]; omega
    have hO3 : Own wc base (.slice sa n cap) E := owns_fr hO F3 (fun _ _ h => h)
    have HX3 := hid (And.intro F3 (And.intro hX3 (And.intro hO3 (And.intro hn (And.intro hS hT)))))
    clear HX hX3 F3 hO hO3 hn hS hT r0 r4 r10 r18 rp b0 f0 f1 f3 k0 hw
    obtain ⟨k0', k1', k2', k3', k4', k5'⟩ := kc
    go_wp2
    go_quiet (fail)
    go_wp2_with fail
    refine (search_all (wc.drewN nq) base SB w.heap.size (w.heap.size + 1) n cap sa a E HX3.out.2.2.2.1.symm hl HX3.out.2.2.2.2.1 b0' f1' r10' (HX3.out.2.2.1.drewN nq)).mono ?_
    rintro e w5 ⟨i0, q, rfl, hcut0, hw5⟩
    have F5 : Fr (fun _ => False) wc w5 := by rw [hw5]; exact ⟨rfl, rfl, rfl, Nat.le_refl _, fun _ _ _ => rfl⟩
    clear hw5
    obtain ⟨s0, s10, sp, sb0, sf1, sk⟩ := carry F5 r0' r10' rp' b0' f1' ⟨k0', k1', k2', k3', k4', k5'⟩
    have hi0 : i0 ≤ n := by have := hcut0.le; have := HX3.out.2.2.2.1; omega
    have HC := hid (And.intro F5 (And.intro hcut0 sk))
    clear hcut0 sk F5 r0' r4' r10' r18' rp' b0' f0' f1' f3' k0' k1' k2' k3' k4' k5' hw1 hlt'
    go_upto_if 60 with (fail)
    go_cut [5] (fun s5 wd => ∃ i : Nat, s5 = .int .i64 (i : Int) ∧ i ≤ i0 ∧ Fr (fun _ => False) w5 wd)
    case first =>
      by_cases hi : 0 < i0
      · obtain ⟨g, rfl⟩ : ∃ g, sa = some ⟨g, 0, none⟩ := by
          obtain ⟨sa', c', h, _, _, h'⟩ := HX3.out.2.2.1.shape
          simp only [Value.slice.injEq] at h
          rw [h.1]; exact h' (by omega)
        have hlE : i0 - 1 < E.length := by have := HX3.out.2.2.2.1; omega
        have hO5 : Own w5 base (.slice (some ⟨g, 0, none⟩) n cap) E := owns_fr HX3.out.2.2.1 HC.out.1 (fun _ _ h => h)
        obtain ⟨c0, c1, c2, c3, c4, c5⟩ := hO5.six (List.getElem?_eq_getElem hlE)
        generalize E[i0 - 1] = e at c0 c1 c2 c3 c4 c5
        have HO5 := hid hO5
        clear hO5
        have hi' : (0 : Int) < (i0 : Int) := by omega
        have hi1 : (i0 : Int) - 1 = ((i0 - 1 : Nat) : Int) := by omega
        have hi2 : ((i0 - 1 : Nat) : Int) < (n : Int) := by omega
        have sf1a : ∀ o, (w5.alloc o).cell? ⟨w.heap.size + 1, 1, none⟩ = some (.int .i64 a) := fun o => Lib.cell?_alloc_some o sf1
        by_cases hov : a < e.pos
        · clear hi1
          go_wp2
          go_loopg [5] i0 (fun m s5 wr => ∃ j : Nat, j < i0 ∧ m = j + 1 ∧ s5 = .int .i64 (j : Int) ∧ Fr (fun _ => False) w5 wr)
          case atStart => exact ⟨i0 - 1, by omega, by omega, by go_num, (Fr.refl _ w5).alloc _⟩
          case round =>
            obtain ⟨j, hj, hm, rfl, hFr⟩ := hrel
            have hjE : j < E.length := by have := HX3.out.2.2.2.1; omega
            obtain ⟨t0, t10, _, tb0, _, _⟩ := carry hFr s0 s10 sp sb0 sf1 HC.out.2.2
            have hOr : Own wr base (.slice (some ⟨g, 0, none⟩) n cap) E := owns_fr HO5.out hFr (fun _ _ h => h)
            have d4 := (hOr.six (List.getElem?_eq_getElem hjE)).2.2.2.2.1
            clear hOr
            have hj1 : (j : Int) < (n : Int) := by omega
            have HFr := hid hFr
            clear hFr
            cases hin : E[j].inner with
            | true =>
              rw [hin] at d4
              have hj0 : 0 < j := by
                rcases Nat.eq_zero_or_pos j with h | h
                · subst h
                  rw [HX3.out.2.2.2.2.2 _ (List.getElem?_eq_getElem hjE)] at hin
                  cases hin
                · exact h
              clear hin
              go_wp2
              go_roundg j
              case measure => omega
              case rel => exact ⟨j - 1, by omega, by omega, by go_num, HFr.out⟩
            | false =>
              rw [hin] at d4
              clear hin
              go_wp2
              go_meet
              case rel => exact ⟨j, rfl, by omega, HFr.out⟩
        · cases hinn : e.inner with
          | false =>
            rw [hinn] at c4
            go_wp2
            go_meet
            case rel => exact ⟨i0, rfl, by omega, (Fr.refl _ w5).alloc _⟩
          | true =>
            rw [hinn] at c4
            by_cases hou : a < e.outer
            · clear hi1
              go_wp2
              go_loopg [5] i0 (fun m s5 wr => ∃ j : Nat, j < i0 ∧ m = j + 1 ∧ s5 = .int .i64 (j : Int) ∧ Fr (fun _ => False) w5 wr)
              case atStart => exact ⟨i0 - 1, by omega, by omega, by go_num, (Fr.refl _ w5).alloc _⟩
              case round =>
                obtain ⟨j, hj, hm, rfl, hFr⟩ := hrel
                have hjE : j < E.length := by have := HX3.out.2.2.2.1; omega
                obtain ⟨t0, t10, _, tb0, _, _⟩ := carry hFr s0 s10 sp sb0 sf1 HC.out.2.2
                have hOr : Own wr base (.slice (some ⟨g, 0, none⟩) n cap) E := owns_fr HO5.out hFr (fun _ _ h => h)
                have d4 := (hOr.six (List.getElem?_eq_getElem hjE)).2.2.2.2.1
                clear hOr
                have hj1 : (j : Int) < (n : Int) := by omega
                have HFr := hid hFr
                clear hFr
                cases hin : E[j].inner with
                | true =>
                  rw [hin] at d4
                  have hj0 : 0 < j := by
                    rcases Nat.eq_zero_or_pos j with h | h
                    · subst h
                      rw [HX3.out.2.2.2.2.2 _ (List.getElem?_eq_getElem hjE)] at hin
                      cases hin
                    · exact h
                  clear hin
                  go_wp2
                  go_roundg j
                  case measure => omega
                  case rel => exact ⟨j - 1, by omega, by omega, by go_num, HFr.out⟩
                | false =>
                  rw [hin] at d4
                  clear hin
                  go_wp2
                  go_meet
                  case rel => exact ⟨j, rfl, by omega, HFr.out⟩
            · go_wp2
              go_meet
              case rel => exact ⟨i0, rfl, by omega, (Fr.refl _ w5).alloc _⟩
      · obtain rfl : i0 = 0 := by omega
        go_wp2
        go_meet
        case rel => exact ⟨0, rfl, by omega, Fr.refl _ _⟩
    case rest =>
      rename World => wd
      obtain ⟨i, rfl, hii, hFd⟩ := hcut
      obtain ⟨t0, t10, tp, tb0, tf1, tk⟩ := carry hFd s0 s10 sp sb0 sf1 HC.out.2.2
      have hOd : Own wd base (.slice sa n cap) E := owns_fr (owns_fr HX3.out.2.2.1 HC.out.1 (fun _ _ h => h)) hFd (fun _ _ h => h)
      have HD := hid (And.intro hOd (And.intro hFd tk))
      have hnn : (HX3.out.2.2.2.1).symm = (HX3.out.2.2.2.1).symm := rfl
      clear hnn hOd hFd tk s0 s10 sp sb0 sf1
      have hin : i ≤ n := by omega
      rcases sa with _ | ga
      · have hnil : n = 0 ∧ cap = 0 ∧ E = [] := by
          rcases HD.out.1.form with ⟨h, h0⟩ | ⟨g, c', cur, h, _⟩
          · simp only [Value.slice.injEq] at h; exact ⟨h.2.1, h.2.2, h0⟩
          · simp at h
        obtain ⟨rfl, rfl, rfl⟩ := hnil
        obtain rfl : i = 0 := by omega
        have hSd : wd.heap[SB]? = some (.cells c 54 (0, 0)) := HD.out.2.1.obj (HC.out.1.obj HX3.out.2.1.hS (fun h => h)) (fun h => h)
        have hFw : Fr (fun _ => False) w wd := (HX3.out.1.trans HC.out.1).trans HD.out.2.1
        obtain ⟨vk0, vk1, vk2, vk3, vk4, vk5⟩ := HD.out.2.2
        have Hcall := hid (nil_call (w := w) (ctx := ctx) HD.out.1 (by have := hFw.size; omega) hSd t10 tb0 vk0 vk1 vk2 vk3 vk4 vk5)
        have HE := hid (And.intro hFw hSd)
        have hn1 : w.heap.size ≠ SB := by omega
        have hn2 : w.heap.size + 2 ≠ SB := by omega
        have hn3 : SB ≠ w.heap.size := by omega
        have hn4 : SB ≠ w.heap.size + 2 := by omega
        have v10a : ∀ o, (wd.alloc o).cell? ⟨SB, 10, none⟩ = some (.slice none 0 0) := fun o => Lib.cell?_alloc_some o t10
        clear hFw hSd t0 tp tf1
        go_wp2
        refine wp_loop_rounds 1 ?_
        rw [rounds_succ]
        go_upto_region 20 with (fail)
        refine wp_region_held_drew (S := (fun w' => w'.cell? ⟨w.heap.size, 0, none⟩ = some (.pointer (some ⟨SB, 0, none⟩)) ∧ w'.cell? ⟨w.heap.size + 2, 0, none⟩ = some (.int .i64 a) ∧ w'.cell? ⟨w.heap.size + 2, 1, none⟩ = some (.int .i64 pos) ∧ w'.cell? ⟨w.heap.size + 2, 2, none⟩ = some (.int .i64 (-1)) ∧ w'.cell? ⟨w.heap.size + 2, 3, none⟩ = some (.int .u8 ctx) ∧ w'.cell? ⟨w.heap.size + 2, 4, none⟩ = some (.bool false) ∧ w'.cell? ⟨w.heap.size + 2, 5, none⟩ = some (.int .i64 0))) (by kernel_rfl) ?_ (fun hHeld => ?_)
        · go_keep
        refine wpAnyH_take (i := 0) (v := ?_) rfl (by kernel_rfl) (by kernel_rfl) (by kernel_rfl) (fun _ _ _ h => h) (Or.inl ⟨by rfl, ?_⟩) (by assumption) ?_
        case refine_2 => (intro w0 hSw); (try dsimp only at hSw); go_simp; (try with_reducible rfl)
        try simp only [Act.put, List.setIfInBounds_toArray, List.set_cons_zero, List.set_cons_succ]
        refine wpAnyH_take (i := 1) (v := ?_) rfl (by kernel_rfl) (by kernel_rfl) (by kernel_rfl) (fun _ _ _ h => h) (Or.inl ⟨by rfl, ?_⟩) (by assumption) ?_
        case refine_2 => (intro w0 hSw); (try dsimp only at hSw); go_simp; (try with_reducible rfl)
        try simp only [Act.put, List.setIfInBounds_toArray, List.set_cons_zero, List.set_cons_succ]
        refine wpAnyH_take (i := 2) (v := ?_) rfl (by kernel_rfl) (by kernel_rfl) (by kernel_rfl) (fun _ _ _ h => h) (Or.inl ⟨by rfl, ?_⟩) (by assumption) ?_
        case refine_2 => (intro w0 hSw); (try dsimp only at hSw); go_simp; (try with_reducible rfl)
        try simp only [Act.put, List.setIfInBounds_toArray, List.set_cons_zero, List.set_cons_succ]
        refine wpAnyH_take (i := 3) (v := ?_) rfl (by kernel_rfl) (by kernel_rfl) (by kernel_rfl) (fun _ _ _ h => h) (Or.inl ⟨by rfl, ?_⟩) (by assumption) ?_
        case refine_2 => (intro w0 hSw); (try dsimp only at hSw); go_simp; (try with_reducible rfl)
        try simp only [Act.put, List.setIfInBounds_toArray, List.set_cons_zero, List.set_cons_succ]
        refine wpAnyH_take (i := 5) (v := ?_) rfl (by kernel_rfl) (by kernel_rfl) (by kernel_rfl) (fun _ _ _ h => h) (Or.inl ⟨by rfl, ?_⟩) (by assumption) ?_
        case refine_2 => (intro w0 hSw); (try dsimp only at hSw); go_simp; (try with_reducible rfl)
        try simp only [Act.put, List.setIfInBounds_toArray, List.set_cons_zero, List.set_cons_succ]
        refine wpAnyH_take (i := 7) (v := ?_) rfl (by kernel_rfl) (by kernel_rfl) (by kernel_rfl) (fun _ _ _ h => h) (Or.inl ⟨by rfl, ?_⟩) (by assumption) ?_
        case refine_2 => (intro w0 hSw); (try dsimp only at hSw); go_simp; (try with_reducible rfl)
        try simp only [Act.put, List.setIfInBounds_toArray, List.set_cons_zero, List.set_cons_succ]
        refine wpAnyH_take (i := 8) (v := ?_) rfl (by kernel_rfl) (by kernel_rfl) (by kernel_rfl) (fun _ _ _ h => h) (Or.inl ⟨by rfl, ?_⟩) (by assumption) ?_
        case refine_2 => (intro w0 hSw); (try dsimp only at hSw); go_simp; (try with_reducible rfl)
        try simp only [Act.put, List.setIfInBounds_toArray, List.set_cons_zero, List.set_cons_succ]
        refine wpAnyH_ready (rs := [4, 9]) (by kernel_rfl) (by simp) ?_
        refine AllReadyH.cons rfl (fun K hK => ?_) ?_
        · skip
          go_simp
          refine hK.out _ _ ?_ (fun hHeld => ?_)
          · go_keep
          clear hK K
          try simp only [Act.put, List.setIfInBounds_toArray, List.set_cons_zero, List.set_cons_succ]
          refine wpAnyH_take (i := 6) (v := ?_) rfl (by kernel_rfl) (by kernel_rfl) (by kernel_rfl) (fun _ _ _ h => h) (Or.inl ⟨by rfl, ?_⟩) (by assumption) ?_
          case refine_2 => (intro w0 hSw); (try dsimp only at hSw); go_simp; (try with_reducible rfl)
          try simp only [Act.put, List.setIfInBounds_toArray, List.set_cons_zero, List.set_cons_succ]
          refine wpAnyH_ready (rs := [9]) (by kernel_rfl) (by simp) ?_
          refine AllReadyH.cons rfl (fun K hK => ?_) AllReadyH.nil
          go_simp
          refine hK.out _ _ ?_ (fun hHeld => ?_)
          · go_keep
          clear hK K
          try simp only [Act.put, List.setIfInBounds_toArray, List.set_cons_zero, List.set_cons_succ]
          refine wpAnyH_ready (rs := [10]) (by kernel_rfl) (by simp) ?_
          refine AllReadyH.cons rfl (fun K hK => ?_) AllReadyH.nil
          go_simp; go_at_call 14; refine Hcall.out.mono ?_; rintro e7 w7 ⟨g', cap', rfl, hO7, hF7, y0, y1, y2, y3, y4, y5, y6, y7, y8⟩
          refine hK.out _ _ ?_ (fun hHeld => ?_)
          · exact ⟨y0, y3, y4, y5, y6, y7, y8⟩
          clear hK K
          try simp only [Act.put, List.setIfInBounds_toArray, List.set_cons_zero, List.set_cons_succ]
          have HO7 := hid (And.intro hO7 hF7)
          clear hO7 hF7
          refine wpAnyH_take (i := 11) (v := ?_) rfl (by kernel_rfl) (by kernel_rfl) (by kernel_rfl) (fun _ _ _ h => h) (Or.inl ⟨by rfl, ?_⟩) (by assumption) ?_
          case refine_2 => (intro w0 hSw); (try dsimp only at hSw); go_simp; (try with_reducible rfl)
          try simp only [Act.put, List.setIfInBounds_toArray, List.set_cons_zero, List.set_cons_succ]
          refine wpAnyH_take (i := 12) (v := ?_) rfl (by kernel_rfl) (by kernel_rfl) (by kernel_rfl) (fun _ _ _ h => h) (Or.inl ⟨by rfl, ?_⟩) (by assumption) ?_
          case refine_2 => (intro w0 hSw); (try dsimp only at hSw); go_simp; (try with_reducible rfl)
          try simp only [Act.put, List.setIfInBounds_toArray, List.set_cons_zero, List.set_cons_succ]
          refine wpAnyH_ready (rs := [13]) (by kernel_rfl) (by simp) ?_
          refine AllReadyH.cons rfl (fun K hK => ?_) AllReadyH.nil
          go_simp
          refine hK.out _ _ ?_ (fun hHeld => ?_)
          · go_keep
          clear hK K
          try simp only [Act.put, List.setIfInBounds_toArray, List.set_cons_zero, List.set_cons_succ]
          refine wpAnyH_done (by kernel_rfl) ?_ _
          go_wp2
          first | go_end0 | refine bodyPost_ret (results_none rfl _ _ _) rfl ?_
          exact nil_end ⟨_, HC.out.2.1, hii⟩ HE.out.1 HE.out.2 HO7.out.1 HO7.out.2
        refine AllReadyH.cons rfl (fun K hK => ?_) ?_
        · skip
          go_simp
          refine hK.out _ _ ?_ (fun hHeld => ?_)
          · go_keep
          clear hK K
          try simp only [Act.put, List.setIfInBounds_toArray, List.set_cons_zero, List.set_cons_succ]
          refine wpAnyH_ready (rs := [4]) (by kernel_rfl) (by simp) ?_
          refine AllReadyH.cons rfl (fun K hK => ?_) AllReadyH.nil
          go_simp
          refine hK.out _ _ ?_ (fun hHeld => ?_)
          · go_keep
          clear hK K
          try simp only [Act.put, List.setIfInBounds_toArray, List.set_cons_zero, List.set_cons_succ]
          refine wpAnyH_take (i := 6) (v := ?_) rfl (by kernel_rfl) (by kernel_rfl) (by kernel_rfl) (fun _ _ _ h => h) (Or.inl ⟨by rfl, ?_⟩) (by assumption) ?_
          case refine_2 => (intro w0 hSw); (try dsimp only at hSw); go_simp; (try with_reducible rfl)
          try simp only [Act.put, List.setIfInBounds_toArray, List.set_cons_zero, List.set_cons_succ]
          refine wpAnyH_ready (rs := [10]) (by kernel_rfl) (by simp) ?_
          refine AllReadyH.cons rfl (fun K hK => ?_) AllReadyH.nil
          go_simp; go_at_call 14; refine Hcall.out.mono ?_; rintro e7 w7 ⟨g', cap', rfl, hO7, hF7, y0, y1, y2, y3, y4, y5, y6, y7, y8⟩
          refine hK.out _ _ ?_ (fun hHeld => ?_)
          · exact ⟨y0, y3, y4, y5, y6, y7, y8⟩
          clear hK K
          try simp only [Act.put, List.setIfInBounds_toArray, List.set_cons_zero, List.set_cons_succ]
          have HO7 := hid (And.intro hO7 hF7)
          clear hO7 hF7
          refine wpAnyH_take (i := 11) (v := ?_) rfl (by kernel_rfl) (by kernel_rfl) (by kernel_rfl) (fun _ _ _ h => h) (Or.inl ⟨by rfl, ?_⟩) (by assumption) ?_
          case refine_2 => (intro w0 hSw); (try dsimp only at hSw); go_simp; (try with_reducible rfl)
          try simp only [Act.put, List.setIfInBounds_toArray, List.set_cons_zero, List.set_cons_succ]
          refine wpAnyH_take (i := 12) (v := ?_) rfl (by kernel_rfl) (by kernel_rfl) (by kernel_rfl) (fun _ _ _ h => h) (Or.inl ⟨by rfl, ?_⟩) (by assumption) ?_
          case refine_2 => (intro w0 hSw); (try dsimp only at hSw); go_simp; (try with_reducible rfl)
          try simp only [Act.put, List.setIfInBounds_toArray, List.set_cons_zero, List.set_cons_succ]
          refine wpAnyH_ready (rs := [13]) (by kernel_rfl) (by simp) ?_
          refine AllReadyH.cons rfl (fun K hK => ?_) AllReadyH.nil
          go_simp
          refine hK.out _ _ ?_ (fun hHeld => ?_)
          · go_keep
          clear hK K
          try simp only [Act.put, List.setIfInBounds_toArray, List.set_cons_zero, List.set_cons_succ]
          refine wpAnyH_done (by kernel_rfl) ?_ _
          go_wp2
          first | go_end0 | refine bodyPost_ret (results_none rfl _ _ _) rfl ?_
          exact nil_end ⟨_, HC.out.2.1, hii⟩ HE.out.1 HE.out.2 HO7.out.1 HO7.out.2
        exact AllReadyH.nil
      · obtain ⟨g, rfl⟩ : ∃ g, ga = ⟨g, 0, none⟩ := by
          rcases HD.out.1.form with ⟨h, _⟩ | ⟨g, c', cur, h, _⟩
          · cases h
          · simp only [Value.slice.injEq, Option.some.injEq] at h
            exact ⟨g, h.1⟩
        have hcap : n ≤ cap ∧ cap ≤ 9223372036854775807 := by
          rcases HD.out.1.form with ⟨h, _⟩ | ⟨g, c', cur, h, _, _, h3, h4, _⟩
          · cases h
          · simp only [Value.slice.injEq] at h; unfold maxLen at h4; omega
        go_upto_region 12 with (fail)
        go_cut [103, 104, 105] (fun s103 s104 s105 w' => (i < n → s103 = .slice (some ⟨g, i * 6, none⟩) (n - i) (cap - i)) ∧ s104 = .int .i64 ((n - i : Nat) : Int) ∧ s105 = .int .i64 0 ∧ w' = wd)
        case first =>
          by_cases hci : cap = i
          · go_wp2
            go_meet
            case rel => exact ⟨fun h => by omega, rfl, rfl, rfl⟩
          · go_wp2
            go_meet
            case rel => exact ⟨fun _ => rfl, rfl, rfl, rfl⟩
        obtain ⟨h103, rfl, rfl, hwz⟩ := hcut
        have hwz' := hwz.symm
        clear hwz
        subst hwz'
        have H103 := hid h103
        clear h103
        go_upto_block 2 with (fail)
        go_cut [7] (fun s7 wr => ∃ (nn : Nat) (E' : List En), s7 = .int .i64 (nn : Int) ∧ Flt wd wr base g n cap i (n - i) nn a pos E E')
        case first =>
          have hcast : ((n - i : Nat) : Int) = ((n - i : Nat) : Int) := rfl
          clear hcast
          go_wp2
          go_loopg [7, 105] (n - i) (fun m s7 s105 wr => ∃ (t nn : Nat) (E' : List En), t ≤ n - i ∧ m = n - i - t ∧ s105 = .int .i64 (t : Int) ∧ s7 = .int .i64 (nn : Int) ∧ Flt wd wr base g n cap i t nn a pos E E')
          case atStart => exact ⟨0, i, E, by omega, by omega, rfl, rfl, flt_start HD.out.1 HX3.out.2.2.2.1 hin⟩
          case round =>
            obtain ⟨t, nn, E', ht, hm, rfl, rfl, hfl⟩ := hrel
            have HF := hid hfl
            by_cases htn : t < n - i
            · obtain rfl := H103.out (by omega)
              obtain ⟨e, he, hcs⟩ := hfl.elem htn
              obtain ⟨c0, c1, c2, c3, c4, c5⟩ := hcs
              have htn' : (t : Int) < ((n - i : Nat) : Int) := by omega
              have hgn := Hgne.out g rfl
              have hwd := World.block_lt_of_cell? _ _ tb0
              obtain ⟨v0, v10, vp, vb0, vf1, vE⟩ := in_loop (e := e) hfl hgn t0 t10 tp tb0 tf1
              clear hfl
              go_upto_region 15 with (fail)
              obtain ⟨ec0, ec1, ec2, ec3, ec4, ec5, hFe⟩ := vE
              have HFe := hid hFe
              clear hFe
              generalize wr.alloc (.cells #[.int .i64 e.at_, .int .i64 e.pos, .int .i64 e.hd, .int .u8 e.ctx, .bool e.inner, .int .i64 e.outer] 49) = we at v0 v10 vp vb0 vf1 ec0 ec1 ec2 ec3 ec4 ec5 HFe ⊢
              cases hinn : e.inner with
              | true =>
                rw [hinn] at ec4
                have hgo : goes a pos e = false := by simp [goes, hinn]
                go_quiet (fail)
                go_wp2
                have hfin := hid (flt_no HF.out he hgo (HFe.out.2.trans (c := we.drewN nq) ⟨rfl, rfl, rfl, Nat.le_refl _, fun _ _ _ => rfl⟩))
                go_roundg (n - i - (t + 1))
                case measure => omega
                case rel => exact ⟨t + 1, nn, _, by omega, rfl, by go_num, rfl, hfin.out⟩
              | false =>
                rw [hinn] at ec4
                by_cases hat : a ≤ e.at_
                · by_cases hps : e.pos ≤ pos
                  · have hgo : goes a pos e = true := by simp [goes, hinn, hat, hps]
                    have ef4 := freeOf HFe.out.1 4
                    have ef5 := freeOf HFe.out.1 5
                    go_quiet (fail)
                    go_wp2
                    go_big_region
                    have hnl : nn < n := by have := HF.out.le; omega
                    obtain ⟨y10, yb0, e0, e1, e2, e3, e4, e5, ⟨x0, q0⟩, ⟨x1, q1⟩, ⟨x2, q2⟩, ⟨x3, q3⟩, ⟨x4, q4⟩, ⟨x5, q5⟩, z0, z1, z2, z3, z4, z5, hT6⟩ := turned (q := nq + 1) (pos := pos) HF.out hgn hSB hwd hnl HFe.out.1 HFe.out.2 v10 vb0
                    have HT6 := hid hT6
                    clear hT6 v0 v10 vp vb0 vf1 ec0 ec1 ec2 ec3 ec4 ec5 ef4 ef5 c0 c1 c2 c3 c4 c5
                    generalize ((we.drewN (nq + 1)).setCell ⟨wr.heap.size, 4, none⟩ (.bool true)).setCell ⟨wr.heap.size, 5, none⟩ (.int .i64 pos) = w6 at y10 yb0 e0 e1 e2 e3 e4 e5 q0 q1 q2 q3 q4 q5 z0 z1 z2 z3 z4 z5 HT6 ⊢
                    have hnl' : (nn : Int) < (n : Int) := by omega
                    go_wp2
                    go_big_region
                    have hfin := hid (flt_go HF.out he hgo hnl HT6.out)
                    clear q0 q1 q2 q3 q4 q5 z0 z1 z2 z3 z4 z5 y10 yb0 e0 e1 e2 e3 e4 e5
                    go_wp2
                    go_roundg (n - i - (t + 1))
                    case measure => omega
                    case rel => exact ⟨t + 1, nn + 1, _, by omega, rfl, by go_num, by go_num, hfin.out⟩
                  · have hgo : goes a pos e = false := by simp [goes, hps]
                    go_quiet (fail)
                    go_wp2
                    have hfin := hid (flt_no HF.out he hgo (HFe.out.2.trans (c := we.drewN nq) ⟨rfl, rfl, rfl, Nat.le_refl _, fun _ _ _ => rfl⟩))
                    go_roundg (n - i - (t + 1))
                    case measure => omega
                    case rel => exact ⟨t + 1, nn, _, by omega, rfl, by go_num, rfl, hfin.out⟩
                · have hgo : goes a pos e = false := by simp [goes, hat]
                  go_quiet (fail)
                  go_wp2
                  have hfin := hid (flt_no HF.out he hgo (HFe.out.2.trans (c := we.drewN nq) ⟨rfl, rfl, rfl, Nat.le_refl _, fun _ _ _ => rfl⟩))
                  go_roundg (n - i - (t + 1))
                  case measure => omega
                  case rel => exact ⟨t + 1, nn, _, by omega, rfl, by go_num, rfl, hfin.out⟩
            · have hte : t = n - i := by omega
              have htn' : ¬ (t : Int) < ((n - i : Nat) : Int) := by omega
              subst hte
              clear hfl
              go_wp2
              go_meet
              case rel => exact ⟨nn, E', rfl, HF.out⟩
        case rest =>
          rename World => wr
          obtain ⟨nn, E', rfl, hfl⟩ := hcut
          have hgn := Hgne.out g rfl
          have hwd := World.block_lt_of_cell? _ _ tb0
          obtain ⟨v10, vb0, vk0, vk1, vk2, vk3, vk4, vk5⟩ := at_exit hfl hgn t10 tb0 HD.out.2.2
          have hnn : nn ≤ n := by have := hfl.le; omega
          have hinn : i ≤ nn := by
            have h1 := congrArg List.length hfl.tk
            rw [List.length_append, List.length_take, List.length_take, hfl.len, hfl.elen] at h1
            omega
          have hFw : Fr (fun _ => False) w wd := (HX3.out.1.trans HC.out.1).trans HD.out.2.1
          have hsz2 : w.heap.size + 2 < wr.heap.size := by have := World.block_lt_of_cell? _ _ vk0; simpa using this
          have hSr : wr.heap[SB]? = some (.cells c 54 (0, 0)) := hfl.fr.obj (HD.out.2.1.obj (HC.out.1.obj HX3.out.2.1.hS (fun h => h)) (fun h => h)) (fun e => hgn.2.1 e.symm)
          have Hcall := hid (exit_call (w := w) (ctx := ctx) hfl hl hinn hnn (by omega) hgn hsz2 hSr v10 vb0 vk0 vk1 vk2 vk3 vk4 vk5)
          have hncap : nn ≤ cap := by omega
          have hn1 : w.heap.size ≠ SB := by omega
          have hn2 : w.heap.size + 2 ≠ SB := by omega
          have hn3 : SB ≠ w.heap.size := by omega
          have hn4 : SB ≠ w.heap.size + 2 := by omega
          have v10a : ∀ o, (wr.alloc o).cell? ⟨SB, 10, none⟩ = some (.slice (some ⟨g, 0, none⟩) n cap) := fun o => Lib.cell?_alloc_some o v10
          have hncap' : (nn : Int) ≤ (cap : Int) := by omega
          have hnn0 : (0 : Int) ≤ (nn : Int) := by omega
          have HE := hid (And.intro hfl (And.intro hFw hSr))
          clear hfl hFw hSr t0 t10 tp tb0 tf1
          go_upto_region 20 with (fail)
          refine wp_region_held_drew (S := (fun w' => w'.cell? ⟨w.heap.size, 0, none⟩ = some (.pointer (some ⟨SB, 0, none⟩)) ∧ w'.cell? ⟨w.heap.size + 2, 0, none⟩ = some (.int .i64 a) ∧ w'.cell? ⟨w.heap.size + 2, 1, none⟩ = some (.int .i64 pos) ∧ w'.cell? ⟨w.heap.size + 2, 2, none⟩ = some (.int .i64 (-1)) ∧ w'.cell? ⟨w.heap.size + 2, 3, none⟩ = some (.int .u8 ctx) ∧ w'.cell? ⟨w.heap.size + 2, 4, none⟩ = some (.bool false) ∧ w'.cell? ⟨w.heap.size + 2, 5, none⟩ = some (.int .i64 0))) (by kernel_rfl) ?_ (fun hHeld => ?_)
          · go_keep
          refine wpAnyH_take (i := 0) (v := ?_) rfl (by kernel_rfl) (by kernel_rfl) (by kernel_rfl) (fun _ _ _ h => h) (Or.inl ⟨by rfl, ?_⟩) (by assumption) ?_
          case refine_2 => (intro w0 hSw); (try dsimp only at hSw); go_simp; (try with_reducible rfl)
          try simp only [Act.put, List.setIfInBounds_toArray, List.set_cons_zero, List.set_cons_succ]
          refine wpAnyH_take (i := 1) (v := ?_) rfl (by kernel_rfl) (by kernel_rfl) (by kernel_rfl) (fun _ _ _ h => h) (Or.inl ⟨by rfl, ?_⟩) (by assumption) ?_
          case refine_2 => (intro w0 hSw); (try dsimp only at hSw); go_simp; (try with_reducible rfl)
          try simp only [Act.put, List.setIfInBounds_toArray, List.set_cons_zero, List.set_cons_succ]
          refine wpAnyH_take (i := 2) (v := ?_) rfl (by kernel_rfl) (by kernel_rfl) (by kernel_rfl) (fun _ _ _ h => h) (Or.inl ⟨by rfl, ?_⟩) (by assumption) ?_
          case refine_2 => (intro w0 hSw); (try dsimp only at hSw); go_simp; (try with_reducible rfl)
          try simp only [Act.put, List.setIfInBounds_toArray, List.set_cons_zero, List.set_cons_succ]
          refine wpAnyH_take (i := 3) (v := ?_) rfl (by kernel_rfl) (by kernel_rfl) (by kernel_rfl) (fun _ _ _ h => h) (Or.inl ⟨by rfl, ?_⟩) (by assumption) ?_
          case refine_2 => (intro w0 hSw); (try dsimp only at hSw); go_simp; (try with_reducible rfl)
          try simp only [Act.put, List.setIfInBounds_toArray, List.set_cons_zero, List.set_cons_succ]
          refine wpAnyH_take (i := 5) (v := ?_) rfl (by kernel_rfl) (by kernel_rfl) (by kernel_rfl) (fun _ _ _ h => h) (Or.inl ⟨by rfl, ?_⟩) (by assumption) ?_
          case refine_2 => (intro w0 hSw); (try dsimp only at hSw); go_simp; (try with_reducible rfl)
          try simp only [Act.put, List.setIfInBounds_toArray, List.set_cons_zero, List.set_cons_succ]
          refine wpAnyH_take (i := 7) (v := ?_) rfl (by kernel_rfl) (by kernel_rfl) (by kernel_rfl) (fun _ _ _ h => h) (Or.inl ⟨by rfl, ?_⟩) (by assumption) ?_
          case refine_2 => (intro w0 hSw); (try dsimp only at hSw); go_simp; (try with_reducible rfl)
          try simp only [Act.put, List.setIfInBounds_toArray, List.set_cons_zero, List.set_cons_succ]
          refine wpAnyH_take (i := 8) (v := ?_) rfl (by kernel_rfl) (by kernel_rfl) (by kernel_rfl) (fun _ _ _ h => h) (Or.inl ⟨by rfl, ?_⟩) (by assumption) ?_
          case refine_2 => (intro w0 hSw); (try dsimp only at hSw); go_simp; (try with_reducible rfl)
          try simp only [Act.put, List.setIfInBounds_toArray, List.set_cons_zero, List.set_cons_succ]
          refine wpAnyH_ready (rs := [4, 9]) (by kernel_rfl) (by simp) ?_
          refine AllReadyH.cons rfl (fun K hK => ?_) ?_
          · skip
            go_simp
            refine hK.out _ _ ?_ (fun hHeld => ?_)
            · go_keep
            clear hK K
            try simp only [Act.put, List.setIfInBounds_toArray, List.set_cons_zero, List.set_cons_succ]
            refine wpAnyH_take (i := 6) (v := ?_) rfl (by kernel_rfl) (by kernel_rfl) (by kernel_rfl) (fun _ _ _ h => h) (Or.inl ⟨by rfl, ?_⟩) (by assumption) ?_
            case refine_2 => (intro w0 hSw); (try dsimp only at hSw); go_simp; (try with_reducible rfl)
            try simp only [Act.put, List.setIfInBounds_toArray, List.set_cons_zero, List.set_cons_succ]
            refine wpAnyH_ready (rs := [9]) (by kernel_rfl) (by simp) ?_
            refine AllReadyH.cons rfl (fun K hK => ?_) AllReadyH.nil
            go_simp
            refine hK.out _ _ ?_ (fun hHeld => ?_)
            · go_keep
            clear hK K
            try simp only [Act.put, List.setIfInBounds_toArray, List.set_cons_zero, List.set_cons_succ]
            refine wpAnyH_ready (rs := [10]) (by kernel_rfl) (by simp) ?_
            refine AllReadyH.cons rfl (fun K hK => ?_) AllReadyH.nil
            go_simp; go_at_call 14; refine Hcall.out.mono ?_; rintro e7 w7 ⟨g', cap', rfl, hO7, hF7, y0, y1, y2, y3, y4, y5, y6, y7, y8⟩
            refine hK.out _ _ ?_ (fun hHeld => ?_)
            · exact ⟨y0, y3, y4, y5, y6, y7, y8⟩
            clear hK K
            try simp only [Act.put, List.setIfInBounds_toArray, List.set_cons_zero, List.set_cons_succ]
            have HO7 := hid (And.intro hO7 hF7)
            clear hO7 hF7
            refine wpAnyH_take (i := 11) (v := ?_) rfl (by kernel_rfl) (by kernel_rfl) (by kernel_rfl) (fun _ _ _ h => h) (Or.inl ⟨by rfl, ?_⟩) (by assumption) ?_
            case refine_2 => (intro w0 hSw); (try dsimp only at hSw); go_simp; (try with_reducible rfl)
            try simp only [Act.put, List.setIfInBounds_toArray, List.set_cons_zero, List.set_cons_succ]
            refine wpAnyH_take (i := 12) (v := ?_) rfl (by kernel_rfl) (by kernel_rfl) (by kernel_rfl) (fun _ _ _ h => h) (Or.inl ⟨by rfl, ?_⟩) (by assumption) ?_
            case refine_2 => (intro w0 hSw); (try dsimp only at hSw); go_simp; (try with_reducible rfl)
            try simp only [Act.put, List.setIfInBounds_toArray, List.set_cons_zero, List.set_cons_succ]
            refine wpAnyH_ready (rs := [13]) (by kernel_rfl) (by simp) ?_
            refine AllReadyH.cons rfl (fun K hK => ?_) AllReadyH.nil
            go_simp
            refine hK.out _ _ ?_ (fun hHeld => ?_)
            · go_keep
            clear hK K
            try simp only [Act.put, List.setIfInBounds_toArray, List.set_cons_zero, List.set_cons_succ]
            refine wpAnyH_done (by kernel_rfl) ?_ _
            go_wp2
            first | go_end0 | refine bodyPost_ret (results_none rfl _ _ _) rfl ?_
            exact long_end (LB := LB) ⟨_, HC.out.2.1, hii⟩ HE.out.1 hin hinn hnn hgn HE.out.2.1 HE.out.2.2 HO7.out.1 HO7.out.2
          refine AllReadyH.cons rfl (fun K hK => ?_) ?_
          · skip
            go_simp
            refine hK.out _ _ ?_ (fun hHeld => ?_)
            · go_keep
            clear hK K
            try simp only [Act.put, List.setIfInBounds_toArray, List.set_cons_zero, List.set_cons_succ]
            refine wpAnyH_ready (rs := [4]) (by kernel_rfl) (by simp) ?_
            refine AllReadyH.cons rfl (fun K hK => ?_) AllReadyH.nil
            go_simp
            refine hK.out _ _ ?_ (fun hHeld => ?_)
            · go_keep
            clear hK K
            try simp only [Act.put, List.setIfInBounds_toArray, List.set_cons_zero, List.set_cons_succ]
            refine wpAnyH_take (i := 6) (v := ?_) rfl (by kernel_rfl) (by kernel_rfl) (by kernel_rfl) (fun _ _ _ h => h) (Or.inl ⟨by rfl, ?_⟩) (by assumption) ?_
            case refine_2 => (intro w0 hSw); (try dsimp only at hSw); go_simp; (try with_reducible rfl)
            try simp only [Act.put, List.setIfInBounds_toArray, List.set_cons_zero, List.set_cons_succ]
            refine wpAnyH_ready (rs := [10]) (by kernel_rfl) (by simp) ?_
            refine AllReadyH.cons rfl (fun K hK => ?_) AllReadyH.nil
            go_simp; go_at_call 14; refine Hcall.out.mono ?_; rintro e7 w7 ⟨g', cap', rfl, hO7, hF7, y0, y1, y2, y3, y4, y5, y6, y7, y8⟩
            refine hK.out _ _ ?_ (fun hHeld => ?_)
            · exact ⟨y0, y3, y4, y5, y6, y7, y8⟩
            clear hK K
            try simp only [Act.put, List.setIfInBounds_toArray, List.set_cons_zero, List.set_cons_succ]
            have HO7 := hid (And.intro hO7 hF7)
            clear hO7 hF7
            refine wpAnyH_take (i := 11) (v := ?_) rfl (by kernel_rfl) (by kernel_rfl) (by kernel_rfl) (fun _ _ _ h => h) (Or.inl ⟨by rfl, ?_⟩) (by assumption) ?_
            case refine_2 => (intro w0 hSw); (try dsimp only at hSw); go_simp; (try with_reducible rfl)
            try simp only [Act.put, List.setIfInBounds_toArray, List.set_cons_zero, List.set_cons_succ]
            refine wpAnyH_take (i := 12) (v := ?_) rfl (by kernel_rfl) (by kernel_rfl) (by kernel_rfl) (fun _ _ _ h => h) (Or.inl ⟨by rfl, ?_⟩) (by assumption) ?_
            case refine_2 => (intro w0 hSw); (try dsimp only at hSw); go_simp; (try with_reducible rfl)
            try simp only [Act.put, List.setIfInBounds_toArray, List.set_cons_zero, List.set_cons_succ]
            refine wpAnyH_ready (rs := [13]) (by kernel_rfl) (by simp) ?_
            refine AllReadyH.cons rfl (fun K hK => ?_) AllReadyH.nil
            go_simp
            refine hK.out _ _ ?_ (fun hHeld => ?_)
            · go_keep
            clear hK K
            try simp only [Act.put, List.setIfInBounds_toArray, List.set_cons_zero, List.set_cons_succ]
            refine wpAnyH_done (by kernel_rfl) ?_ _
            go_wp2
            first | go_end0 | refine bodyPost_ret (results_none rfl _ _ _) rfl ?_
            exact long_end (LB := LB) ⟨_, HC.out.2.1, hii⟩ HE.out.1 hin hinn hnn hgn HE.out.2.1 HE.out.2.2 HO7.out.1 HO7.out.2
          exact AllReadyH.nil

end Go.Proofs.Ybulkabbe
