import Derived.Test.YbulkabbeUh
import Derived.Test.YbulkabbeTk
/- The law's walk. -/
namespace Go.Proofs.Ybulkabbe
open Go.RowKit Go.Proofs Go.Shelf
set_option linter.unusedVariables false
set_option linter.unusedSimpArgs false

set_option maxRecDepth 100000 in
set_option maxHeartbeats 40000000 in
theorem script_law (w : World) (sa0 : Option Addr) (len cap0 b off : Nat) (Ln Ad Cx : Nat → Int) (looks : Int) (hl : len ≤ 1024) (hA : 0 < len → sa0 = some ⟨b, off, none⟩) (hP : Stp w b off len Ln Ad Cx) :
    Calls Yba.prog 3 #[.slice sa0 len cap0, .int .i64 looks] w fun e w' => e = .returned (.bool true) ∧ Below w.heap.size w w' := by
  obtain ⟨c39, hc39, d1⟩ := made39
  obtain ⟨c54, hc54, ds, d0, d4, d10, d18, dm⟩ := made54 ⟨w.heap.size, 0, none⟩
  have H39 := hid hc39
  have H54 := hid hc54
  have HB := hid (inv_start (w := w) (looks := looks) d1 ds d0 d4 d10 d18 dm)
  have hlk : ((w.alloc (.cells c39 39)).alloc (.cells c54 54)).cell? ⟨w.heap.size + 1, 1803, none⟩ = some (.int .i64 0) := by
    have e2 := heap_alloc_new (w.alloc (.cells c39 39)) (.cells c54 54)
    rw [World.size_alloc] at e2
    exact (cellOf e2 1803).trans d18
  clear hc39 hc54 d1 ds d0 d4 d10 d18 dm
  have hl' : (len : Int) ≤ 1024 := by omega
  have HP := hid (And.intro hA hP)
  clear hA hP
  go_enter Yba.func3, Yba.ntmps3
  go_wp2_with (first | (refine wpList_built' (o := { dst := some 22, op := _, type := _, pos := _, after := _, guard := none }) rfl 39 #[] rfl c39 _ (by simp [Act.eval]) H39.out ?_) | (refine wpList_built' (o := { dst := some 24, op := _, type := _, pos := _, after := _, guard := none }) rfl 54 #[(0, .tmp 23)] rfl c54 _ (by simp [Act.eval]) H54.out ?_))
  generalize (w.alloc (.cells c39 39)).alloc (.cells (c54.setIfInBounds 1803 (.int .i64 looks)) 54) = w1 at HB ⊢
  generalize (c54.setIfInBounds 1803 (.int .i64 looks)) = c1 at HB
  generalize w.heap.size + 1 = SB at HB ⊢
  generalize hLB : w.heap.size = LB at HB ⊢
  clear H39 H54 hlk
  go_loopg [6, 32] len (fun m s6 s32 wr => ∃ (k : Nat) (pos : Int) (sa : Option Addr) (n cap : Nat) (c : Array Value) (E : List En) (L : List (En × Int)), k ≤ len ∧ m = len - k ∧ s32 = .int .i64 (k : Int) ∧ s6 = .int .i64 pos ∧ Inv w wr SB LB looks k pos sa n cap c E L)
  case atStart => exact ⟨0, 0, none, 0, 0, _, _, _, by omega, by omega, rfl, rfl, HB.out⟩
  case round =>
    obtain ⟨k, pos, sa, n, cap, c, E, L, hk, hm, rfl, rfl, hI⟩ := hrel
    have HI := hid hI
    by_cases hkl : k < len
    · obtain ⟨hA, hP⟩ := HP.out
      obtain rfl := hA (by omega)
      have g0 := hI.fr.cell (hP.l k hkl) (fun h => h)
      have g1 := hI.fr.cell (hP.a k hkl) (fun h => h)
      have g2 := hI.fr.cell (hP.c k hkl) (fun h => h)
      have bl := hP.lb k
      have ba := hP.ab k
      have bc := hP.cb k
      have hkl' : (k : Int) < (len : Int) := by omega
      have hp0 := hI.p0
      have hp1 := hI.p1
      have hsz := (show wr.heap.size = wr.heap.size from rfl)
      clear hA hP hsz
      generalize Ln k = xl at g0 bl
      generalize Ad k = xa at g1 ba
      generalize Cx k = xc at g2 bc
      clear hI
      go_upto_if 49 with (fail)
      go_cut [6, 9] (fun s6 s9 wc => ∃ p a : Int, s6 = .int .i64 p ∧ s9 = .int .i64 a ∧ 0 ≤ a ∧ a ≤ p ∧ p ≤ 199 * (k + 1) ∧ wc = wr.alloc (.cells #[.int .u16 xl, .int .u16 xa, .int .u8 xc] 57))
      case first =>
        by_cases hneg : pos + xa % 200 - xl % 600 < 0
        · go_wp2
          go_meet
          case rel => exact ⟨_, _, rfl, rfl, by omega, by omega, by omega, rfl⟩
        · go_wp2
          go_meet
          case rel => exact ⟨_, _, rfl, rfl, by omega, by omega, by omega, rfl⟩
      case rest =>
        obtain ⟨p, a, rfl, rfl, ha0, hap, hpk, hwc⟩ := hcut
        subst hwc
        go_upto_region 15 with (fail)
        have hf2 := heap_alloc_new (wr.alloc (.cells #[.int .u16 xl, .int .u16 xa, .int .u8 xc] 57)) (.cells #[.int .u8 (xc % 16), .int .i64 a, .int .i64 0, .int .i64 0, .bool false, .bool false, .bool false, .bool false] 59)
        rw [World.size_alloc] at hf2
        have HJ := hid (And.intro (HI.out.step (((Fr.refl _ wr).alloc (.cells #[.int .u16 xl, .int .u16 xa, .int .u8 xc] 57)).alloc (.cells #[.int .u8 (xc % 16), .int .i64 a, .int .i64 0, .int .i64 0, .bool false, .bool false, .bool false, .bool false] 59))) hf2)
        clear hf2 g0 g1 g2 bl ba bc hp0 hp1
        generalize (wr.alloc (.cells #[.int .u16 xl, .int .u16 xa, .int .u8 xc] 57)).alloc (.cells #[.int .u8 (xc % 16), .int .i64 a, .int .i64 0, .int .i64 0, .bool false, .bool false, .bool false, .bool false] 59) = w2 at HJ ⊢
        have hnl : n ≤ 1024 := by have := HJ.out.1.le; omega
        have r10 := HJ.out.1.sx.at_.2.2.1
        go_wp2_with fail
        refine (clone_any w2 w.heap.size n cap sa E HJ.out.1.len HJ.out.1.nil hnl HJ.out.1.own).mono ?_
        rintro e w3 ⟨ta, tc, rfl, hO3, hF3⟩
        have hI3 := HJ.out.1.step hF3
        have hrg : w3.rangeAt SB 11 (recs L) := by rw [← hI3.rec_]; exact range_mid hI3.sx.hS
        obtain ⟨z, hz, hzero⟩ := zero52
        have hrl : (recs L).length = 1792 := by rw [recs_len, hI3.rl]
        have hinf : (Yba.prog.info? 52).map (·.size) = some (recs L).length := by rw [hrl]; exact info52
        have hinf2 : (Yba.prog.info? 52).map (·.size) = some (recs L).toArray.size := hinf
        have hth : (w3.alloc (.cells z 52)).there w3.heap.size 0 (recs L).toArray.size := there_of (heap_alloc_new w3 _) (by rw [hz]; simp [hrl])
        obtain ⟨hF4, hr4⟩ := stored w3 hz hI3.rl rfl
        have HK := hid (And.intro hI3 (And.intro hO3 (And.intro hF4 (And.intro hr4 hF3))))
        clear hI3 hO3 hF4 hr4 hF3
        clear r10
        go_upto_region 17 with (first | (refine wpList_load_mid (op := { dst := some 64, op := _, type := _, pos := _, after := _, guard := none }) rfl 52 (.tmp 63) rfl SB 11 rfl (recs L) _ hrg under52 rfl hinf ?_) | (refine wpList_store_mid (op := { dst := none, op := _, type := _, pos := _, after := _, guard := none }) rfl 52 (.tmp 13) (.tmp 64) rfl w3.heap.size 0 (recs L).toArray rfl rfl hth hinf2 (all_oneCell_toArray (recs_one L)) ?_))
        obtain ⟨hSB2, hLB2, hne2, hob2⟩ := HJ.out.1.below
        have hb23 := HK.out.2.2.2.2.size
        have hI4 := HK.out.1.step HK.out.2.2.1
        have hO4 : Old _ w2.heap.size w3.heap.size ta n tc E L := ⟨owns_fr HK.out.2.1 HK.out.2.2.1 (fun _ _ h => h), HK.out.2.2.2.1, hb23⟩
        have hf4 := HK.out.2.2.1.obj (HK.out.2.2.2.2.obj HJ.out.2 (fun h => h)) (fun h => h)
        clear hth hrg hinf2 hb23
        generalize (w3.alloc (.cells z 52)).setCells w3.heap.size 0 (recs L) = w4 at hI4 hO4 hf4 ⊢
        clear HK HJ
        generalize w3.heap.size = rB at hO4 ⊢
        have hfs : wr.heap.size + 1 < w4.heap.size := obj_lt hf4
        have hfLB : wr.heap.size + 1 ≠ LB := fun e => by have := HI.out.below.2.1; omega
        have hfSB : wr.heap.size + 1 ≠ SB := fun e => by have := HI.out.below.1; omega
        obtain ⟨r0, _, _, _, rp⟩ := hI4.sx.at_
        have rf : w4.frozen? ⟨LB, 1, none⟩ = false := by obtain ⟨d, hd, _⟩ := hI4.sx.hL; exact freeOf hd 1
        have HK := hid (And.intro hI4 (And.intro hO4 hf4))
        clear hI4 hO4 hf4
        go_upto_region 18 with (fail)
        obtain ⟨hI5, hF5⟩ := HK.out.1.place p (by omega) hpk rfl
        have hO5 := HK.out.2.1.fr hF5 (fun b e => by omega)
        have hf5 := hF5.obj HK.out.2.2 hfLB
        clear r0 rp rf HK hF5
        generalize w4.setCell ⟨LB, 1, none⟩ (.int .i64 p) = w5 at hI5 hO5 hf5 ⊢
        have q0 := (cellOf hf5 0).trans rfl
        have q1 := (cellOf hf5 1).trans rfl
        have q2 := (cellOf hf5 2).trans rfl
        have q3 := (cellOf hf5 3).trans rfl
        have q4 := (cellOf hf5 4).trans rfl
        have q5 := (cellOf hf5 5).trans rfl
        have q6 := (cellOf hf5 6).trans rfl
        have q7 := (cellOf hf5 7).trans rfl
        have HK := hid (And.intro hI5 hO5)
        clear hI5 hO5 hf5
        go_wp2_with fail
        clear q0 q1 q2 q3 q4 q5 q6 q7
        have hp3 : p ≤ 300000 := by omega
        by_cases hsh : p - a < 256
        · refine (keep_short w5 SB LB _ c looks p a (xc % 16) (a % 256).toNat HK.out.1.sx hsh hap ha0 hp3 (by omega)).mono ?_
          rintro e w6 ⟨rfl, h61, h62⟩
          have hmm : (a % 256).toNat < 256 := by omega
          have hme : a % 256 = ((a % 256).toNat : Int) := by omega
          generalize (a % 256).toNat = m at hmm hme h61
          have hI6 := HK.out.1.short hmm _ h61 h62
          have hO6 := HK.out.2.fr h62 (fun b e => by omega)
          clear HK h61 h62
          go_upto_region 20 with (fail)
          have hk7 := heap_alloc_new w6 (.cells #[.int .i64 a, .int .i64 p, .int .i64 (-1), .int .u8 (xc % 16), .bool false, .int .i64 0] 49)
          have hI7 := hI6.step ((Fr.refl _ w6).alloc (.cells #[.int .i64 a, .int .i64 p, .int .i64 (-1), .int .u8 (xc % 16), .bool false, .int .i64 0] 49))
          have hO7 := hO6.fr ((Fr.refl (fun _ => False) w6).alloc (.cells #[.int .i64 a, .int .i64 p, .int .i64 (-1), .int .u8 (xc % 16), .bool false, .int .i64 0] 49)) (fun b e => e.elim)
          generalize w6.alloc (.cells #[.int .i64 a, .int .i64 p, .int .i64 (-1), .int .u8 (xc % 16), .bool false, .int .i64 0] 49) = w7 at hk7 hI7 hO7 ⊢
          generalize w6.heap.size = kB at hk7 ⊢
          clear hI6 hO6
          obtain ⟨r0, _, _, _, rp⟩ := hI7.sx.at_
          have hrg : w7.rangeAt rB 0 (recs L) := range_of hO7.rb
          have hinf2 : (Yba.prog.info? 52).map (·.size) = some (recs L).toArray.size := hinf
          have hth : (w7.alloc (.cells z 52)).there w7.heap.size 0 (recs L).toArray.size := there_of (heap_alloc_new w7 _) (by rw [hz]; simp [hrl])
          have hw1 : IntKind.i64.wrap (p - a) = p - a := by rw [IntKind.wrap_i64]; omega
          have HS := hid (And.intro hI7 (And.intro hO7 hk7))
          clear hI7 hO7 hk7
          go_upto_region 24 with (first | (refine wpList_load_mid (op := { dst := some 92, op := _, type := _, pos := _, after := _, guard := none }) rfl 52 (.tmp 13) rfl rB 0 rfl (recs L) _ hrg under52 rfl hinf ?_) | (refine wpList_store_mid (op := { dst := none, op := _, type := _, pos := _, after := _, guard := none }) rfl 52 (.tmp 15) (.tmp 92) rfl w7.heap.size 0 (recs L).toArray rfl rfl hth hinf2 (all_oneCell_toArray (recs_one L)) ?_))
          have hL7 : L.length = 256 := by have := recs_len L; omega
          obtain ⟨hF8, hr8⟩ := stored w7 hz hL7 rfl
          have hk8 := hF8.obj HS.out.2.2 (fun h => h)
          clear hth hrg hinf2 r0 rp hw1 hinf hzero
          generalize (w7.alloc (.cells z 52)).setCells w7.heap.size 0 (recs L) = w8 at hr8 hF8 hk8 ⊢
          have hth8 : w8.there w7.heap.size (m * 7) 7 := there_of hr8 (by simp [hrl]; omega)
          have k0 := (cellOf hk8 0).trans rfl
          have k1 := (cellOf hk8 1).trans rfl
          have k2 := (cellOf hk8 2).trans rfl
          have k3 := (cellOf hk8 3).trans rfl
          have k4 := (cellOf hk8 4).trans rfl
          have k5 := (cellOf hk8 5).trans rfl
          have hm1 : (m : Int) < 256 := by omega
          obtain ⟨hr9, hF9⟩ := wanted' (x := keptOf (xc % 16) a p) (looks := looks) hF8 hr8 hL7 hmm rfl
          have HS9 := hid (And.intro hr9 hF9)
          clear hF8 hr8 hk8 hr9 hF9
          have h51 : (#[.int .i64 a, .int .i64 p, .int .i64 (-1), .int .u8 (xc % 16), .bool false, .int .i64 0, .int .i64 looks] : Array Value).all (·.oneCell') = true := all_oneCell_toArray (cs := [.int .i64 a, .int .i64 p, .int .i64 (-1), .int .u8 (xc % 16), .bool false, .int .i64 0, .int .i64 looks]) (by simp [Value.oneCell'])
          have hth9 : w8.there w7.heap.size (m * 7) (#[.int .i64 a, .int .i64 p, .int .i64 (-1), .int .u8 (xc % 16), .bool false, .int .i64 0, .int .i64 looks] : Array Value).size := hth8
          have hi51 : (Yba.prog.info? 51).map (·.size) = some (#[.int .i64 a, .int .i64 p, .int .i64 (-1), .int .u8 (xc % 16), .bool false, .int .i64 0, .int .i64 looks] : Array Value).size := info51
          clear hth8
          go_upto_region 25 with (refine wpList_store_mid (op := { dst := none, op := _, type := _, pos := _, after := _, guard := none }) rfl 51 (.tmp 98) (.tmp 97) rfl w7.heap.size (m * 7) #[.int .i64 a, .int .i64 p, .int .i64 (-1), .int .u8 (xc % 16), .bool false, .int .i64 0, .int .i64 looks] rfl rfl hth9 hi51 h51 ?_)
          clear k0 k1 k2 k3 k4 k5 hth9 hm1 h51 hi51
          have hr9 : (w8.setCells w7.heap.size (m * 7) [.int .i64 a, .int .i64 p, .int .i64 (-1), .int .u8 (xc % 16), .bool false, .int .i64 0, .int .i64 looks]).heap[w7.heap.size]? = some (.cells (recs (L.set m (keptOf (xc % 16) a p, looks))).toArray 52 (0, 0)) := HS9.out.1
          have hF9 : Fr (fun _ => False) w7 (w8.setCells w7.heap.size (m * 7) [.int .i64 a, .int .i64 p, .int .i64 (-1), .int .u8 (xc % 16), .bool false, .int .i64 0, .int .i64 looks]) := HS9.out.2
          have hI9 := HS.out.1.step hF9
          have hO9 := HS.out.2.1.fr hF9 (fun b e => e.elim)
          clear HS9 HS hF9
          generalize w8.setCells w7.heap.size (m * 7) [.int .i64 a, .int .i64 p, .int .i64 (-1), .int .u8 (xc % 16), .bool false, .int .i64 0, .int .i64 looks] = w9 at hr9 hI9 hO9 ⊢
          generalize w7.heap.size = wB at hr9 ⊢
          generalize L.set m (keptOf (xc % 16) a p, looks) = L2 at hr9 hI9
          have hR1 : w9.rangeAt SB 11 (recs L2) := by rw [← hI9.rec_]; exact range_mid hI9.sx.hS
          have hR2 : w9.rangeAt wB 0 (recs L2) := range_of hr9
          have hR3 := hI9.sx.at_.2.2.1
          have hinf : (Yba.prog.info? 52).map (·.size) = some (recs L2).length := by rw [recs_len, hI9.rl]; exact info52
          have hne52 : ∀ w : World, (binOp .neq 52 (.agg (recs L2).toArray) (.agg (recs L2).toArray)).run Yba.prog w = .ok (.bool false) w := fun w => neq52 w L2 hI9.rl
          have heq52 : ∀ w : World, (Op.equalIn 10000 52 (.agg (recs L2).toArray) (.agg (recs L2).toArray)).run Yba.prog w = .ok true w := fun w => eqIn52 w L2 hI9.rl
          have hu52 := under52
          have HEQ := hid (equal_same w9.drew w.heap.size w2.heap.size sa ta n cap tc E hI9.len hnl (owns_fr (S := fun _ => False) hI9.own ((Fr.refl _ w9).drew) (fun _ _ h => h)) (owns_fr (S := fun _ => False) hO9.own ((Fr.refl _ w9).drew) (fun _ _ h => h)))
          have HS := hid hI9
          clear hI9 hO9 hr9
          refine wp_region_held_drew (S := (fun w' => w'.rangeAt SB 11 (recs L2) ∧ w'.rangeAt wB 0 (recs L2) ∧ w'.cell? ⟨SB, 10, none⟩ = some (.slice sa n cap))) (by kernel_rfl) ?_ (fun hHeld => ?_)
          · exact ⟨hR1, hR2, hR3⟩
          refine wpAnyH_take (i := 0) (oi := Oper.mk (some 99) _ _ _ _ _) (v := ?_) rfl (by kernel_rfl) (by kernel_rfl) (by kernel_rfl) (fun _ _ _ h => h) (Or.inl ⟨by kernel_rfl, ?_⟩) (by assumption) ?_
          case refine_2 => (intro w0 hSw); (try dsimp only at hSw); go_simp; (try with_reducible rfl)
          try simp only [Act.put, List.setIfInBounds_toArray, List.set_cons_zero, List.set_cons_succ]
          refine wpAnyH_take (i := 1) (oi := Oper.mk (some 100) _ _ _ _ _) (v := ?_) rfl (by kernel_rfl) (by kernel_rfl) (by kernel_rfl) (fun _ _ _ h => h) (Or.inl ⟨by kernel_rfl, ?_⟩) (by assumption) ?_
          case refine_2 => (intro w0 hSw); (try dsimp only at hSw); go_simp; (try with_reducible rfl)
          try simp only [Act.put, List.setIfInBounds_toArray, List.set_cons_zero, List.set_cons_succ]
          refine wpAnyH_take (i := 2) (oi := Oper.mk (some 101) _ _ _ _ _) (v := ?_) rfl (by kernel_rfl) (by kernel_rfl) (by kernel_rfl) (fun _ _ _ h => h) (Or.inl ⟨by kernel_rfl, ?_⟩) (by assumption) ?_
          case refine_2 => (intro w0 hSw); (try dsimp only at hSw); go_simp; (try with_reducible rfl)
          try simp only [Act.put, List.setIfInBounds_toArray, List.set_cons_zero, List.set_cons_succ]
          refine wpAnyH_take (i := 3) (oi := Oper.mk (some 102) _ _ _ _ _) (v := .agg (recs L2).toArray) rfl (by kernel_rfl) (by kernel_rfl) (by kernel_rfl) (fun _ _ _ h => h) (yieldsIf_load_mid rfl 52 (.tmp 101) rfl SB 11 rfl (recs L2) _ (fun w' h => h.1) under52 rfl hinf) (by assumption) ?_
          try simp only [Act.put, List.setIfInBounds_toArray, List.set_cons_zero, List.set_cons_succ]
          refine wpAnyH_take (i := 4) (oi := Oper.mk (some 103) _ _ _ _ _) (v := .agg (recs L2).toArray) rfl (by kernel_rfl) (by kernel_rfl) (by kernel_rfl) (fun _ _ _ h => h) (yieldsIf_load_mid rfl 52 (.tmp 15) rfl wB 0 rfl (recs L2) _ (fun w' h => h.2.1) under52 rfl hinf) (by assumption) ?_
          try simp only [Act.put, List.setIfInBounds_toArray, List.set_cons_zero, List.set_cons_succ]
          refine wpAnyH_take (i := 5) (oi := Oper.mk (some 104) _ _ _ _ _) (v := ?_) rfl (by kernel_rfl) (by kernel_rfl) (by kernel_rfl) (fun _ _ _ h => h) (Or.inl ⟨by kernel_rfl, ?_⟩) (by assumption) ?_
          case refine_2 => (intro w0 hSw); (try dsimp only at hSw); go_simp; (try with_reducible rfl)
          try simp only [Act.put, List.setIfInBounds_toArray, List.set_cons_zero, List.set_cons_succ]
          refine wpAnyH_take (i := 6) (oi := Oper.mk (some 105) _ _ _ _ _) (v := ?_) rfl (by kernel_rfl) (by kernel_rfl) (by kernel_rfl) (fun _ _ _ h => h) (Or.inl ⟨by kernel_rfl, ?_⟩) (by assumption) ?_
          case refine_2 => (intro w0 hSw); (try dsimp only at hSw); go_simp; (try with_reducible rfl)
          try simp only [Act.put, List.setIfInBounds_toArray, List.set_cons_zero, List.set_cons_succ]
          refine wpAnyH_take (i := 7) (oi := Oper.mk (some 106) _ _ _ _ _) (v := ?_) rfl (by kernel_rfl) (by kernel_rfl) (by kernel_rfl) (fun _ _ _ h => h) (Or.inl ⟨by kernel_rfl, ?_⟩) (by assumption) ?_
          case refine_2 => (intro w0 hSw); (try dsimp only at hSw); go_simp; (try with_reducible rfl)
          try simp only [Act.put, List.setIfInBounds_toArray, List.set_cons_zero, List.set_cons_succ]
          refine wpAnyH_take (i := 8) (oi := Oper.mk (some 107) _ _ _ _ _) (v := ?_) rfl (by kernel_rfl) (by kernel_rfl) (by kernel_rfl) (fun _ _ _ h => h) (Or.inl ⟨by kernel_rfl, ?_⟩) (by assumption) ?_
          case refine_2 => (intro w0 hSw); (try dsimp only at hSw); go_simp; (try with_reducible rfl)
          try simp only [Act.put, List.setIfInBounds_toArray, List.set_cons_zero, List.set_cons_succ]
          refine wpAnyH_take (i := 9) (oi := Oper.mk (some 108) _ _ _ _ _) (v := ?_) rfl (by kernel_rfl) (by kernel_rfl) (by kernel_rfl) (fun _ _ _ h => h) (Or.inl ⟨by kernel_rfl, ?_⟩) (by assumption) ?_
          case refine_2 => (intro w0 hSw); (try dsimp only at hSw); go_simp; (try with_reducible rfl)
          try simp only [Act.put, List.setIfInBounds_toArray, List.set_cons_zero, List.set_cons_succ]
          refine wpAnyH_take (i := 10) (oi := Oper.mk (some 109) _ _ _ _ _) (v := ?_) rfl (by kernel_rfl) (by kernel_rfl) (by kernel_rfl) (fun _ _ _ h => h) (Or.inl ⟨by kernel_rfl, ?_⟩) (by assumption) ?_
          case refine_2 => (intro w0 hSw); (try dsimp only at hSw); go_simp; (try with_reducible rfl)
          try simp only [Act.put, List.setIfInBounds_toArray, List.set_cons_zero, List.set_cons_succ]
          refine wpAnyH_take (i := 11) (oi := Oper.mk (some 110) _ _ _ _ _) (v := ?_) rfl (by kernel_rfl) (by kernel_rfl) (by kernel_rfl) (fun _ _ _ h => h) (Or.inl ⟨by kernel_rfl, ?_⟩) (by assumption) ?_
          case refine_2 => (intro w0 hSw); (try dsimp only at hSw); go_simp; (try with_reducible rfl)
          try simp only [Act.put, List.setIfInBounds_toArray, List.set_cons_zero, List.set_cons_succ]
          refine wpAnyH_ready (rs := [12]) (by kernel_rfl) (by simp) ?_
          refine AllReadyH.cons (o := Oper.mk (some 111) _ _ _ _ _) rfl (fun K hK => ?_) AllReadyH.nil
          go_simp; go_at_call 7; refine HEQ.out.mono ?_; rintro e8 w10 ⟨rfl, q, rfl⟩
          refine hK.out _ _ ?_ (fun hHeld => ?_)
          · exact ⟨hR1, hR2, hR3⟩
          clear hK K
          try simp only [Act.put, List.setIfInBounds_toArray, List.set_cons_zero, List.set_cons_succ]
          refine wpAnyH_take (i := 13) (oi := Oper.mk (some 112) _ _ _ _ _) (v := ?_) rfl (by kernel_rfl) (by kernel_rfl) (by kernel_rfl) (fun _ _ _ h => h) (Or.inl ⟨by kernel_rfl, ?_⟩) (by assumption) ?_
          case refine_2 => (intro w0 hSw); (try dsimp only at hSw); go_simp; (try with_reducible rfl)
          try simp only [Act.put, List.setIfInBounds_toArray, List.set_cons_zero, List.set_cons_succ]
          refine wpAnyH_take (i := 14) (oi := Oper.mk (some 113) _ _ _ _ _) (v := ?_) rfl (by kernel_rfl) (by kernel_rfl) (by kernel_rfl) (fun _ _ _ h => h) (Or.inl ⟨by kernel_rfl, ?_⟩) (by assumption) ?_
          case refine_2 => (intro w0 hSw); (try dsimp only at hSw); go_simp; (try with_reducible rfl)
          try simp only [Act.put, List.setIfInBounds_toArray, List.set_cons_zero, List.set_cons_succ]
          refine wpAnyH_done (by kernel_rfl) ?_ _
          clear hR1 hR2 hinf hne52 heq52 hu52
          go_wp2_with fail
          refine (sorted_any (w9.drewN (1 + q)) w.heap.size sa n cap E HS.out.len (by omega) (owns_fr HS.out.own (drewN_fr w9 (1 + q)) (fun _ _ h => h)) HS.out.sorted HS.out.top).mono ?_
          rintro e9 w11 ⟨rfl, q2, rfl⟩
          go_wp2
          go_roundg (len - (k + 1))
          case measure => omega
          case rel => exact ⟨k + 1, p, sa, n, cap, _, E, L2, by omega, by omega, by go_num, rfl, by first | exact HS.out.step (drewN_fr w9 _) | exact (HS.out.step (drewN_fr w9 (1 + q))).step (drewN_fr _ q2)⟩
        · as_aux_lemma =>
            have hlg : 256 ≤ p - a := by omega
            have hnk := HI.out.le
            refine (keep_long w5 w.heap.size SB LB sa n cap c looks p a (xc % 16) E HK.out.1.sx HK.out.1.len hnl HK.out.1.own (by have := HK.out.1.fr.size; omega) HK.out.1.sorted HK.out.1.top hlg ha0 hp3).mono ?_
            rintro e w6 ⟨i, g, cap', ⟨i0, hcut0, hii⟩, rfl, h61, h62, h63⟩
            have hkp : Kept a p (keptOf (xc % 16) a p) E i := kept_facts hcut0 hii HK.out.1.sorted HK.out.1.top rfl rfl
            have hlE := HK.out.1.len
            have hI6 := HK.out.1.long hkp (by omega) h61 h62 h63
            have hO6 := HK.out.2.fr h63 (fun b e => by
              rcases e with e | e
              · omega
              · rw [hlE] at e; exact (hob2 b e).1)
            obtain ⟨kle, klen, klt, klow, khere, ksame, khigh, _, _⟩ := hkp
            clear HK h61 h62 h63 hcut0 hii
            generalize (c.setIfInBounds 10 (.slice (some ⟨g, 0, none⟩) (after a p (keptOf (xc % 16) a p) E i).length cap')) = c2 at hI6
            generalize after a p (keptOf (xc % 16) a p) E i = E2 at hI6 klen klt klow khere ksame khigh
            rw [hlE] at kle klen
            have HKp := hid (And.intro klow (And.intro khere (And.intro ksame khigh)))
            clear klow khere ksame khigh hlE
            generalize E2.length = n2 at hI6 klen klt
            go_upto_region 20 with (fail)
            have hk7 := heap_alloc_new w6 (.cells #[.int .i64 a, .int .i64 p, .int .i64 (-1), .int .u8 (xc % 16), .bool false, .int .i64 0] 49)
            have hI7 := hI6.step ((Fr.refl _ w6).alloc (.cells #[.int .i64 a, .int .i64 p, .int .i64 (-1), .int .u8 (xc % 16), .bool false, .int .i64 0] 49))
            have hO7 := hO6.fr ((Fr.refl (fun _ => False) w6).alloc (.cells #[.int .i64 a, .int .i64 p, .int .i64 (-1), .int .u8 (xc % 16), .bool false, .int .i64 0] 49)) (fun b e => e.elim)
            generalize w6.alloc (.cells #[.int .i64 a, .int .i64 p, .int .i64 (-1), .int .u8 (xc % 16), .bool false, .int .i64 0] 49) = w7 at hk7 hI7 hO7 ⊢
            generalize w6.heap.size = kB at hk7 ⊢
            clear hI6 hO6
            obtain ⟨r0, _, r10, _, rp⟩ := hI7.sx.at_
            have k0 := (cellOf hk7 0).trans rfl
            have k1 := (cellOf hk7 1).trans rfl
            have k2 := (cellOf hk7 2).trans rfl
            have k3 := (cellOf hk7 3).trans rfl
            have k4 := (cellOf hk7 4).trans rfl
            have k5 := (cellOf hk7 5).trans rfl
            have hrg1 : w7.rangeAt SB 11 (recs L) := by rw [← hI7.rec_]; exact range_mid hI7.sx.hS
            have hrg2 : w7.rangeAt rB 0 (recs L) := range_of hO7.rb
            have hne52 : ∀ w : World, (binOp .neq 52 (.agg (recs L).toArray) (.agg (recs L).toArray)).run Yba.prog w = .ok (.bool false) w := fun w => neq52 w L hI7.rl
            have heq52 : ∀ w : World, (Op.equalIn 10000 52 (.agg (recs L).toArray) (.agg (recs L).toArray)).run Yba.prog w = .ok true w := fun w => eqIn52 w L hI7.rl
            have hu52 := under52
            have hw1 : IntKind.i64.wrap (p - a) = p - a := by rw [IntKind.wrap_i64]; omega
            have hsh' : ¬ p - a < 256 := by omega
            have HS := hid (And.intro hI7 (And.intro hO7 hk7))
            clear hI7 hO7 hk7
            go_upto_region 27 with (fail)
            refine wp_region_held_drew (S := (fun w' => w'.rangeAt SB 11 (recs L) ∧ w'.rangeAt rB 0 (recs L))) (by kernel_rfl) ?_ (fun hHeld => ?_)
            · exact ⟨hrg1, hrg2⟩
            refine wpAnyH_take (i := 0) (oi := Oper.mk (some 114) _ _ _ _ _) (v := ?_) rfl (by kernel_rfl) (by kernel_rfl) (by kernel_rfl) (fun _ _ _ h => h) (Or.inl ⟨by kernel_rfl, ?_⟩) (by assumption) ?_
            case refine_2 => (intro w0 hSw); (try dsimp only at hSw); go_simp; (try with_reducible rfl)
            try simp only [Act.put, List.setIfInBounds_toArray, List.set_cons_zero, List.set_cons_succ]
            refine wpAnyH_take (i := 1) (oi := Oper.mk (some 115) _ _ _ _ _) (v := ?_) rfl (by kernel_rfl) (by kernel_rfl) (by kernel_rfl) (fun _ _ _ h => h) (Or.inl ⟨by kernel_rfl, ?_⟩) (by assumption) ?_
            case refine_2 => (intro w0 hSw); (try dsimp only at hSw); go_simp; (try with_reducible rfl)
            try simp only [Act.put, List.setIfInBounds_toArray, List.set_cons_zero, List.set_cons_succ]
            refine wpAnyH_take (i := 2) (oi := Oper.mk (some 116) _ _ _ _ _) (v := ?_) rfl (by kernel_rfl) (by kernel_rfl) (by kernel_rfl) (fun _ _ _ h => h) (Or.inl ⟨by kernel_rfl, ?_⟩) (by assumption) ?_
            case refine_2 => (intro w0 hSw); (try dsimp only at hSw); go_simp; (try with_reducible rfl)
            try simp only [Act.put, List.setIfInBounds_toArray, List.set_cons_zero, List.set_cons_succ]
            refine wpAnyH_take (i := 3) (oi := Oper.mk (some 117) _ _ _ _ _) (v := .agg (recs L).toArray) rfl (by kernel_rfl) (by kernel_rfl) (by kernel_rfl) (fun _ _ _ h => h) (yieldsIf_load_mid rfl 52 (.tmp 116) rfl SB 11 rfl (recs L) _ (fun w' h => h.1) under52 rfl hinf) (by assumption) ?_
            try simp only [Act.put, List.setIfInBounds_toArray, List.set_cons_zero, List.set_cons_succ]
            refine wpAnyH_take (i := 4) (oi := Oper.mk (some 118) _ _ _ _ _) (v := .agg (recs L).toArray) rfl (by kernel_rfl) (by kernel_rfl) (by kernel_rfl) (fun _ _ _ h => h) (yieldsIf_load_mid rfl 52 (.tmp 13) rfl rB 0 rfl (recs L) _ (fun w' h => h.2) under52 rfl hinf) (by assumption) ?_
            try simp only [Act.put, List.setIfInBounds_toArray, List.set_cons_zero, List.set_cons_succ]
            refine wpAnyH_take (i := 5) (oi := Oper.mk (some 119) _ _ _ _ _) (v := ?_) rfl (by kernel_rfl) (by kernel_rfl) (by kernel_rfl) (fun _ _ _ h => h) (Or.inl ⟨by kernel_rfl, ?_⟩) (by assumption) ?_
            case refine_2 => (intro w0 hSw); (try dsimp only at hSw); go_simp; (try with_reducible rfl)
            try simp only [Act.put, List.setIfInBounds_toArray, List.set_cons_zero, List.set_cons_succ]
            refine wpAnyH_done (by kernel_rfl) ?_ _
            clear hrg1 hrg2 hne52 heq52 hu52 hinf
            have hle1 : (n2 : Int) ≤ (n : Int) + 1 := by omega
            have hlt1 : (i : Int) < (n2 : Int) := by omega
            go_wp2
            go_loopg [16] i (fun m s16 w8 => ∃ j : Nat, j ≤ i ∧ m = i - j ∧ s16 = .int .i64 (j : Int) ∧ w8 = w7.drew)
            case atStart => exact ⟨0, by omega, by omega, rfl, rfl⟩
            case round =>
              obtain ⟨j, hj, hmj, rfl, rfl⟩ := hrel
              by_cases hji : j < i
              · obtain ⟨e, he⟩ : ∃ e, E2[j]? = some e := ⟨_, List.getElem?_eq_getElem (by have := HS.out.1.len; omega)⟩
                have c0 := (HS.out.1.own.six he).1
                have hat := HKp.out.1 j e hji he
                have hj2 : (j : Int) < (n2 : Int) := by omega
                clear he
                go_wp2
                go_roundg (i - (j + 1))
                case measure => omega
                case rel => exact ⟨j + 1, by omega, by omega, by go_num, rfl⟩
              · have hji' : i = j := by omega
                subst hji'
                obtain ⟨c0, c1, c2, c3, c4, c5⟩ := HS.out.1.own.six HKp.out.2.1
                simp only [keptOf] at c0 c1 c2 c3 c4 c5
                have hne49 : ∀ w : World, (binOp .neq 49 (.agg #[.int .i64 a, .int .i64 p, .int .i64 (-1), .int .u8 (xc % 16), .bool false, .int .i64 0]) (.agg #[.int .i64 a, .int .i64 p, .int .i64 (-1), .int .u8 (xc % 16), .bool false, .int .i64 0])).run Yba.prog w = .ok (.bool false) w := fun w => neq49 w (keptOf (xc % 16) a p)
                have heq49 : ∀ w : World, (Op.equalIn 10000 49 (.agg #[.int .i64 a, .int .i64 p, .int .i64 (-1), .int .u8 (xc % 16), .bool false, .int .i64 0]) (.agg #[.int .i64 a, .int .i64 p, .int .i64 (-1), .int .u8 (xc % 16), .bool false, .int .i64 0])).run Yba.prog w = .ok true w := fun w => eqIn49 w 9998 (keptOf (xc % 16) a p)
                go_upto_region 34 with (fail)
                go_quiet (fail)
                clear hne49 heq49 c0 c1 c2 c3 c4 c5 k0 k1 k2 k3 k4 k5 r0 rp
                have hF8 : Fr (fun _ => False) w7 (w7.drew.drewN nq) := (drew_fr w7).trans (drewN_fr _ nq)
                have hI8 := HS.out.1.step hF8
                have hO8 := HS.out.2.1.fr hF8 (fun b e => e.elim)
                clear hF8 r10
                generalize w7.drew.drewN nq = w8 at hI8 hO8 ⊢
                have r10 := hI8.sx.at_.2.2.1
                obtain ⟨hta, htc, _⟩ := hO8.own.parts
                obtain ⟨_, hc2, _⟩ := hI8.own.parts
                have hi1 : (i : Int) ≤ (cap' : Int) := by omega
                have hi2 : (i : Int) ≤ (tc : Int) := by omega
                have hi3 : (0 : Int) ≤ (i : Int) := by omega
                have hi4 : (i : Int) ≤ (n : Int) := by omega
                have HEQ := hid (equal_same w8.drew w.heap.size w2.heap.size (some ⟨g, 0, none⟩) ta i cap' tc (E.take i) (by rw [List.length_take]; have := HI.out.len; omega) (by omega) (by rw [← HKp.out.2.2.1]; exact owns_fr (hI8.own.take_any (by rw [hI8.len]; omega)) (drew_fr w8) (fun _ _ h => h)) (owns_fr (hO8.own.take_any (by have := HI.out.len; omega)) (drew_fr w8) (fun _ _ h => h)))
                have HT := hid (And.intro hI8 hO8)
                clear hI8 hO8 HS
                go_upto_region 36 with (fail)
                go_cut [184] (fun s184 w' => s184 = .bool false ∧ Fr (fun _ => False) w8 w')
                case first =>
                  rcases hta with rfl | ⟨t, rfl⟩
                  · skip
                    refine wp_region_held_drew (S := (fun w' => w'.cell? ⟨SB, 10, none⟩ = some (.slice (some ⟨g, 0, none⟩) n2 cap'))) (by kernel_rfl) ?_ (fun hHeld => ?_)
                    · exact r10
                    refine wpAnyH_take (i := 0) (oi := Oper.mk (some 168) _ _ _ _ _) (v := ?_) rfl (by kernel_rfl) (by kernel_rfl) (by kernel_rfl) (fun _ _ _ h => h) (Or.inl ⟨by kernel_rfl, ?_⟩) (by assumption) ?_
                    case refine_2 => (intro w0 hSw); (try dsimp only at hSw); go_simp; (try with_reducible rfl)
                    try simp only [Act.put, List.setIfInBounds_toArray, List.set_cons_zero, List.set_cons_succ]
                    refine wpAnyH_take (i := 1) (oi := Oper.mk (some 169) _ _ _ _ _) (v := ?_) rfl (by kernel_rfl) (by kernel_rfl) (by kernel_rfl) (fun _ _ _ h => h) (Or.inl ⟨by kernel_rfl, ?_⟩) (by assumption) ?_
                    case refine_2 => (intro w0 hSw); (try dsimp only at hSw); go_simp; (try with_reducible rfl)
                    try simp only [Act.put, List.setIfInBounds_toArray, List.set_cons_zero, List.set_cons_succ]
                    refine wpAnyH_take (i := 2) (oi := Oper.mk (some 170) _ _ _ _ _) (v := ?_) rfl (by kernel_rfl) (by kernel_rfl) (by kernel_rfl) (fun _ _ _ h => h) (Or.inl ⟨by kernel_rfl, ?_⟩) (by assumption) ?_
                    case refine_2 => (intro w0 hSw); (try dsimp only at hSw); go_simp; (try with_reducible rfl)
                    try simp only [Act.put, List.setIfInBounds_toArray, List.set_cons_zero, List.set_cons_succ]
                    refine wpAnyH_take (i := 3) (oi := Oper.mk (some 171) _ _ _ _ _) (v := .bool false) rfl (by kernel_rfl) (by kernel_rfl) (by kernel_rfl) (fun _ _ _ h => h) (Or.inl ⟨by kernel_rfl, ?_⟩) (by assumption) ?_
                    · intro w0 hSw
                      go_simp
                    try simp only [Act.put, List.setIfInBounds_toArray, List.set_cons_zero, List.set_cons_succ]
                    refine wpAnyH_take (i := 4) (oi := Oper.mk (some 172) _ _ _ _ _) (v := ?_) rfl (by kernel_rfl) (by kernel_rfl) (by kernel_rfl) (fun _ _ _ h => h) (Or.inl ⟨by kernel_rfl, ?_⟩) (by assumption) ?_
                    case refine_2 => (intro w0 hSw); (try dsimp only at hSw); go_simp; (try with_reducible rfl)
                    try simp only [Act.put, List.setIfInBounds_toArray, List.set_cons_zero, List.set_cons_succ]
                    refine wpAnyH_take (i := 5) (oi := Oper.mk (some 173) _ _ _ _ _) (v := ?_) rfl (by kernel_rfl) (by kernel_rfl) (by kernel_rfl) (fun _ _ _ h => h) (Or.inl ⟨by kernel_rfl, ?_⟩) (by assumption) ?_
                    case refine_2 => (intro w0 hSw); (try dsimp only at hSw); go_simp; (try with_reducible rfl)
                    try simp only [Act.put, List.setIfInBounds_toArray, List.set_cons_zero, List.set_cons_succ]
                    refine wpAnyH_take (i := 6) (oi := Oper.mk (some 174) _ _ _ _ _) (v := ?_) rfl (by kernel_rfl) (by kernel_rfl) (by kernel_rfl) (fun _ _ _ h => h) (Or.inl ⟨by kernel_rfl, ?_⟩) (by assumption) ?_
                    case refine_2 => (intro w0 hSw); (try dsimp only at hSw); go_simp; (try with_reducible rfl)
                    try simp only [Act.put, List.setIfInBounds_toArray, List.set_cons_zero, List.set_cons_succ]
                    refine wpAnyH_take (i := 7) (oi := Oper.mk (some 175) _ _ _ _ _) (v := ?_) rfl (by kernel_rfl) (by kernel_rfl) (by kernel_rfl) (fun _ _ _ h => h) (Or.inl ⟨by kernel_rfl, ?_⟩) (by assumption) ?_
                    case refine_2 => (intro w0 hSw); (try dsimp only at hSw); go_simp; (try with_reducible rfl)
                    try simp only [Act.put, List.setIfInBounds_toArray, List.set_cons_zero, List.set_cons_succ]
                    refine wpAnyH_take (i := 8) (oi := Oper.mk (some 176) _ _ _ _ _) (v := ?_) rfl (by kernel_rfl) (by kernel_rfl) (by kernel_rfl) (fun _ _ _ h => h) (Or.inl ⟨by kernel_rfl, ?_⟩) (by assumption) ?_
                    case refine_2 => (intro w0 hSw); (try dsimp only at hSw); go_simp; (try with_reducible rfl)
                    try simp only [Act.put, List.setIfInBounds_toArray, List.set_cons_zero, List.set_cons_succ]
                    refine wpAnyH_take (i := 9) (oi := Oper.mk (some 177) _ _ _ _ _) (v := ?_) rfl (by kernel_rfl) (by kernel_rfl) (by kernel_rfl) (fun _ _ _ h => h) (Or.inl ⟨by kernel_rfl, ?_⟩) (by assumption) ?_
                    case refine_2 => (intro w0 hSw); (try dsimp only at hSw); go_simp; (try with_reducible rfl)
                    try simp only [Act.put, List.setIfInBounds_toArray, List.set_cons_zero, List.set_cons_succ]
                    refine wpAnyH_take (i := 10) (oi := Oper.mk (some 178) _ _ _ _ _) (v := ?_) rfl (by kernel_rfl) (by kernel_rfl) (by kernel_rfl) (fun _ _ _ h => h) (Or.inl ⟨by kernel_rfl, ?_⟩) (by assumption) ?_
                    case refine_2 => (intro w0 hSw); (try dsimp only at hSw); go_simp; (try with_reducible rfl)
                    try simp only [Act.put, List.setIfInBounds_toArray, List.set_cons_zero, List.set_cons_succ]
                    refine wpAnyH_take (i := 11) (oi := Oper.mk (some 179) _ _ _ _ _) (v := ?_) rfl (by kernel_rfl) (by kernel_rfl) (by kernel_rfl) (fun _ _ _ h => h) (Or.inl ⟨by kernel_rfl, ?_⟩) (by assumption) ?_
                    case refine_2 => (intro w0 hSw); (try dsimp only at hSw); go_simp; (try with_reducible rfl)
                    try simp only [Act.put, List.setIfInBounds_toArray, List.set_cons_zero, List.set_cons_succ]
                    refine wpAnyH_take (i := 12) (oi := Oper.mk (some 180) _ _ _ _ _) (v := ?_) rfl (by kernel_rfl) (by kernel_rfl) (by kernel_rfl) (fun _ _ _ h => h) (Or.inl ⟨by kernel_rfl, ?_⟩) (by assumption) ?_
                    case refine_2 => (intro w0 hSw); (try dsimp only at hSw); go_simp; (try with_reducible rfl)
                    try simp only [Act.put, List.setIfInBounds_toArray, List.set_cons_zero, List.set_cons_succ]
                    refine wpAnyH_take (i := 13) (oi := Oper.mk (some 181) _ _ _ _ _) (v := ?_) rfl (by kernel_rfl) (by kernel_rfl) (by kernel_rfl) (fun _ _ _ h => h) (Or.inl ⟨by kernel_rfl, ?_⟩) (by assumption) ?_
                    case refine_2 => (intro w0 hSw); (try dsimp only at hSw); go_simp; (try with_reducible rfl)
                    try simp only [Act.put, List.setIfInBounds_toArray, List.set_cons_zero, List.set_cons_succ]
                    refine wpAnyH_ready (rs := [14]) (by kernel_rfl) (by simp) ?_
                    refine AllReadyH.cons (o := Oper.mk (some 182) _ _ _ _ _) rfl (fun K hK => ?_) AllReadyH.nil
                    go_simp; go_at_call 7; refine HEQ.out.mono ?_; rintro e8 w10 ⟨rfl, q, rfl⟩
                    refine hK.out _ _ ?_ (fun hHeld => ?_)
                    · exact r10
                    clear hK K
                    try simp only [Act.put, List.setIfInBounds_toArray, List.set_cons_zero, List.set_cons_succ]
                    refine wpAnyH_take (i := 15) (oi := Oper.mk (some 183) _ _ _ _ _) (v := ?_) rfl (by kernel_rfl) (by kernel_rfl) (by kernel_rfl) (fun _ _ _ h => h) (Or.inl ⟨by kernel_rfl, ?_⟩) (by assumption) ?_
                    case refine_2 => (intro w0 hSw); (try dsimp only at hSw); go_simp; (try with_reducible rfl)
                    try simp only [Act.put, List.setIfInBounds_toArray, List.set_cons_zero, List.set_cons_succ]
                    refine wpAnyH_take (i := 16) (oi := Oper.mk (some 184) _ _ _ _ _) (v := ?_) rfl (by kernel_rfl) (by kernel_rfl) (by kernel_rfl) (fun _ _ _ h => h) (Or.inl ⟨by kernel_rfl, ?_⟩) (by assumption) ?_
                    case refine_2 => (intro w0 hSw); (try dsimp only at hSw); go_simp; (try with_reducible rfl)
                    try simp only [Act.put, List.setIfInBounds_toArray, List.set_cons_zero, List.set_cons_succ]
                    refine wpAnyH_done (by kernel_rfl) ?_ _
                    go_wp2
                    go_meet
                    case rel => exact ⟨rfl, by first | exact drewN_fr w8 _ | exact (drew_fr w8).trans (drewN_fr _ q)⟩
                  · skip
                    refine wp_region_held_drew (S := (fun w' => w'.cell? ⟨SB, 10, none⟩ = some (.slice (some ⟨g, 0, none⟩) n2 cap'))) (by kernel_rfl) ?_ (fun hHeld => ?_)
                    · exact r10
                    refine wpAnyH_take (i := 0) (oi := Oper.mk (some 168) _ _ _ _ _) (v := ?_) rfl (by kernel_rfl) (by kernel_rfl) (by kernel_rfl) (fun _ _ _ h => h) (Or.inl ⟨by kernel_rfl, ?_⟩) (by assumption) ?_
                    case refine_2 => (intro w0 hSw); (try dsimp only at hSw); go_simp; (try with_reducible rfl)
                    try simp only [Act.put, List.setIfInBounds_toArray, List.set_cons_zero, List.set_cons_succ]
                    refine wpAnyH_take (i := 1) (oi := Oper.mk (some 169) _ _ _ _ _) (v := ?_) rfl (by kernel_rfl) (by kernel_rfl) (by kernel_rfl) (fun _ _ _ h => h) (Or.inl ⟨by kernel_rfl, ?_⟩) (by assumption) ?_
                    case refine_2 => (intro w0 hSw); (try dsimp only at hSw); go_simp; (try with_reducible rfl)
                    try simp only [Act.put, List.setIfInBounds_toArray, List.set_cons_zero, List.set_cons_succ]
                    refine wpAnyH_take (i := 2) (oi := Oper.mk (some 170) _ _ _ _ _) (v := ?_) rfl (by kernel_rfl) (by kernel_rfl) (by kernel_rfl) (fun _ _ _ h => h) (Or.inl ⟨by kernel_rfl, ?_⟩) (by assumption) ?_
                    case refine_2 => (intro w0 hSw); (try dsimp only at hSw); go_simp; (try with_reducible rfl)
                    try simp only [Act.put, List.setIfInBounds_toArray, List.set_cons_zero, List.set_cons_succ]
                    refine wpAnyH_take (i := 3) (oi := Oper.mk (some 171) _ _ _ _ _) (v := .bool false) rfl (by kernel_rfl) (by kernel_rfl) (by kernel_rfl) (fun _ _ _ h => h) (Or.inl ⟨by kernel_rfl, ?_⟩) (by assumption) ?_
                    · intro w0 hSw
                      go_simp
                    try simp only [Act.put, List.setIfInBounds_toArray, List.set_cons_zero, List.set_cons_succ]
                    refine wpAnyH_take (i := 4) (oi := Oper.mk (some 172) _ _ _ _ _) (v := ?_) rfl (by kernel_rfl) (by kernel_rfl) (by kernel_rfl) (fun _ _ _ h => h) (Or.inl ⟨by kernel_rfl, ?_⟩) (by assumption) ?_
                    case refine_2 => (intro w0 hSw); (try dsimp only at hSw); go_simp; (try with_reducible rfl)
                    try simp only [Act.put, List.setIfInBounds_toArray, List.set_cons_zero, List.set_cons_succ]
                    refine wpAnyH_take (i := 5) (oi := Oper.mk (some 173) _ _ _ _ _) (v := ?_) rfl (by kernel_rfl) (by kernel_rfl) (by kernel_rfl) (fun _ _ _ h => h) (Or.inl ⟨by kernel_rfl, ?_⟩) (by assumption) ?_
                    case refine_2 => (intro w0 hSw); (try dsimp only at hSw); go_simp; (try with_reducible rfl)
                    try simp only [Act.put, List.setIfInBounds_toArray, List.set_cons_zero, List.set_cons_succ]
                    refine wpAnyH_take (i := 6) (oi := Oper.mk (some 174) _ _ _ _ _) (v := ?_) rfl (by kernel_rfl) (by kernel_rfl) (by kernel_rfl) (fun _ _ _ h => h) (Or.inl ⟨by kernel_rfl, ?_⟩) (by assumption) ?_
                    case refine_2 => (intro w0 hSw); (try dsimp only at hSw); go_simp; (try with_reducible rfl)
                    try simp only [Act.put, List.setIfInBounds_toArray, List.set_cons_zero, List.set_cons_succ]
                    refine wpAnyH_take (i := 7) (oi := Oper.mk (some 175) _ _ _ _ _) (v := ?_) rfl (by kernel_rfl) (by kernel_rfl) (by kernel_rfl) (fun _ _ _ h => h) (Or.inl ⟨by kernel_rfl, ?_⟩) (by assumption) ?_
                    case refine_2 => (intro w0 hSw); (try dsimp only at hSw); go_simp; (try with_reducible rfl)
                    try simp only [Act.put, List.setIfInBounds_toArray, List.set_cons_zero, List.set_cons_succ]
                    refine wpAnyH_take (i := 8) (oi := Oper.mk (some 176) _ _ _ _ _) (v := ?_) rfl (by kernel_rfl) (by kernel_rfl) (by kernel_rfl) (fun _ _ _ h => h) (Or.inl ⟨by kernel_rfl, ?_⟩) (by assumption) ?_
                    case refine_2 => (intro w0 hSw); (try dsimp only at hSw); go_simp; (try with_reducible rfl)
                    try simp only [Act.put, List.setIfInBounds_toArray, List.set_cons_zero, List.set_cons_succ]
                    refine wpAnyH_take (i := 9) (oi := Oper.mk (some 177) _ _ _ _ _) (v := ?_) rfl (by kernel_rfl) (by kernel_rfl) (by kernel_rfl) (fun _ _ _ h => h) (Or.inl ⟨by kernel_rfl, ?_⟩) (by assumption) ?_
                    case refine_2 => (intro w0 hSw); (try dsimp only at hSw); go_simp; (try with_reducible rfl)
                    try simp only [Act.put, List.setIfInBounds_toArray, List.set_cons_zero, List.set_cons_succ]
                    refine wpAnyH_take (i := 10) (oi := Oper.mk (some 178) _ _ _ _ _) (v := ?_) rfl (by kernel_rfl) (by kernel_rfl) (by kernel_rfl) (fun _ _ _ h => h) (Or.inl ⟨by kernel_rfl, ?_⟩) (by assumption) ?_
                    case refine_2 => (intro w0 hSw); (try dsimp only at hSw); go_simp; (try with_reducible rfl)
                    try simp only [Act.put, List.setIfInBounds_toArray, List.set_cons_zero, List.set_cons_succ]
                    refine wpAnyH_take (i := 11) (oi := Oper.mk (some 179) _ _ _ _ _) (v := ?_) rfl (by kernel_rfl) (by kernel_rfl) (by kernel_rfl) (fun _ _ _ h => h) (Or.inl ⟨by kernel_rfl, ?_⟩) (by assumption) ?_
                    case refine_2 => (intro w0 hSw); (try dsimp only at hSw); go_simp; (try with_reducible rfl)
                    try simp only [Act.put, List.setIfInBounds_toArray, List.set_cons_zero, List.set_cons_succ]
                    refine wpAnyH_take (i := 12) (oi := Oper.mk (some 180) _ _ _ _ _) (v := ?_) rfl (by kernel_rfl) (by kernel_rfl) (by kernel_rfl) (fun _ _ _ h => h) (Or.inl ⟨by kernel_rfl, ?_⟩) (by assumption) ?_
                    case refine_2 => (intro w0 hSw); (try dsimp only at hSw); go_simp; (try with_reducible rfl)
                    try simp only [Act.put, List.setIfInBounds_toArray, List.set_cons_zero, List.set_cons_succ]
                    refine wpAnyH_take (i := 13) (oi := Oper.mk (some 181) _ _ _ _ _) (v := ?_) rfl (by kernel_rfl) (by kernel_rfl) (by kernel_rfl) (fun _ _ _ h => h) (Or.inl ⟨by kernel_rfl, ?_⟩) (by assumption) ?_
                    case refine_2 => (intro w0 hSw); (try dsimp only at hSw); go_simp; (try with_reducible rfl)
                    try simp only [Act.put, List.setIfInBounds_toArray, List.set_cons_zero, List.set_cons_succ]
                    refine wpAnyH_ready (rs := [14]) (by kernel_rfl) (by simp) ?_
                    refine AllReadyH.cons (o := Oper.mk (some 182) _ _ _ _ _) rfl (fun K hK => ?_) AllReadyH.nil
                    go_simp; go_at_call 7; refine HEQ.out.mono ?_; rintro e8 w10 ⟨rfl, q, rfl⟩
                    refine hK.out _ _ ?_ (fun hHeld => ?_)
                    · exact r10
                    clear hK K
                    try simp only [Act.put, List.setIfInBounds_toArray, List.set_cons_zero, List.set_cons_succ]
                    refine wpAnyH_take (i := 15) (oi := Oper.mk (some 183) _ _ _ _ _) (v := ?_) rfl (by kernel_rfl) (by kernel_rfl) (by kernel_rfl) (fun _ _ _ h => h) (Or.inl ⟨by kernel_rfl, ?_⟩) (by assumption) ?_
                    case refine_2 => (intro w0 hSw); (try dsimp only at hSw); go_simp; (try with_reducible rfl)
                    try simp only [Act.put, List.setIfInBounds_toArray, List.set_cons_zero, List.set_cons_succ]
                    refine wpAnyH_take (i := 16) (oi := Oper.mk (some 184) _ _ _ _ _) (v := ?_) rfl (by kernel_rfl) (by kernel_rfl) (by kernel_rfl) (fun _ _ _ h => h) (Or.inl ⟨by kernel_rfl, ?_⟩) (by assumption) ?_
                    case refine_2 => (intro w0 hSw); (try dsimp only at hSw); go_simp; (try with_reducible rfl)
                    try simp only [Act.put, List.setIfInBounds_toArray, List.set_cons_zero, List.set_cons_succ]
                    refine wpAnyH_done (by kernel_rfl) ?_ _
                    go_wp2
                    go_meet
                    case rel => exact ⟨rfl, by first | exact drewN_fr w8 _ | exact (drew_fr w8).trans (drewN_fr _ q)⟩
                case rest =>
                  rename World => w9
                  obtain ⟨rfl, hF9⟩ := hcut
                  have hI9 := HT.out.1.step hF9
                  clear HT HEQ hta r10 hF9
                  have HT := hid hI9
                  clear hI9
                  go_wp2_with fail
                  go_loopg [17] (n2 - (i + 1)) (fun m s17 wk => ∃ t : Nat, i + 1 ≤ t ∧ t ≤ n2 ∧ m = n2 - t ∧ s17 = .int .i64 (t : Int) ∧ Fr (fun _ => False) w9 wk)
                  case atStart => exact ⟨i + 1, by omega, by omega, by omega, by go_num, Fr.refl _ _⟩
                  case round =>
                    obtain ⟨t, ht1, ht2, hmt, rfl, hFk⟩ := hrel
                    have hIk := HT.out.step hFk
                    have r10 := hIk.sx.at_.2.2.1
                    by_cases htn : t < n2
                    · obtain ⟨e, he⟩ : ∃ e, E2[t]? = some e := ⟨_, List.getElem?_eq_getElem (by have := hIk.len; omega)⟩
                      obtain ⟨c0, c1, c2, c3, c4, c5⟩ := hIk.own.six he
                      obtain ⟨x1, x2, x3, x4⟩ := HKp.out.2.2.2 t e (by omega) he
                      rw [x1] at c4
                      rw [x2] at c5
                      have htn' : (t : Int) < (n2 : Int) := by omega
                      have HFk := hid hFk
                      clear he hIk hFk x1 x2
                      go_wp2
                      go_roundg (n2 - (t + 1))
                      case measure => omega
                      case rel => exact ⟨t + 1, by omega, by omega, rfl, by go_num, HFk.out.alloc _⟩
                    · have htn' : ¬ (t : Int) < (n2 : Int) := by omega
                      have HIk := hid hIk
                      clear hIk hFk
                      go_wp2_with fail
                      refine (sorted_any wr w.heap.size (some ⟨g, 0, none⟩) n2 cap' E2 HIk.out.len (by have := HIk.out.le; omega) HIk.out.own HIk.out.sorted HIk.out.top).mono ?_
                      rintro e9 w11 ⟨rfl, q2, rfl⟩
                      go_wp2
                      go_roundg (len - (k + 1))
                      case measure => omega
                      case rel => exact ⟨k + 1, p, _, n2, cap', _, E2, L, by omega, by omega, by go_num, rfl, HIk.out.step (drewN_fr _ _)⟩
    · obtain rfl : k = len := by omega
      go_wp2
      go_ret
      exact ⟨rfl, HI.out.fr.below (Nat.le_refl _) (fun _ _ h => h)⟩

end Go.Proofs.Ybulkabbe
