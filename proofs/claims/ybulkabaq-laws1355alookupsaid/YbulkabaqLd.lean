import Derived.Test.YbulkabaqLc
namespace Go.Proofs.Ybulkabaq
open Go.RowKit
set_option linter.unusedVariables false
attribute [local go_sem ↓] Go.wp_at_zero Go.wp_at_succ

theorem eql26' (w : World) (a : Option Addr) (n c : Nat) : (binOp .eql 26 (.slice a n c) (.slice none 0 0)).run Yba.prog w = .ok (.bool a.isNone) w := Lib.run_eql_slice_nil w 26 _ a n c 0 0 Yba.underlying26
theorem eql73' (w : World) (a : Option Addr) (n c : Nat) : (binOp .eql 73 (.slice a n c) (.slice none 0 0)).run Yba.prog w = .ok (.bool a.isNone) w := Lib.run_eql_slice_nil w 73 _ a n c 0 0 Yba.underlying73
attribute [local go_sem] eql26' eql73'

theorem memL_start (w : World) (mc : Array Value) (h17 : mc[17]? = some (.int .i32 0)) (h19 : mc[19]? = some (.map (some w.heap.size))) : MemL ((w.alloc (.map #[] 0)).alloc (.cells mc 64)) (w.heap.size + 1) w.heap.size := by
  have h := heap_alloc_new (w.alloc (.map #[] 0)) (.cells mc 64)
  rw [World.size_alloc] at h
  exact ⟨mc, h, h17, h19⟩
theorem mapOk_start (w : World) (o : Obj) (N : Nat → ByteArray) (D : Nat → Bool) (K S : Nat → Int) (A : Nat → Option Addr) (L C : Nat → Nat) : MapOk ((w.alloc (.map #[] 0)).alloc o) w.heap.size 0 N D K S A L C := by
  refine ⟨#[], 0, ?_, fun x hx => by simp at hx, fun s => .inl ⟨rfl, fun j hj => by omega⟩⟩
  rw [Below.heap_alloc _ _ _ (by simp)]
  exact heap_alloc_new w _

/-- What decided answered, against the entries. -/
def Ans (i : Nat) (N : Nat → ByteArray) (D : Nat → Bool) (K S : Nat → Int) (A : Nat → Option Addr) (L C : Nat → Nat) (q kd : ByteArray) (da : Option Addr) (dn dc : Nat) (ds : Int) (okb : Bool) : Prop :=
  (∃ j, j < i ∧ lastI N q i = (j : Int) ∧ D j = true ∧ kindS (K j) = kd ∧ da = A j ∧ dn = L j ∧ dc = C j ∧ ds = S j ∧ okb = true) ∨
  (okb = false ∧ da = none ∧ dn = 0 ∧ dc = 0 ∧ ds = 0 ∧ (lastI N q i = -1 ∨ ∃ j, j < i ∧ lastI N q i = (j : Int) ∧ (D j = false ∨ (D j = true ∧ ¬ kindS (K j) = kd))))

theorem decided_all {w : World} {mb ib i : Nat} {N : Nat → ByteArray} {D : Nat → Bool} {K S : Nat → Int} {A : Nat → Option Addr} {L C : Nat → Nat} (hm : MemL w mb ib) (hp : MapOk w ib i N D K S A L C) (q kd : ByteArray) :
    Calls Yba.prog 6 #[.pointer (some ⟨mb, 0, none⟩), .string q, .string kd] w fun e w' => ∃ da dn dc ds okb, e = .returned (.tuple #[.agg #[.bool false, .int .u8 0, .int .i64 0, .slice da dn dc, .slice none 0 0, .int .i64 0, .int .i64 0, .int .i64 ds, .int .i64 0, .int .i64 0, .int .i64 0, .int .i64 0, .bool false], .bool okb]) ∧
      Ans i N D K S A L C q kd da dn dc ds okb ∧ Fr (fun _ => False) w w' := by
  obtain ⟨mc, hmb, m17, m19⟩ := hm
  obtain ⟨es, clock, hes, hks, hall⟩ := hp
  rcases hall q with ⟨hf, hno⟩ | ⟨v, j, hf, hj, hN, hlate, bb, rfl, hbb⟩
  · refine (decided_none w mb ib q kd mc es clock hmb m17 m19 hes hks hf).mono ?_
    rintro e w' ⟨rfl, F⟩
    exact ⟨none, 0, 0, 0, false, rfl, .inr ⟨rfl, rfl, rfl, rfl, rfl, .inl (lastI_none hno)⟩, F⟩
  · refine (decided_some w mb ib q kd mc es clock hmb m17 m19 hes hks bb (N j) (kindS (K j)) (D j) (.slice (A j) (L j) (C j)) (S j) ⟨_, _, _, rfl⟩ hf hbb).mono ?_
    rintro e w' ⟨rfl, F⟩
    have hl := lastI_some hj hN hlate
    by_cases hy : D j = true ∧ kindS (K j) = kd
    · obtain ⟨h1, h2⟩ := hy
      rw [h1, h2, decRes_yes]
      exact ⟨A j, L j, C j, S j, true, rfl, .inl ⟨j, hj, hl, h1, h2, rfl, rfl, rfl, rfl, rfl⟩, F⟩
    · rw [decRes_no hy]
      refine ⟨none, 0, 0, 0, false, rfl, .inr ⟨rfl, rfl, rfl, rfl, rfl, .inr ⟨j, hj, hl, ?_⟩⟩, F⟩
      cases hD : D j with
      | false => exact .inl rfl
      | true => exact .inr ⟨rfl, fun h => hy ⟨hD, h⟩⟩

theorem lock_facts {w1 : World} {mb ib : Nat} (hm : MemL w1 mb ib) :
    (∀ o, (w1.alloc o).cell? ⟨mb, 17, none⟩ = some (.int .i32 0)) ∧ (∀ o, (w1.alloc o).frozen? ⟨mb, 17, none⟩ = false) ∧
    (∀ res, Calls Yba.prog 8 #[.pointer (some ⟨mb, 17, none⟩)] ((w1.setCell ⟨mb, 17, none⟩ (.int .i32 1)).alloc (.cells res 75)) fun e w3 => e = .returned (.tuple #[]) ∧ w3.heap[w1.heap.size]? = some (.cells res 75 (0, 0)) ∧ Fr (· = mb) w1 w3) ∧ mb < w1.heap.size := by
  obtain ⟨mc, hmb, m17, m19⟩ := hm
  have hb := obj_lt hmb
  have c17 := (cellOf hmb 17).trans m17
  refine ⟨fun o => Lib.cell?_alloc_some o c17, fun o => ?_, fun res => ?_, hb⟩
  · rw [World.frozen?_alloc_old _ _ _ (by simp; omega)]; exact freeOf hmb 17
  · refine (unlock_any ⟨mb, 17, none⟩ _ (Lib.cell?_alloc_some _ (World.cell?_setCell_same _ _ _ c17)) ?_).mono ?_
    · rw [World.frozen?_alloc_old _ _ _ (by simp; omega), World.frozen?_setCell]; exact freeOf hmb 17
    · rintro e w' ⟨rfl, rfl⟩
      refine ⟨rfl, ?_, ?_⟩
      · rw [heap_setCell_ne (by omega)]
        have h := heap_alloc_new (w1.setCell ⟨mb, 17, none⟩ (.int .i32 1)) (.cells res 75)
        rw [World.size_setCell] at h
        exact h
      · exact Fr.setCell (S := (· = mb)) (p := ⟨mb, 17, none⟩) ((Fr.setCell (S := (· = mb)) (p := ⟨mb, 17, none⟩) (Fr.refl _ w1) (.inl rfl) _).alloc _) (.inl rfl) _

theorem cells_at {w w3 : World} {b off len : Nat} {N : Nat → ByteArray} {D : Nat → Bool} {K S : Nat → Int} {A : Nat → Option Addr} {L C : Nat → Nat} (h : Ent w b off len N D K S A L C) (F : Fr (fun k => w.heap.size ≤ k) w w3) {j : Nat} (hj : j < len) :
    w3.cell? ⟨b, off + j * 5 + 1, none⟩ = some (.bool (D j)) ∧ w3.cell? ⟨b, off + j * 5 + 2, none⟩ = some (.int .u8 (K j)) ∧ w3.cell? ⟨b, off + j * 5 + 3, none⟩ = some (.int .i64 (S j)) ∧ w3.cell? ⟨b, off + j * 5 + 4, none⟩ = some (.slice (A j) (L j) (C j)) := by
  have hb := World.block_lt_of_cell? _ _ (h.n j hj)
  exact ⟨F.cell (h.d j hj) (by simp at hb ⊢; omega), F.cell (h.k j hj) (by simp at hb ⊢; omega), F.cell (h.s j hj) (by simp at hb ⊢; omega), F.cell (h.v j hj) (by simp at hb ⊢; omega)⟩

set_option maxRecDepth 100000 in
set_option maxHeartbeats 2000000 in
theorem lookup_law (w : World) (a : Option Addr) (len cap b off : Nat) (N : Nat → ByteArray) (D : Nat → Bool) (K S : Nat → Int) (A : Nat → Option Addr) (L C : Nat → Nat) (q0 : ByteArray) (pk : Bool) (qi qk : Int)
    (hl : len ≤ 1024) (hA : 0 < len → a = some ⟨b, off, none⟩) (hE : Ent w b off len N D K S A L C) (i0 : 0 ≤ qi) (i1 : qi ≤ 255) (k0 : 0 ≤ qk) (k1 : qk ≤ 255) :
    Calls Yba.prog 3 #[.slice a len cap, .string q0, .bool pk, .int .u8 qi, .int .u8 qk] w fun e w' => e = .returned (.bool true) ∧ Below w.heap.size w w' := by
  have HE := hid hE
  have HA := hid hA
  clear hE hA
  have hmm := @run_makeMap Yba.prog
  go_enter Yba.func3, Yba.ntmps3
  go_wp2_with fail
  go_loopg [12] len (fun n x wr => ∃ i : Nat, i ≤ len ∧ n = len - i ∧ x = .int .i64 i ∧ MemL wr (w.heap.size + 1) w.heap.size ∧ MapOk wr w.heap.size i N D K S A L C ∧ Fr (fun k => w.heap.size ≤ k) w wr)
  case atStart => exact ⟨0, by omega, by omega, rfl, memL_start w _ rfl rfl, mapOk_start w _ N D K S A L C, ((Fr.refl _ w).alloc _).alloc _⟩
  case round =>
    obtain ⟨i, hi, hn, rfl, hm, hp, hF⟩ := hrel
    by_cases hlt : i < len
    · obtain rfl := HA.out (by omega)
      have HF := hid hF
      have c0 := hF.cell (HE.out.n i hlt) (by have := World.block_lt_of_cell? _ _ (HE.out.n i hlt); simp at this ⊢; omega)
      have c1 := hF.cell (HE.out.d i hlt) (by have := World.block_lt_of_cell? _ _ (HE.out.n i hlt); simp at this ⊢; omega)
      have c2 := hF.cell (HE.out.k i hlt) (by have := World.block_lt_of_cell? _ _ (HE.out.n i hlt); simp at this ⊢; omega)
      have c3 := hF.cell (HE.out.s i hlt) (by have := World.block_lt_of_cell? _ _ (HE.out.n i hlt); simp at this ⊢; omega)
      have c4 := hF.cell (HE.out.v i hlt) (by have := World.block_lt_of_cell? _ _ (HE.out.n i hlt); simp at this ⊢; omega)
      clear hF
      obtain ⟨mc, hmb, m17, m19⟩ := hm
      have hmlt := obj_lt hmb
      have m19' := (cellOf hmb 19).trans m19
      obtain ⟨es', clock', u1, u2, u4, u3⟩ := hp.put
      have hU3 := hid u3
      have hkb := HE.out.kb i hlt
      clear u3 hp
      go_wp2_with fail
      go_region_held3 (fun w' => w'.cell? ⟨w.heap.size + 1, 19, none⟩ = some (.map (some w.heap.size)) ∧ w'.cell? ⟨wr.heap.size, 0, none⟩ = some (.string (N i)) ∧ w'.cell? ⟨wr.heap.size, 1, none⟩ = some (.bool (D i)) ∧ w'.cell? ⟨wr.heap.size, 2, none⟩ = some (.int .u8 (K i)) ∧ w'.cell? ⟨wr.heap.size, 3, none⟩ = some (.int .i64 (S i)) ∧ w'.cell? ⟨wr.heap.size, 4, none⟩ = some (.slice (A i) (L i) (C i))) (go_keep)
        (first | (go_at_call 5; refine (kind_any _ _ hkb.1 hkb.2).mono ?_; rintro e w' ⟨rfl, rfl⟩))
      all_goals
        go_wp2
        have hF := HF.out
        have hU := hU3.out (.cells #[.string (N i), .bool (D i), .int .u8 (K i), .int .i64 (S i), .slice (A i) (L i) (C i)] 66)
        have hMem := MemL.fr ⟨mc, hmb, m17, m19⟩ hU.2 (by omega)
        have hF' := hF.trans' hU.2 (fun k _ h => by omega)
        have hP' := hU.1
        clear hU hU3 u1 u2 u4 c0 c1 c2 c3 c4 HF hF
        go_roundg (len - (i + 1))
        case measure => omega
        case rel => exact ⟨i + 1, by omega, rfl, by go_num, hMem, hP', hF'⟩
    · obtain rfl : i = len := by omega
      have HF := hid hF
      have Hm := hid hm
      have Hp := hid hp
      clear hF hm hp
      go_upto_region 10 with (fail)
      go_cut [63] (fun s63 wc => (∃ t, s63 = .bool t ∧ (t = true → 0 < i)) ∧ wr = wc)
      case first =>
        cases pk with
        | false =>
          go_wp2
          go_meet
          case rel => exact ⟨⟨_, rfl, fun h => by cases h⟩, rfl⟩
        | true =>
          go_wp2
          go_meet
          case rel => exact ⟨⟨_, rfl, fun h => by simpa using h⟩, rfl⟩
      case rest =>
      obtain ⟨⟨t, ht, hti⟩, hw⟩ := hcut
      subst ht hw
      have Hti := hid hti
      clear hti
      go_upto_if 63 with (fail)
      go_cut [14] (fun s14 wc' => ∃ qs, s14 = .string qs ∧ wr = wc')
      case first =>
        cases t with
        | false =>
          go_wp2
          go_meet
          case rel => exact ⟨_, rfl, rfl⟩
        | true =>
          have hz := Hti.out rfl
          obtain rfl := HA.out (by omega)
          have hp0 : (0 : Int) < (i : Int) := by omega
          have ht : (qi % (i : Int)).toNat < i := by have := Int.emod_lt_of_pos qi hp0; have := Int.emod_nonneg qi (show (i : Int) ≠ 0 by omega); omega
          have ht1 := Int.emod_lt_of_pos qi hp0
          have ht2 := Int.emod_nonneg qi (show (i : Int) ≠ 0 by omega)
          have c0 := HF.out.cell (HE.out.n _ ht) (by have := World.block_lt_of_cell? _ _ (HE.out.n _ ht); simp at this ⊢; omega)
          go_wp2
          go_meet
          case rel => exact ⟨_, rfl, rfl⟩
      case rest =>
        obtain ⟨q, hq, hw⟩ := hcut
        subst hq hw
        go_wp2_with (go_at_call 5; refine (kind_any _ _ k0 k1).mono ?_; rintro e w' ⟨rfl, rfl⟩)
        refine (decided_all Hm.out Hp.out q (kindS qk)).mono ?_
        rintro e w1 ⟨da, dn, dc, ds, okb, rfl, hans, F1⟩
        have HANS := hid hans
        have hm1 := Hm.out.fr F1 (fun h => h)
        have hF1 := HF.out.trans' F1 (fun _ _ h => h.elim)
        obtain ⟨x17, xf17, xu, hmlt⟩ := lock_facts hm1
        have HXU := hid xu
        have HF1 := hid hF1
        clear hans F1 hm1 hF1 xu
        go_wp2_with (first
          | (go_at_call 7; refine (try_any _ _ (x17 _) (xf17 _)).mono ?_; rintro e w' ⟨rfl, rfl⟩)
          | (go_at_call 8; refine (HXU.out _).mono ?_; rintro e w3 ⟨rfl, hd3, hF3⟩))
        have HX := hid (HF1.out.trans' hF3 (fun k _ h => by omega))
        have hd : ∀ j, w3.cell? ⟨w1.heap.size, j, none⟩ = #[.bool false, .int .u8 0, .int .i64 0, .slice da dn dc, .slice none 0 0, .int .i64 0, .int .i64 0, .int .i64 ds, .int .i64 0, .int .i64 0, .int .i64 0, .int .i64 0, .bool false][j]? := fun j => cellOf hd3 j
        clear hd3 hF3 x17 xf17 HXU HF1
        go_loopg [18, 19] i (fun n s18 s19 wr2 => ∃ t : Nat, t ≤ i ∧ n = i - t ∧ s19 = .int .i64 t ∧ s18 = .int .i64 (lastI N q t) ∧ w3 = wr2)
        case atStart => exact ⟨0, by omega, by omega, rfl, rfl, rfl⟩
        case round =>
          obtain ⟨t', ht', hn', rfl, rfl, rfl⟩ := hrel
          by_cases hlt' : t' < i
          · obtain rfl := HA.out (by omega)
            have c0 := HX.out.cell (HE.out.n t' hlt') (by have := World.block_lt_of_cell? _ _ (HE.out.n t' hlt'); simp at this ⊢; omega)
            by_cases hNq : N t' = q
            · have hbq : ((N t').toList == q.toList) = true := by rw [hNq]; simp
              have HL := hid (lastI_hit hNq)
              clear hNq
              go_wp2
              go_roundg (i - (t' + 1))
              case measure => omega
              case rel => exact ⟨t' + 1, by omega, rfl, by go_num, by rw [HL.out], rfl⟩
            · have hbq := toList_ne hNq
              have HL := hid (lastI_miss hNq)
              clear hNq
              go_wp2
              go_roundg (i - (t' + 1))
              case measure => omega
              case rel => exact ⟨t' + 1, by omega, rfl, by go_num, by rw [HL.out], rfl⟩
          · obtain rfl : t' = i := by omega
            have HB := hid (HX.out.below (Nat.le_refl _) (fun k hk h => by omega))
            rcases HANS.out with ⟨j, hj, hl, hD, hk, rfl, rfl, rfl, rfl, rfl⟩ | ⟨rfl, rfl, rfl, rfl, rfl, hl | ⟨j, hj, hl, hD | ⟨hD, hk⟩⟩⟩
            · obtain rfl := HA.out (by omega)
              have cf := cells_at HE.out HX.out hj
              obtain ⟨c1, c2, c3, c4⟩ := cf
              rw [hD] at c1
              have hkb := HE.out.kb j hj
              have hbk : ((kindS (K j)).toList == (kindS qk).toList) = true := by rw [hk]; simp
              obtain ⟨_, sx, hsx⟩ := HE.out.vo j hj
              have hcv : ∀ n, (convert 26 9 (.slice (A j) (L j) (C j))).run Yba.prog (w3.drewN n) = .ok (.string sx) (w3.drewN n) := fun n => hsx _ (HB.out.trans ⟨rfl, rfl, rfl, Nat.le_refl _, fun _ _ => rfl⟩)
              have Hcv := hid hcv
              have hi1 : (j : Int) < (t' : Int) := by omega
              simp only [hl]
              clear hl hk hD hsx hcv
              go_wp2_with (go_at_call 5; refine (kind_any _ _ hkb.1 hkb.2).mono ?_; rintro e w' ⟨rfl, rfl⟩)
              go_quiet ((go_at_call 9; exact Calls.quiet_of_same (equal_same _ _ _ _ sx (Hcv.out _))))
              go_wp2
              go_ret
              exact ⟨rfl, HB.out.trans ⟨rfl, rfl, rfl, Nat.le_refl _, fun _ _ => rfl⟩⟩
            · simp only [hl]
              clear hl
              go_wp2
              go_ret
              exact ⟨rfl, HB.out⟩
            · obtain rfl := HA.out (by omega)
              obtain ⟨c1, c2, c3, c4⟩ := cells_at HE.out HX.out hj
              rw [hD] at c1
              have hi1 : (j : Int) < (t' : Int) := by omega
              simp only [hl]
              clear hl hD
              go_wp2
              go_ret
              exact ⟨rfl, HB.out⟩
            · obtain rfl := HA.out (by omega)
              obtain ⟨c1, c2, c3, c4⟩ := cells_at HE.out HX.out hj
              rw [hD] at c1
              have hkb := HE.out.kb j hj
              have hbk := toList_ne hk
              have hi1 : (j : Int) < (t' : Int) := by omega
              simp only [hl]
              clear hl hk hD
              go_wp2_with (go_at_call 5; refine (kind_any _ _ hkb.1 hkb.2).mono ?_; rintro e w' ⟨rfl, rfl⟩)
              go_ret
              exact ⟨rfl, HB.out⟩

end Go.Proofs.Ybulkabaq
