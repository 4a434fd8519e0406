import Derived.Test.YbulkabbeSf
namespace Go.Proofs.Ybulkabbe
open Go.RowKit
set_option linter.unusedVariables false
attribute [local go_sem] eql25 drewN_alloc drewN_setCell
attribute [local go_sem ↓] Go.wp_at_zero Go.wp_at_succ

/-- What the walk is told of the frames that came in. -/
structure Fra (w : World) (b off len : Nat) (Q : Nat → Int) (T : Nat → Bool) : Prop where
  a : ∀ i, i < len → w.cell? ⟨b, off + i * 2, none⟩ = some (.int .u16 (Q i))
  t : ∀ i, i < len → w.cell? ⟨b, off + i * 2 + 1, none⟩ = some (.bool (T i))
  ab : ∀ i, 0 ≤ Q i ∧ Q i ≤ 65535

def PQ (Q : Nat → Int) (sz : Nat) (i : Nat) : Nat := (Q i % ((sz : Int) + 1)).toNat
theorem PQ_le (Q : Nat → Int) (sz i : Nat) : PQ Q sz i ≤ sz := by
  unfold PQ
  have h1 := Int.emod_lt_of_pos (Q i) (show (0 : Int) < (sz : Int) + 1 by omega)
  omega
theorem PQ_eq (Q : Nat → Int) (sz i : Nat) : Q i % ((sz : Int) + 1) = ((PQ Q sz i : Nat) : Int) := by
  unfold PQ
  have h1 := Int.emod_nonneg (Q i) (show (sz : Int) + 1 ≠ 0 by omega)
  omega

theorem wpList_built {P : Program} {w : World} {ops : Array Oper} {rest : List Oper} {o : Oper} {a : Act} {Q : Exit → Act → World → Prop} (hgd : o.guard = none) (t : TypeId) (parts : Array (Nat × Operand)) (ho : o.op = .build t parts) (c : Array Value) (vs : List (Nat × Value))
    (hv : (parts.map fun (i, x) => (i, a.eval x)).toList = vs) (hf : P.built t vs = some c) (h : wpList P ops Q rest (a.put o.dst (.agg c)) w) : wpList P ops Q (o :: rest) a w := by
  refine wpList_build hgd t parts ho (by rw [hv, hf]; rfl) ?_
  rw [hv, hf]
  exact h

theorem row_at {W : World} {l : List Value} {t : TypeId} {B : Nat} (hB : W.heap.size = B) : ∀ j u, l[j]? = some u → (W.alloc (.cells l.toArray t)).cell? ((⟨B, 0, none⟩ : Addr).add j) = some u := by
  intro j u hj
  subst hB
  have hadd : (⟨W.heap.size, 0, none⟩ : Addr).add j = ⟨W.heap.size, j, none⟩ := by unfold Addr.add; split <;> simp_all
  rw [hadd, World.cell?_alloc_new]
  simpa using hj

theorem hown_lt {w : World} {B e size g n cap : Nat} {xs : List Value} (h : w.ownsRow B e size (.slice (some ⟨g, 0, none⟩) n cap) n xs) : g < w.heap.size := by
  obtain ⟨c, h, _⟩ := owns_form h (k := g) rfl
  exact obj_lt h
theorem after_app {wr w1 : World} {x y : Value} {o : Obj} {g : Nat} (hg : g < wr.heap.size) (h : ((wr.alloc (.cells #[x, y] 67)).alloc o).grownBy w1 (some g)) : w1.cell? ⟨wr.heap.size, 1, none⟩ = some y ∧ Fr (· = g) wr w1 := by
  have F : Fr (· = g) ((wr.alloc (.cells #[x, y] 67)).alloc o) w1 := Fr.ofGrown h (fun k hk => by cases hk; rfl)
  refine ⟨?_, (((Fr.refl (· = g) wr).alloc _).alloc _).trans F⟩
  have h1 : ((wr.alloc (.cells #[x, y] 67)).alloc o).heap[wr.heap.size]? = some (.cells #[x, y] 67 (0, 0)) := by
    rw [Below.heap_alloc _ _ _ (by simp)]; exact heap_alloc_new wr _
  exact cellOf (F.obj h1 (by omega)) 1

theorem row_start (w : World) (sz len : Nat) (P : Nat → Nat) (T : Nat → Bool) (hl : len ≤ 256) : ((w.alloc (.cells (zrow sz) 5)).alloc (.cells (z40 (len + 1)) 59)).ownsRow w.heap.size 59 8 (.slice (some ⟨w.heap.size + 1, 0, none⟩) 1 (len + 1)) 1 (stk P T 0) := by
  have h := heap_alloc_new (w.alloc (.cells (zrow sz) 5)) (.cells (z40 (len + 1)) 59)
  rw [World.size_alloc] at h
  refine ⟨rfl, .inr ⟨w.heap.size + 1, len + 1, z40 (len + 1), rfl, by omega, h, by omega, by unfold maxLen; omega, z40_size _, ?_⟩⟩
  apply List.ext_getElem?
  intro j
  rw [List.getElem?_take]
  by_cases hj : j < 8
  · rw [if_pos (by omega)]
    have := z40_get len j hj
    rw [Array.getElem?_toList, this]
    match j, hj with
    | 0, _ => rfl
    | 1, _ => rfl
    | 2, _ => rfl
    | 3, _ => rfl
    | 4, _ => rfl
    | 5, _ => rfl
    | 6, _ => rfl
    | 7, _ => rfl
  · rw [if_neg (by omega)]
    have : (stk P T 0).length = 8 := rfl
    rw [List.getElem?_eq_none (by omega)]

theorem end_start {w wr : World} {k sz cap : Nat} {P : Nat → Nat} {T : Nat → Bool} {pos : Int} {src : Option Addr} {o2 o3 : Obj} {c39 c54 : Array Value} {lex whole items last lists trials arith ends looks : Value}
    (hown : wr.ownsRow w.heap.size 59 8 (.slice (some ⟨w.heap.size + 1, 0, none⟩) (k + 1) cap) (k + 1) (stk P T k)) (hF : Fr (fun k => w.heap.size ≤ k) w wr)
    (hb : c54[0]? = some lex ∧ c54[1]? = some whole ∧ c54[4]? = some items ∧ c54[5]? = some last ∧ c54[6]? = some lists ∧ c54[8]? = some trials ∧ c54[9]? = some arith ∧ c54[10]? = some ends ∧ c54[1803]? = some looks)
    (h0 : c39[0]? = some (.slice src sz sz)) (h1 : c39[1]? = some (.int .i64 pos)) :
    Lx ((((wr.alloc (.cells c39 39)).alloc o2).alloc o3).alloc (.cells c54 54)) (wr.heap.size + 1 + 1 + 1) lex whole items last lists trials arith ends looks ∧
    LbOk ((((wr.alloc (.cells c39 39)).alloc o2).alloc o3).alloc (.cells c54 54)) wr.heap.size sz src pos ∧ FrOk ((((wr.alloc (.cells c39 39)).alloc o2).alloc o3).alloc (.cells c54 54)) (w.heap.size + 1) k P T ∧
    Fr (fun k => w.heap.size ≤ k) w ((((wr.alloc (.cells c39 39)).alloc o2).alloc o3).alloc (.cells c54 54)) := by
  have F : Fr (fun _ => False) wr ((((wr.alloc (.cells c39 39)).alloc o2).alloc o3).alloc (.cells c54 54)) := ((((Fr.refl _ wr).alloc _).alloc _).alloc _).alloc _
  refine ⟨⟨c54, ?_, hb⟩, ⟨c39, ?_, h0, h1⟩, (frOk_of hown).1.fr F (fun h => h), hF.trans' F (fun _ _ h => h.elim)⟩
  · have h := heap_alloc_new (((wr.alloc (.cells c39 39)).alloc o2).alloc o3) (.cells c54 54)
    simpa only [World.size_alloc] using h
  · rw [Below.heap_alloc _ _ _ (by simp; omega), Below.heap_alloc _ _ _ (by simp; omega), Below.heap_alloc _ _ _ (by simp)]
    exact heap_alloc_new wr _

set_option maxRecDepth 100000 in
set_option maxHeartbeats 2000000 in
theorem settle_law (w : World) (a : Option Addr) (len cap b off : Nat) (Q : Nat → Int) (T : Nat → Bool) (n0 pos looks e0 : Int) (sz ne : Nat)
    (hl : len ≤ 256) (hA : 0 < len → a = some ⟨b, off, none⟩) (hE : Fra w b off len Q T) (hsz : n0 % 1025 = sz) (hne : e0 % 4 = ne) (n00 : 0 ≤ n0) (n01 : n0 ≤ 65535) (e00 : 0 ≤ e0) (e01 : e0 ≤ 255) :
    Calls Yba.prog 4 #[.int .u16 n0, .slice a len cap, .int .i64 pos, .int .i64 looks, .int .u8 e0] w fun e w' => e = .returned (.bool true) ∧ Below w.heap.size w w' := by
  have HE := hid hE
  have HA := hid hA
  have hsz1 : sz ≤ 1024 := by omega
  have hne1 : ne ≤ 3 := by omega
  clear hE hA
  have hmk1 : ∀ W : World, (Instr.makeSlice 25 (.int .i64 (sz : Int)) (.int .i64 (sz : Int))).run Yba.prog W = .ok (.slice (some ⟨W.heap.size, 0, none⟩) sz sz) (W.alloc (.cells (zrow sz) 5)) := fun W => make25 W sz (by omega)
  have hmk2 : ∀ W : World, (Instr.makeSlice 40 (.int .i64 1) (.int .i64 ((len : Int) + 1))).run Yba.prog W = .ok (.slice (some ⟨W.heap.size, 0, none⟩) 1 (len + 1)) (W.alloc (.cells (z40 (len + 1)) 59)) := fun W => make40 W len (by omega)
  have g0 := z40_get len 0 (by omega)
  have g1 := z40_get len 1 (by omega)
  have g2 := z40_get len 2 (by omega)
  have g3 := z40_get len 3 (by omega)
  have g4 := z40_get len 4 (by omega)
  have g5 := z40_get len 5 (by omega)
  have g6 := z40_get len 6 (by omega)
  have g7 := z40_get len 7 (by omega)
  rw [show zc59[0]? = some (.int .u8 0) from rfl] at g0
  rw [show zc59[1]? = some (.int .i64 0) from rfl] at g1
  rw [show zc59[2]? = some (.int .i64 0) from rfl] at g2
  rw [show zc59[3]? = some (.int .i64 0) from rfl] at g3
  rw [show zc59[4]? = some (.bool false) from rfl] at g4
  rw [show zc59[5]? = some (.bool false) from rfl] at g5
  rw [show zc59[6]? = some (.bool false) from rfl] at g6
  rw [show zc59[7]? = some (.bool false) from rfl] at g7
  have s0 := set_id g0
  have s1 := set_id g1
  have s2 := set_id g2
  have s3 := set_id g3
  have s4 := set_id g4
  have s5 := set_id g5
  have s6 := set_id g6
  have s7 := set_id g7
  go_enter Yba.func4, Yba.ntmps4
  go_wp2_with fail
  simp only [hsz]
  have how0 : ((w.alloc (.cells (zrow sz) 5)).alloc (.cells (z40 (len + 1)) 59)).ownsRow w.heap.size 59 8 (.slice (some ⟨w.heap.size + 1, 0, none⟩) 1 (len + 1)) 1 (stk (PQ Q sz) T 0) := row_start w sz len (PQ Q sz) T hl
  clear hsz n00 n01 g0 g1 g2 g3 g4 g5 g6 g7 s0 s1 s2 s3 s4 s5 s6 s7 hmk1 hmk2
  obtain ⟨i59, hi, hz0, hz1, hz2⟩ := info_parts Yba.info59
  go_loopg [13, 14, 15, 16, 48] len (fun n s13 s14 s15 s16 s48 wr => ∃ k : Nat, k ≤ len ∧ n = len - k ∧ s48 = .int .i64 k ∧ s13 = .slice (some ⟨w.heap.size + 1, 0, none⟩) (k + 1) (len + 1) ∧ s14 = .int .i64 (cnt T k) ∧ s15 = .int .i64 (firstI T k) ∧ s16 = .int .i64 (fAtI T (PQ Q sz) k) ∧
    wr.ownsRow w.heap.size 59 8 (.slice (some ⟨w.heap.size + 1, 0, none⟩) (k + 1) (len + 1)) (k + 1) (stk (PQ Q sz) T k) ∧ Fr (fun k => w.heap.size ≤ k) w wr ∧ wr.heap[w.heap.size]? = some (.cells (zrow sz) 5 (0, 0)))
  case atStart => exact ⟨0, by omega, by omega, rfl, rfl, rfl, rfl, rfl, how0, ((Fr.refl _ w).alloc _).alloc _, by rw [Below.heap_alloc _ _ _ (by simp)]; exact heap_alloc_new w _⟩
  case round =>
    clear how0
    obtain ⟨k, hk, hn, rfl, rfl, rfl, rfl, rfl, hown, hF, hsr⟩ := hrel
    by_cases hlt : k < len
    · obtain rfl := HA.out (by omega)
      have HFs := hid (And.intro hF hsr)
      have hbb := World.block_lt_of_cell? _ _ (HE.out.a k hlt)
      have c0 := hF.cell (HE.out.a k hlt) (by simp at hbb ⊢; omega)
      have c1 := hF.cell (HE.out.t k hlt) (by simp at hbb ⊢; omega)
      have hq := PQ_eq Q sz k
      have hQ := HE.out.ab k
      have hfr := firstI_range T k
      have hcl := cnt_le T k
      have hws : w.heap.size ≤ wr.heap.size := hF.size
      have hgt := hown_lt hown
      clear hF hsr
      cases hT : T k with
      | false =>
        rw [hT] at c1
        have HT := hid hT
        clear hT
        go_wp2_with (at_builtin; refine wpList_append_fits _ rfl (.tmp 59) (.tmp 64) 40 rfl w.heap.size 59 i59 8 Yba.underlying40 hi hz1 (w.heap.size + 1) (k + 1) (len + 1) (stk (PQ Q sz) T k) (by rfl) ((hown.alloc _).alloc _) ⟨wr.heap.size + 1, 0, none⟩ 1 1 (frCells (PQ Q sz k) false) (by rfl) rfl (row_at (by simp)) (by simp [frCells, Value.oneCell']) (by omega) ?_; intro w1 how1 hgr1; have d1 := (after_app hgt hgr1).1)
        have hF := HFs.out.1
        have hsr := HFs.out.2
        have hF1 := (after_app hgt hgr1).2
        have hF' := hid (hF.trans' hF1 (fun i _ h => by omega))
        have hsr' := hid (hF1.obj hsr (by omega))
        have how' : Hid (w1.ownsRow w.heap.size 59 8 (.slice (some ⟨w.heap.size + 1, 0, none⟩) (k + 1 + 1) (len + 1)) (k + 1 + 1) (stk (PQ Q sz) T (k + 1))) := by unfold Hid; rw [stk, HT.out]; exact how1
        have e1 := hid (show firstI T (k + 1) = _ from firstI_old (fun h => by rw [HT.out] at h; exact absurd h.1 (by simp)))
        have e2 := hid (show fAtI T (PQ Q sz) (k + 1) = _ from fAtI_old (fun h => by rw [HT.out] at h; exact absurd h.1 (by simp)))
        have e3 : Hid (cnt T (k + 1) = cnt T k) := by simp [cnt, HT.out, Hid]
        clear hF hsr hF1 HFs how1 hgr1 d1 c0 c1 hown hq
        go_roundg (len - (k + 1))
        case measure => omega
        case rel => exact ⟨k + 1, by omega, rfl, by go_num, rfl, by rw [e3.out], by rw [e1.out], by rw [e2.out], how'.out, hF'.out, hsr'.out⟩
      | true =>
        rw [hT] at c1
        have HT := hid hT
        clear hT
        by_cases hneg : firstI T k < 0
        · go_wp2_with (at_builtin; refine wpList_append_fits _ rfl (.tmp 59) (.tmp 64) 40 rfl w.heap.size 59 i59 8 Yba.underlying40 hi hz1 (w.heap.size + 1) (k + 1) (len + 1) (stk (PQ Q sz) T k) (by rfl) ((hown.alloc _).alloc _) ⟨wr.heap.size + 1, 0, none⟩ 1 1 (frCells (PQ Q sz k) true) (by rfl) rfl (row_at (by simp)) (by simp [frCells, Value.oneCell']) (by omega) ?_; intro w1 how1 hgr1; have d1 := (after_app hgt hgr1).1)
          have hF := HFs.out.1
          have hsr := HFs.out.2
          have hF1 := (after_app hgt hgr1).2
          have hF' := hid (hF.trans' hF1 (fun i _ h => by omega))
          have hsr' := hid (hF1.obj hsr (by omega))
          have how' : Hid (w1.ownsRow w.heap.size 59 8 (.slice (some ⟨w.heap.size + 1, 0, none⟩) (k + 1 + 1) (len + 1)) (k + 1 + 1) (stk (PQ Q sz) T (k + 1))) := by unfold Hid; rw [stk, HT.out]; exact how1
          have e1 := hid (show firstI T (k + 1) = _ from firstI_new HT.out hneg)
          have e2 := hid (show fAtI T (PQ Q sz) (k + 1) = _ from fAtI_new HT.out hneg)
          have e3 : Hid (cnt T (k + 1) = cnt T k + 1) := by simp [cnt, HT.out, Hid]
          clear hF hsr hF1 HFs how1 hgr1 d1 c0 c1 hown hq
          go_roundg (len - (k + 1))
          case measure => omega
          case rel => exact ⟨k + 1, by omega, rfl, by go_num, rfl, by rw [e3.out]; go_num, by rw [e1.out], by rw [e2.out], how'.out, hF'.out, hsr'.out⟩
        · go_wp2_with (at_builtin; refine wpList_append_fits _ rfl (.tmp 59) (.tmp 64) 40 rfl w.heap.size 59 i59 8 Yba.underlying40 hi hz1 (w.heap.size + 1) (k + 1) (len + 1) (stk (PQ Q sz) T k) (by rfl) ((hown.alloc _).alloc _) ⟨wr.heap.size + 1, 0, none⟩ 1 1 (frCells (PQ Q sz k) true) (by rfl) rfl (row_at (by simp)) (by simp [frCells, Value.oneCell']) (by omega) ?_; intro w1 how1 hgr1; have d1 := (after_app hgt hgr1).1)
          have hF := HFs.out.1
          have hsr := HFs.out.2
          have hF1 := (after_app hgt hgr1).2
          have hF' := hid (hF.trans' hF1 (fun i _ h => by omega))
          have hsr' := hid (hF1.obj hsr (by omega))
          have how' : Hid (w1.ownsRow w.heap.size 59 8 (.slice (some ⟨w.heap.size + 1, 0, none⟩) (k + 1 + 1) (len + 1)) (k + 1 + 1) (stk (PQ Q sz) T (k + 1))) := by unfold Hid; rw [stk, HT.out]; exact how1
          have e1 := hid (show firstI T (k + 1) = _ from firstI_old (fun h => by have := h.2; omega))
          have e2 := hid (show fAtI T (PQ Q sz) (k + 1) = _ from fAtI_old (fun h => by have := h.2; omega))
          have e3 : Hid (cnt T (k + 1) = cnt T k + 1) := by simp [cnt, HT.out, Hid]
          clear hF hsr hF1 HFs how1 hgr1 d1 c0 c1 hown hq
          go_roundg (len - (k + 1))
          case measure => omega
          case rel => exact ⟨k + 1, by omega, rfl, by go_num, rfl, by rw [e3.out]; go_num, by rw [e1.out], by rw [e2.out], how'.out, hF'.out, hsr'.out⟩
    · obtain rfl : k = len := by omega
      have hmk3 : ∀ W : World, (Instr.makeSlice 46 (.int .i64 (ne : Int)) (.int .i64 (ne : Int))).run Yba.prog W = .ok (.slice (some ⟨W.heap.size, 0, none⟩) ne ne) (W.alloc (.cells (z46 ne) 49)) := fun W => make46 W ne (by omega)
      obtain ⟨c54, hc54, b0, b1, b4, b5, b6, b8, b9, b10, b1803⟩ := built54 ⟨wr.heap.size, 0, none⟩ .nilIface .nilIface .nilIface (cnt T k) looks (some ⟨w.heap.size + 1, 0, none⟩) (some ⟨wr.heap.size + 1 + 1, 0, none⟩) (some ⟨wr.heap.size + 1, 0, none⟩) (k + 1) (k + 1) 2 2 ne ne
      have HB54 := hid (And.intro b0 (And.intro b1 (And.intro b4 (And.intro b5 (And.intro b6 (And.intro b8 (And.intro b9 (And.intro b10 b1803))))))))
      have HO := hid (And.intro hown (And.intro hF hsr))
      clear hown hF hsr b0 b1 b4 b5 b6 b8 b9 b10 b1803
      have HC := hid hc54
      clear hc54
      go_wp2_with (refine wpList_built (o := { dst := some 89, op := _, type := _, pos := _, after := _, guard := none }) rfl 54 #[(0, .tmp 78), (1, .tmp 80), (3, .tmp 81), (5, .tmp 85), (2, .tmp 87), (7, .tmp 88)] rfl c54 _ (by simp [Act.eval]) HC.out ?_)
      obtain ⟨hown, hF, hsr⟩ := HO.out
      have hlw : w.heap.size < wr.heap.size := by have := hown_lt hown; omega
      obtain ⟨hLx, hLb, hFr, hFw⟩ := end_start (o2 := .cells (z46 ne) 49) (o3 := .cells #[.int .u8 1, .int .u8 2] 5) hown hF HB54.out rfl rfl (c39 := #[.slice (some ⟨w.heap.size, 0, none⟩) sz sz, .int .i64 pos, .slice none 0 0, .int .i64 0, .int .i64 0, .nilFunc, .int .i64 0, .int .i64 0, .int .i64 0, .string ⟨#[]⟩, .string ⟨#[]⟩, .string ⟨#[]⟩, .bool false, .slice none 0 0, .slice none 0 0, .int .i64 0, .slice none 0 0, .bool false, .int .i64 0, .int .i64 0, .int .i64 0, .int .i64 0])
      refine (endTrials_any w.heap.size (wr.heap.size + 1 + 1 + 1) wr.heap.size (w.heap.size + 1) k (k + 1) sz _ pos looks _ _ _ _ _ _ T (PQ Q sz) _ hl (Nat.le_refl _) (by omega) hsz1 (fun i _ => PQ_le Q sz i) hLx hLb hFr (by omega) (by omega) (by omega) (by simp; omega)).mono ?_
      rintro e w1 ⟨rfl, hpost⟩
      have hFw1 : Fr (fun k => w.heap.size ≤ k) w w1 := by obtain ⟨_, _, _, _, _, _, _, _, _, h⟩ := hpost; exact hFw.trans h
      obtain ⟨kk, arith, hkk, hc0, hclast, hL1, hA1, hB1, hG1, _⟩ := hpost
      clear hown hF hsr hLx hLb hFr hFw HO HB54 HC
      generalize wr.heap.size + 1 + 1 + 1 = SB at hL1 ⊢
      generalize wr.heap.size = LB at hL1 hB1 hlw
      have r0 := hL1.c0
      have r1 := hL1.c1
      have r4 := hL1.c4
      have r6 := hL1.c6
      have r8 := hL1.c8
      have r10 := hL1.c10
      have r18 := hL1.c1803
      have rp : w1.cell? ⟨LB, 1, none⟩ = some (.int .i64 (posB k T (PQ Q sz) pos kk)) := by obtain ⟨c, h, _, h1⟩ := hB1; exact (cellOf h 1).trans h1
      have rz : w1.cell? ⟨w.heap.size + 1, 0, none⟩ = some (.int .u8 0) := by obtain ⟨c, h, h1, _⟩ := hG1; exact (cellOf h 0).trans h1
      have HX := hid (And.intro hL1 (And.intro hA1 (And.intro hG1 hFw1)))
      have HEF := hid (end_facts (P := PQ Q sz) (pos := pos) hkk hc0 hclast)
      have HC0 := hid hc0
      clear hL1 hA1 hB1 hG1 hFw1 hc0 hclast
      go_upto_if 136 with (fail)
      go_cut [21, 22] (fun s21 s22 wc => s21 = .int .i64 ((k - kk : Nat) + 1 : Int) ∧ s22 = .int .i64 (posB k T (PQ Q sz) pos kk) ∧ w1 = wc)
      case first =>
        rcases HEF.out with ⟨h1, h2, h3, _⟩ | ⟨h1, h2, h3, _⟩
        · have hneg : firstI T k < 0 := by omega
          have H3 := hid h3
          clear h2 h3
          go_wp2
          go_meet
          case rel => exact ⟨by subst h1; rfl, by rw [H3.out], rfl⟩
        · have hneg : 0 ≤ firstI T k := by omega
          have hrg := firstI_range T k
          have H2 := hid h2
          have H3 := hid h3
          clear h2 h3
          go_wp2
          go_meet
          case rel => exact ⟨by rw [H2.out], by rw [H3.out], rfl⟩
      case rest =>
        obtain ⟨h21, h22, hw⟩ := hcut
        subst h21 h22 hw
        have hkb : k - kk ≤ 256 := by omega
        go_wp2
        go_loopg [23] (k - kk) (fun n s23 wr => ∃ j : Nat, j ≤ k - kk ∧ n = k - kk - j ∧ s23 = .int .i64 ((j : Int) + 1) ∧ Fr (fun _ => False) w1 wr)
        case atStart => exact ⟨0, by omega, by omega, rfl, Fr.refl _ _⟩
        case round =>
          obtain ⟨j, hj, hn', rfl, hFj⟩ := hrel
          have t1 := hFj.cell r1 (fun h => h)
          by_cases hjl : j < k - kk
          · obtain rfl := HA.out (by omega)
            have hjk : j < k := by omega
            have hcs := (HX.out.2.2.1.fr hFj (fun h => h)).cells hjk
            have q0 := hcs 0 _ rfl
            have q1 := hcs 1 _ rfl
            have q2 := hcs 2 _ rfl
            have q3 := hcs 3 _ rfl
            have q4 := hcs 4 _ rfl
            have q5 := hcs 5 _ rfl
            have q6 := hcs 6 _ rfl
            have q7 := hcs 7 _ rfl
            simp only [Nat.add_zero] at q0
            have hbb := World.block_lt_of_cell? _ _ (HE.out.a j hjk)
            have hFe := HX.out.2.2.2.trans' hFj (fun _ _ h => h.elim)
            have u0 := hFe.cell (HE.out.a j hjk) (by simp at hbb ⊢; omega)
            have u1 := hFe.cell (HE.out.t j hjk) (by simp at hbb ⊢; omega)
            have u0a : ∀ o, (wr.alloc o).cell? ⟨b, off + j * 2, none⟩ = some (.int .u16 (Q j)) := fun o => Lib.cell?_alloc_some o u0
            have u1a : ∀ o, (wr.alloc o).cell? ⟨b, off + j * 2 + 1, none⟩ = some (.bool (T j)) := fun o => Lib.cell?_alloc_some o u1
            have hQ := HE.out.ab j
            have hq := PQ_eq Q sz j
            have hPl := PQ_le Q sz j
            have hi1 : (j : Int) < (k : Int) := by omega
            have hi2 : (j : Int) + 1 < ((k - kk : Nat) : Int) + 1 := by omega
            clear hcs hFe
            go_wp2
            go_quiet (fail)
            go_wp2
            go_roundg (k - kk - (j + 1))
            case measure => omega
            case rel => exact ⟨j + 1, by omega, rfl, by go_num, hFj.trans (frame_q _ _ _)⟩
          · obtain rfl : j = k - kk := by omega
            clear t1 hj hn' hjl hn hk hlt
            have HFj := hid hFj
            clear hFj
            go_wp2
            go_loopg [25] (sz + 1) (fun n s25 wq => ∃ p : Nat, p ≤ sz + 1 ∧ n = sz + 1 - p ∧ s25 = .int .i64 (p : Int) ∧ Fr (fun _ => False) w1 wq)
            case atStart => exact ⟨0, by omega, by omega, rfl, HFj.out⟩
            case round =>
              clear HFj
              obtain ⟨p, hp, hn3, rfl, hFp⟩ := hrel
              by_cases hps : p < sz + 1
              · have hps' : p ≤ sz := by omega
                have hps2 : (p : Int) ≤ (sz : Int) := by omega
                go_wp2
                go_loopg [26, 212] k (fun n s26 s212 wq => ∃ t : Nat, t ≤ k ∧ n = k - t ∧ s26 = .bool false ∧ s212 = .int .i64 (t : Int) ∧ wantI T (PQ Q sz) p t = false ∧ Fr (fun _ => False) w1 wq)
                case atStart => exact ⟨0, by omega, by omega, rfl, rfl, rfl, hFp⟩
                case round =>
                  clear hFp
                  obtain ⟨t, ht, hn4, rfl, rfl, hwant, hFt⟩ := hrel
                  have HW := hid hwant
                  have HFt := hid hFt
                  clear hwant
                  by_cases htk : t < k
                  · obtain rfl := HA.out (by omega)
                    have hbb := World.block_lt_of_cell? _ _ (HE.out.a t htk)
                    have hFe := HX.out.2.2.2.trans' hFt (fun _ _ h => h.elim)
                    have u0 := hFe.cell (HE.out.a t htk) (by simp at hbb ⊢; omega)
                    have u1 := hFe.cell (HE.out.t t htk) (by simp at hbb ⊢; omega)
                    have hQ := HE.out.ab t
                    have hq := PQ_eq Q sz t
                    have hPl := PQ_le Q sz t
                    clear hFe hFt
                    cases hT : T t with
                    | false =>
                      rw [hT] at u1
                      have HT := hid hT
                      clear hT
                      go_wp2
                      go_roundg (k - (t + 1))
                      case measure => omega
                      case rel => exact ⟨t + 1, by omega, rfl, rfl, by go_num, by rw [wantI, HW.out, HT.out]; rfl, HFt.out.alloc _⟩
                    | true =>
                      rw [hT] at u1
                      have HT := hid hT
                      clear hT
                      by_cases hpt : PQ Q sz t = p
                      · have hpz : Q t % ((sz : Int) + 1) = (p : Int) := by rw [hq, hpt]
                        have hnr : 0 ≤ Q t := hQ.1
                        have HN := hid hn4
                        have hw' : Hid (wantI T (PQ Q sz) p k = true) := (wantI_iff _ _ _ _).2 ⟨t, htk, HT.out, hpt⟩
                        clear hq hPl hpt
                        go_wp2_with fail
                        have hF2 := HFt.out.alloc (.cells #[Value.int IntKind.u16 (Q t), Value.bool true] 67)
                        refine (decision_any (HX.out.1.fr hF2 (fun h => h)) (HX.out.2.1.fr hF2 (fun _ _ _ _ h => h.elim)) hps' hsz1).mono ?_
                        rw [want_hit hkk HC0.out, hw'.out]
                        rintro e w2 ⟨rfl, rfl⟩
                        go_wp2
                        go_roundg (sz + 1 - (p + 1))
                        case measure => omega
                        case rel => exact ⟨p + 1, by omega, rfl, by go_num, hF2⟩
                      · have hpz : ¬ Q t % ((sz : Int) + 1) = (p : Int) := by rw [hq]; omega
                        have hnr : 0 ≤ Q t := hQ.1
                        have HP := hid hpt
                        clear hq hPl hpt
                        go_wp2
                        go_roundg (k - (t + 1))
                        case measure => omega
                        case rel => exact ⟨t + 1, by omega, rfl, rfl, by go_num, by rw [wantI, HW.out, HT.out]; simp [HP.out], HFt.out.alloc _⟩
                  · obtain rfl : t = k := by omega
                    clear hFt
                    go_wp2_with fail
                    refine (decision_any (HX.out.1.fr HFt.out (fun h => h)) (HX.out.2.1.fr HFt.out (fun _ _ _ _ h => h.elim)) hps' hsz1).mono ?_
                    rw [want_hit hkk HC0.out, HW.out]
                    rintro e w2 ⟨rfl, rfl⟩
                    go_wp2
                    go_roundg (sz + 1 - (p + 1))
                    case measure => omega
                    case rel => exact ⟨p + 1, by omega, rfl, by go_num, HFt.out⟩
              · have hpe : ¬ (p : Int) ≤ (sz : Int) := by omega
                have HF := hid (HX.out.2.2.2.trans' hFp (fun _ _ h => h.elim))
                go_wp2
                exact bodyPost_ret (v := .bool true) (by simp [results, Yba.results4, go_sem]) rfl ⟨rfl, HF.out.below (Nat.le_refl _) (fun _ h h' => absurd h' (by omega))⟩

end Go.Proofs.Ybulkabbe
