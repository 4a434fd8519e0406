import Derived.Test.YbulkabaqBe
import Derived.Deep.DeepCutAuto
import Derived.LaidEqlPtr
namespace Go.Proofs.Ybulkabaq
open Go.RowKit
set_option linter.unusedVariables false

theorem Yba.has132 : (Yba.prog.info? 132).isSome = true := by kernel_rfl
theorem neq109 (w : World) (a : Addr) : (binOp .neq 109 (.pointer (some a)) (.pointer (some a))).run Yba.prog w = .ok (.bool false) w := by
  obtain ⟨i, hi⟩ := Option.isSome_iff_exists.1 Yba.has132
  have h : ∀ d : Nat, (Op.equalIn (d + 1) 109 (.pointer (some a)) (.pointer (some a))).run Yba.prog w = .ok true w := fun d => by
    simp [Op.equalIn, run_underlying Yba.underlying109, sizeOf, typeInfo, hi, run_sameAddr_same]
  simp only [binOp]
  simp [Op.equal, Op.maxDepth, h 9999]
attribute [local go_sem] eql26 neq26 neq109

/-- The member in round k of a group that seats nobody. -/
def MemOk (w : World) (m : Nat) (k : Int) : Prop := ∃ mc, w.heap[m]? = some (.cells mc 106 (0, 0)) ∧ mc[0]? = some (.int .i64 0) ∧ mc[1]? = some (.int .i64 0) ∧ mc[2]? = some (.slice none 0 0) ∧ mc[3]? = some (.slice none 0 0) ∧ mc[4]? = some (.int .i64 0) ∧ mc[17]? = some (.int .i64 k)

theorem memOk_mk (w : World) (c : Array Value) (m0 : c[0]? = some (.int .i64 0)) (m1 : c[1]? = some (.int .i64 0)) (m2 : c[2]? = some (.slice none 0 0)) (m3 : c[3]? = some (.slice none 0 0)) (m4 : c[4]? = some (.int .i64 0)) (m17 : c[17]? = some (.int .i64 0)) : MemOk (w.alloc (.cells c 106)) w.heap.size 0 :=
  ⟨c, heap_alloc_new w _, m0, m1, m2, m3, m4, m17⟩

theorem MemOk.fr {S : Nat → Prop} {w w' : World} {m : Nat} {k : Int} (h : MemOk w m k) (F : Fr S w w') (hS : ¬ S m) : MemOk w' m k := by
  obtain ⟨mc, h, r⟩ := h
  exact ⟨mc, F.obj h hS, r⟩

theorem MemOk.settle {w : World} {m k : Nat} (hk : k ≤ 300) (h : MemOk w m k) :
    Calls Yba.prog 10 #[.pointer (some ⟨m, 0, none⟩), .int .i64 k, .slice none 0 0] w fun e w' => e = .returned (.tuple #[]) ∧ MemOk w' m ((k : Int) + 1) ∧ Fr (· = m) w w' := by
  obtain ⟨mc, h, m0, m1, m2, m3, m4, m17⟩ := h
  refine (settle_any w m k hk ((cellOf h 0).trans m0) ((cellOf h 1).trans m1) ((cellOf h 2).trans m2) ((cellOf h 3).trans m3) ((cellOf h 4).trans m4) ((cellOf h 17).trans m17) (freeOf h 17)).mono ?_
  rintro e w' ⟨rfl, rfl⟩
  have h17 : 17 < mc.size := (Array.getElem?_eq_some_iff.1 m17).1
  refine ⟨rfl, ⟨mc.setIfInBounds 17 (.int .i64 (k + 1)), ?_, ?_⟩, ((Fr.setCell (S := (· = m)) (p := ⟨m, 17, none⟩) (Fr.refl _ w) (.inl rfl) _).alloc _).drew⟩
  · have h' := heap_setCell h 17 (.int .i64 (k + 1))
    exact (Below.heap_alloc _ _ _ (by have := obj_lt h; simp; omega)).trans h'
  · simp [h17, m0, m1, m2, m3, m4]

def nilRow (n : Nat) : Array Value := (List.replicate n (Value.pointer none)).toArray

theorem make108 (W : World) (l : Nat) (hl : l < 300) : (Instr.makeSlice 108 (.int .i64 (l : Int)) (.int .i64 (l : Int))).run Yba.prog W = .ok (.slice (some ⟨W.heap.size, 0, none⟩) l l) (W.alloc (.cells (nilRow l) 109)) := by
  obtain ⟨i9, hj, hy0, hy1, hy2⟩ := info_parts Yba.info109
  have h := run_make (P := Yba.prog) W 108 109 i9 (.pointer none) Yba.underlying108 hj hy0 .i64 .i64 l l (by omega) (by omega) (by rw [hy2]; omega) (by omega)
  rw [h, hy1]
  have e : madeCells (Value.pointer none).cells ((l : Int).toNat * 1) = nilRow l := by
    apply Array.ext
    · simp [madeCells, nilRow]
    · intro i h1 h2
      simp [madeCells, nilRow, Value.cells, Nat.mod_one]
  rw [e]
  simp

/-- The row of parties, j of l filled. -/
def PreOk (w : World) (P0 l j : Nat) : Prop := ∃ ps : List Value, ps.length = j ∧ w.heap[P0]? = some (.cells (ps ++ List.replicate (l - j) (Value.pointer none)).toArray 109 (0, 0)) ∧ ∀ p ∈ ps, GoodParty w p

theorem PreOk.cell {w : World} {P0 l j : Nat} (h : PreOk w P0 l j) (hj : j < l) : (∀ o1 o2, ((w.alloc o1).alloc o2).cell? ⟨P0, j, none⟩ = some (.pointer none)) ∧ (∀ o1 o2, ((w.alloc o1).alloc o2).frozen? ⟨P0, j, none⟩ = false) := by
  obtain ⟨ps, hl, hh, _⟩ := h
  refine ⟨fun o1 o2 => cell_a2 ?_ o1 o2, fun o1 o2 => ?_⟩
  · rw [cellOf hh]
    simp only [List.getElem?_toArray]
    rw [List.getElem?_append_right (by omega), List.getElem?_replicate, if_pos (by omega)]
  · have F : Fr (fun _ => False) w ((w.alloc o1).alloc o2) := ((Fr.refl _ w).alloc o1).alloc o2
    exact freeOf (F.obj hh (fun h => h)) j

theorem PreOk.step {w : World} {P0 l j : Nat} {pc : Array Value} (h : PreOk w P0 l j) (hj : j < l) (hpc : pc[9]? = some (.pointer (some ⟨w.heap.size, 0, none⟩))) :
    PreOk (((w.alloc (.cells Yba.zeroCells122 122)).alloc (.cells pc 132)).setCell ⟨P0, j, none⟩ (.pointer (some ⟨w.heap.size + 1, 0, none⟩))) P0 l (j + 1) ∧
    Fr (· = P0) w (((w.alloc (.cells Yba.zeroCells122 122)).alloc (.cells pc 132)).setCell ⟨P0, j, none⟩ (.pointer (some ⟨w.heap.size + 1, 0, none⟩))) := by
  obtain ⟨ps, hl, hh, hg⟩ := h
  have F : Fr (fun _ => False) w ((w.alloc (.cells Yba.zeroCells122 122)).alloc (.cells pc 132)) := ((Fr.refl _ w).alloc _).alloc _
  have hh2 := F.obj hh (fun h => h)
  have p1 : ((w.alloc (.cells Yba.zeroCells122 122)).alloc (.cells pc 132)).heap[w.heap.size + 1]? = some (.cells pc 132 (0, 0)) := by
    simpa using heap_alloc_new (w.alloc (.cells Yba.zeroCells122 122)) (.cells pc 132)
  have p0 : ((w.alloc (.cells Yba.zeroCells122 122)).alloc (.cells pc 132)).heap[w.heap.size]? = some (.cells Yba.zeroCells122 122 (0, 0)) := by
    rw [Below.heap_alloc _ _ _ (by simp)]; exact heap_alloc_new w _
  have gp : GoodParty ((w.alloc (.cells Yba.zeroCells122 122)).alloc (.cells pc 132)) (.pointer (some ⟨w.heap.size + 1, 0, none⟩)) := ⟨_, _, pc, _, rfl, p1, hpc, p0, z152, z153, z154⟩
  have FP : Fr (· = P0) ((w.alloc (.cells Yba.zeroCells122 122)).alloc (.cells pc 132)) (((w.alloc (.cells Yba.zeroCells122 122)).alloc (.cells pc 132)).setCell ⟨P0, j, none⟩ (.pointer (some ⟨w.heap.size + 1, 0, none⟩))) :=
    Fr.setCell (S := (· = P0)) (p := ⟨P0, j, none⟩) (Fr.refl _ _) (.inl rfl) _
  have typ : ∀ k c t f, k = P0 → ((w.alloc (.cells Yba.zeroCells122 122)).alloc (.cells pc 132)).heap[k]? = some (.cells c t f) → t ≠ 132 ∧ t ≠ 122 := by
    intro k c t f hk h'
    subst hk; rw [hh2] at h'; cases h'; decide
  refine ⟨⟨ps ++ [.pointer (some ⟨w.heap.size + 1, 0, none⟩)], by simp [hl], ?_, ?_⟩, (F.mono (fun _ _ h => h.elim)).trans FP⟩
  · rw [heap_setCell hh2]
    congr 2
    apply Array.ext'
    rw [show l - j = (l - (j + 1)) + 1 from by omega, List.replicate_succ]
    simp [← hl]
  · intro q hq
    rcases List.mem_append.1 hq with hq | hq
    · exact ((hg q hq).fr F (fun _ _ _ _ h => h.elim)).fr FP typ
    · simp at hq; subst hq; exact gp.fr FP typ

theorem st_start {w w2 : World} {k l P0 : Nat} (hm : MemOk w2 w.heap.size k) (hP : PreOk w2 P0 l l) (hl : l < 300) (hPs : w.heap.size < P0) (hF : Fr (fun k => w.heap.size ≤ k) w w2) :
    ∃ ps, St w.heap.size (w2.heap.size + 1 + 1 + 1) w.heap.size w2.heap.size (w2.heap.size + 1) (w2.heap.size + 1 + 1) P0 l k (.string ⟨#[]⟩) (.pointer none) (.slice none 0 0) ps [] (.slice (some ⟨P0, 0, none⟩) l l) (.slice none 0 0) (.slice none 0 0)
      ((((w2.alloc (.cells #[.slice none 0 0] 37)).alloc (.cells #[.bool true] 4)).alloc (.cells #[.slice none 0 0] 108)).alloc
        (.cells #[.string ⟨#[]⟩, .pointer (some ⟨w.heap.size, 0, none⟩), .pointer none, .slice (some ⟨P0, 0, none⟩) l l, .func (.func 11) #[] #[.pointer (some ⟨w2.heap.size, 0, none⟩), .pointer (some ⟨w2.heap.size + 1, 0, none⟩), .pointer (some ⟨w2.heap.size + 1 + 1, 0, none⟩)], .slice none 0 0] 137)) := by
  obtain ⟨ps, hl', hh, hg⟩ := hP
  simp only [Nat.sub_self, List.replicate_zero, List.append_nil] at hh
  generalize hv : Obj.cells #[.string ⟨#[]⟩, .pointer (some ⟨w.heap.size, 0, none⟩), .pointer none, .slice (some ⟨P0, 0, none⟩) l l, .func (.func 11) #[] #[.pointer (some ⟨w2.heap.size, 0, none⟩), .pointer (some ⟨w2.heap.size + 1, 0, none⟩), .pointer (some ⟨w2.heap.size + 1 + 1, 0, none⟩)], .slice none 0 0] 137 = ov
  have F : Fr (fun _ => False) w2 ((((w2.alloc (.cells #[.slice none 0 0] 37)).alloc (.cells #[.bool true] 4)).alloc (.cells #[.slice none 0 0] 108)).alloc ov) := ((((Fr.refl _ w2).alloc _).alloc _).alloc _).alloc _
  have sz := hF.size
  refine ⟨ps, { hV := ?_, hm := ?_, hC := ?_, hM := ?_, hN := ?_, hP := F.obj hh (fun h => h), orow := ?_, oc := ?_, om := ?_, good := ?_, d1 := ?_, d2 := by simp [Value.ownBlock], d3 := .inl rfl, bases := ⟨by omega, by omega, by omega, by simp; omega⟩, pl := hl', lims := ⟨by omega, by simp⟩ }⟩
  · have h := heap_alloc_new (((w2.alloc (.cells #[.slice none 0 0] 37)).alloc (.cells #[.bool true] 4)).alloc (.cells #[.slice none 0 0] 108)) ov
    simp only [World.size_alloc] at h
    rw [h, ← hv]
  · obtain ⟨mc, h, r⟩ := hm
    exact ⟨mc, F.obj h (fun h => h), r⟩
  · rw [Below.heap_alloc _ _ _ (by simp; omega), Below.heap_alloc _ _ _ (by simp; omega), Below.heap_alloc _ _ _ (by simp)]
    exact heap_alloc_new w2 _
  · rw [Below.heap_alloc _ _ _ (by simp)]
    have h := heap_alloc_new ((w2.alloc (.cells #[.slice none 0 0] 37)).alloc (.cells #[.bool true] 4)) (.cells #[.slice none 0 0] 108)
    simpa only [World.size_alloc] using h
  · rw [Below.heap_alloc _ _ _ (by simp), Below.heap_alloc _ _ _ (by simp)]
    have h := heap_alloc_new (w2.alloc (.cells #[.slice none 0 0] 37)) (.cells #[.bool true] 4)
    simpa only [World.size_alloc] using h
  · refine ⟨by simp [hl'], .inr ⟨P0, l, ps.toArray, by simp, by omega, F.obj hh (fun h => h), by simp, by unfold maxLen; omega, by simp [hl'], ?_⟩⟩
    simp [← hl']
  · exact World.ownsRow_nil _ _ _ _
  · exact World.ownsRow_nil _ _ _ _
  · intro p hp
    exact (hg p (by simpa using hp)).fr F (fun _ _ _ _ h => h.elim)
  · intro k _ h
    simp [Value.ownBlock] at h

theorem owns_cell {w : World} {base : Nat} {e : TypeId} {a : Option Addr} {n cap i : Nat} {xs : List Value} {x : Value} (h : w.ownsRow base e 1 (.slice a n cap) n xs) (hx : xs[i]? = some x) : ∃ g, a = some ⟨g, 0, none⟩ ∧ w.cell? ⟨g, i, none⟩ = some x := by
  obtain ⟨hl, h2⟩ := h
  have hi : i < xs.length := (List.getElem?_eq_some_iff.1 hx).1
  rcases h2 with ⟨_, h⟩ | ⟨g, cap', cur, hv, hb, hg, hnc, hcm, hcs, htake⟩
  · omega
  · simp only [Value.slice.injEq] at hv
    refine ⟨g, hv.1, ?_⟩
    rw [cellOf hg, ← hx, ← htake, List.getElem?_take, if_pos (by omega)]
    simp

theorem St.getC {base V m C N M P0 L : Nat} {R : Int} {s0 p2 s5 : Value} {ps ms : List Value} {rv mv : Value} {a : Option Addr} {cap : Nat} {w : World} (s : St base V m C N M P0 L R s0 p2 s5 ps ms rv (.slice a ms.length cap) mv w) {i : Nat} (hi : i < ms.length) :
    ∃ g, a = some ⟨g, 0, none⟩ ∧ w.cell? ⟨g, i, none⟩ = some (.int .i64 R) :=
  owns_cell s.oc (by rw [List.getElem?_replicate, if_pos hi])

theorem St.getP {base V m C N M P0 L : Nat} {R : Int} {s0 p2 s5 : Value} {ps ms : List Value} {cv mv : Value} {a : Option Addr} {cap : Nat} {w : World} (s : St base V m C N M P0 L R s0 p2 s5 ps ms (.slice a (L + ms.length) cap) cv mv w) {i : Nat} (hi : i < L) :
    ∃ g b, a = some ⟨g, 0, none⟩ ∧ w.cell? ⟨g, i, none⟩ = some (.pointer (some ⟨b, 0, none⟩)) ∧ w.cell? ⟨P0, i, none⟩ = some (.pointer (some ⟨b, 0, none⟩)) := by
  have hlt : i < ps.length := by rw [s.pl]; exact hi
  obtain ⟨b, _, _, _, hv, _⟩ := s.good ps[i] (List.mem_append.2 (.inl (List.getElem_mem hlt)))
  have hx : ps[i]? = some (.pointer (some ⟨b, 0, none⟩)) := by rw [← hv]; exact List.getElem?_eq_getElem hlt
  obtain ⟨g, ha, hc⟩ := owns_cell s.orow (i := i) (x := .pointer (some ⟨b, 0, none⟩)) (by rw [List.getElem?_append_left hlt]; exact hx)
  exact ⟨g, b, ha, hc, (cellOf s.hP i).trans (by simpa using hx)⟩

theorem St.getM {base V m C N M P0 L : Nat} {R : Int} {s0 p2 s5 : Value} {ps ms : List Value} {cv : Value} {a a' : Option Addr} {cap cap' : Nat} {w : World} (s : St base V m C N M P0 L R s0 p2 s5 ps ms (.slice a (L + ms.length) cap) cv (.slice a' ms.length cap') w) {i : Nat} (hi : i < ms.length) :
    ∃ g g' b, a = some ⟨g, 0, none⟩ ∧ a' = some ⟨g', 0, none⟩ ∧ w.cell? ⟨g, L + i, none⟩ = some (.pointer (some ⟨b, 0, none⟩)) ∧ w.cell? ⟨g', i, none⟩ = some (.pointer (some ⟨b, 0, none⟩)) := by
  obtain ⟨b, _, _, _, hv, _⟩ := s.good ms[i] (List.mem_append.2 (.inr (List.getElem_mem hi)))
  have hx : ms[i]? = some (.pointer (some ⟨b, 0, none⟩)) := by rw [← hv]; exact List.getElem?_eq_getElem hi
  obtain ⟨g, ha, hc⟩ := owns_cell s.orow (i := L + i) (x := .pointer (some ⟨b, 0, none⟩)) (by rw [List.getElem?_append_right (by rw [s.pl]; omega), s.pl, Nat.add_sub_cancel_left]; exact hx)
  obtain ⟨g', ha', hc'⟩ := owns_cell s.om hx
  exact ⟨g, g', b, ha, ha', hc, hc'⟩

theorem EPost.last {V m C N M P0 L r : Nat} {s0 p2 s5 : Value} {ps : List Value} {n n' : Nat} {w wx w' : World} (h : EPost w.heap.size V m C N M P0 L r s0 p2 s5 ps n wx w') (hn : n = n') (hF : Fr (fun k => w.heap.size ≤ k) w wx) :
    (∃ a cap, w'.cell? ⟨C, 0, none⟩ = some (.slice a n' cap)) ∧ (∃ a cap, w'.cell? ⟨V, 3, none⟩ = some (.slice a (L + n') cap)) ∧ Hid (Below w.heap.size w w') := by
  subst hn
  obtain ⟨ms, rv, cv, mv, s, hl, hF'⟩ := h
  subst hl
  obtain ⟨a, cap, h1⟩ := owns_slice s.oc
  obtain ⟨a', cap', h2⟩ := owns_slice s.orow
  subst h1 h2
  exact ⟨⟨a, cap, cellOf s.hC 0⟩, ⟨a', cap', cellOf s.hV 3⟩, (hF.trans hF').below (Nat.le_refl _) (fun k hk h => by omega)⟩

set_option maxRecDepth 100000 in
set_option maxHeartbeats 2000000 in
theorem law_any (a0 : Int) (a1 : Int) (r l : Nat) (hr : a0 % 300 = r) (hl : a1 % 300 = l) (h0 : 0 ≤ a0) (h1 : 0 ≤ a1) (h0' : a0 ≤ 65535) (h1' : a1 ≤ 65535) (w : World) :
    Calls Yba.prog 4 #[.int .u16 a0, .int .u16 a1] w fun e w' => e = .returned (.bool true) ∧ Below w.heap.size w w' := by
  have hr3 : r < 300 := by omega
  have hl3 : l < 300 := by omega
  go_enter Yba.func4, Yba.ntmps4
  go_wp2_with fail
  simp only [hr, hl]
  clear hr hl h0 h0' h1 h1'
  go_loopg [8] r (fun n i wr => ∃ k : Nat, k ≤ r ∧ n = r - k ∧ i = .int .i64 k ∧ MemOk wr w.heap.size k ∧ Fr (fun k => w.heap.size ≤ k) w wr)
  case atStart => exact ⟨0, by omega, by omega, rfl, memOk_mk w _ rfl rfl rfl rfl rfl rfl, (Fr.refl _ w).alloc _⟩
  case round =>
    obtain ⟨k, hk, hn, rfl, hm, hF⟩ := hrel
    by_cases hlt : k < r
    · go_wp2_with (go_at_call 10; refine (MemOk.settle (by omega) hm).mono ?_; rintro e w' ⟨rfl, hm', hF'⟩)
      go_roundg (r - (k + 1))
      case measure => omega
      case rel => exact ⟨k + 1, by omega, rfl, by go_num, hm', hF.trans' hF' (fun i _ h => by omega)⟩
    · obtain rfl : k = r := by omega
      have hmk : ∀ W : World, (Instr.makeSlice 108 (.int .i64 (l : Int)) (.int .i64 (l : Int))).run Yba.prog W = .ok (.slice (some ⟨W.heap.size, 0, none⟩) l l) (W.alloc (.cells (nilRow l) 109)) := fun W => make108 W l hl3
      go_wp2_with fail
      have hP0 : PreOk (wr.alloc (.cells (nilRow l) 109)) wr.heap.size l 0 := ⟨[], rfl, by simpa [nilRow] using heap_alloc_new wr (.cells (nilRow l) 109), fun p hp => by cases hp⟩
      have hm' := hm.fr ((Fr.refl (fun _ => False) wr).alloc (.cells (nilRow l) 109)) (fun h => h)
      have hF' := hF.alloc (.cells (nilRow l) 109)
      have hPs : w.heap.size < wr.heap.size := by obtain ⟨mc, h, _⟩ := hm; exact obj_lt h
      generalize wr.heap.size = P0 at hP0 hPs ⊢
      clear hmk hm hF
      go_loopg [43] l (fun n i w2 => ∃ j : Nat, j ≤ l ∧ n = l - j ∧ i = .int .i64 j ∧ MemOk w2 w.heap.size k ∧ PreOk w2 P0 l j ∧ Fr (fun k => w.heap.size ≤ k) w w2)
      case atStart => exact ⟨0, by omega, by omega, rfl, hm', hP0, hF'⟩
      case round =>
        clear hm' hP0 hF'
        obtain ⟨j, hj, hn, rfl, hm, hP, hF⟩ := hrel
        by_cases hlt : j < l
        · obtain ⟨c2, f2⟩ := hP.cell hlt
          go_wp2_with fail
          obtain ⟨hP', hFP⟩ := hP.step (pc := #[.int .i64 0, .string ⟨#[]⟩, .int .i64 0, .bool false, .pointer none, .nilIface, .bool false, .int .i64 0, .int .i64 0, .pointer (some ⟨wr.heap.size, 0, none⟩), .slice none 0 0]) hlt rfl
          have hm' := hm.fr hFP (by omega)
          have hF' := hF.trans' hFP (fun i _ h => by omega)
          clear hm hP hF c2 f2
          go_roundg (l - (j + 1))
          case measure => omega
          case rel => exact ⟨j + 1, by omega, rfl, by go_num, hm', hP', hF'⟩
        · obtain rfl : j = l := by omega
          go_wp2_with fail
          obtain ⟨ps, hst⟩ := st_start hm hP hl3 hPs hF
          have HF0 := hid hF
          clear hm hP hF
          have hle : wr.heap.size ≤ ((((wr.alloc (.cells #[.slice none 0 0] 37)).alloc (.cells #[.bool true] 4)).alloc (.cells #[.slice none 0 0] 108)).alloc
            (.cells #[.string ⟨#[]⟩, .pointer (some ⟨w.heap.size, 0, none⟩), .pointer none, .slice (some ⟨P0, 0, none⟩) j j, .func (.func 11) #[] #[.pointer (some ⟨wr.heap.size, 0, none⟩), .pointer (some ⟨wr.heap.size + 1, 0, none⟩), .pointer (some ⟨wr.heap.size + 1 + 1, 0, none⟩)], .slice none 0 0] 137)).heap.size := by simp; omega
          refine (enter_any _ _ _ _ _ _ _ _ _ (by omega) _ _ _ ps [] _ _ _ _ hst).mono ?_
          rintro e w1 ⟨rfl, hpost⟩
          have hpost' : EPost w.heap.size (wr.heap.size + 1 + 1 + 1) w.heap.size wr.heap.size (wr.heap.size + 1) (wr.heap.size + 1 + 1) P0 j k (.string ⟨#[]⟩) (.pointer none) (.slice none 0 0) ps (k - j) w w1 := by
            obtain ⟨ms, rv, cv, mv, hs, hlen, hF1⟩ := hpost
            exact ⟨ms, rv, cv, mv, hs, by simpa using hlen, ((((HF0.out.alloc _).alloc _).alloc _).alloc _).trans hF1⟩
          clear hpost hst HF0 hle
          generalize wr.heap.size = C at hpost' ⊢
          clear wr
          go_upto_if 64 with (fail)
          obtain ⟨ms, rv, cv, mv, hs, hlen, hF1⟩ := hpost'
          obtain ⟨ar, capr, hrv⟩ := owns_slice hs.orow
          obtain ⟨ac, capc, hcv⟩ := owns_slice hs.oc
          obtain ⟨am, capm, hmv⟩ := owns_slice hs.om
          subst hrv hcv hmv
          have HS := hid hs
          have HL := hid hlen
          have HF := hid hF1
          have hml := hs.lims.2
          clear hs hlen hF1
          go_cut [16] (fun s16 wc => s16 = .int .i64 (ms.length : Int) ∧ wc = w1)
          case first =>
            have hlen := HL.out
            by_cases h : j < k
            · go_wp2
              go_meet
              case rel => exact ⟨by congr 1; omega, rfl⟩
            · go_wp2
              go_meet
              case rel => exact ⟨by congr 1; omega, rfl⟩
          case rest =>
            obtain ⟨hc16, hcw⟩ := hcut
            subst hc16
            subst hcw
            have x1 : wc.cell? ⟨C, 0, none⟩ = some (.slice ac ms.length capc) := cellOf HS.out.hC 0
            have x2 : wc.cell? ⟨C + 1, 0, none⟩ = some (.bool true) := cellOf HS.out.hN 0
            have x3 : wc.cell? ⟨C + 1 + 1, 0, none⟩ = some (.slice am ms.length capm) := cellOf HS.out.hM 0
            have x4 : wc.cell? ⟨C + 1 + 1 + 1, 3, none⟩ = some (.slice ar (j + ms.length) capr) := cellOf HS.out.hV 3
            go_wp2
            go_loopg [17] ms.length (fun n i wr => ∃ t : Nat, t ≤ ms.length ∧ n = ms.length - t ∧ i = .int .i64 t ∧ wc = wr)
            case atStart => exact ⟨0, by omega, by omega, rfl, rfl⟩
            case round =>
              obtain ⟨t, ht, hn, rfl, rfl⟩ := hrel
              by_cases hlt : t < ms.length
              · obtain ⟨g, ha, hcell⟩ := HS.out.getC hlt
                subst ha
                go_wp2
                go_roundg (ms.length - (t + 1))
                case measure => omega
                case rel => exact ⟨t + 1, by omega, rfl, by go_num, rfl⟩
              · go_wp2
                go_loopg [18] j (fun n i wr => ∃ t q : Nat, t ≤ j ∧ n = j - t ∧ i = .int .i64 t ∧ wr = wc.drewN q)
                case atStart => exact ⟨0, 0, by omega, by omega, rfl, rfl⟩
                case round =>
                  obtain ⟨t', q, ht', hn', rfl, rfl⟩ := hrel
                  by_cases hlt' : t' < j
                  · obtain ⟨g, b, ha, hc1, hc2⟩ := HS.out.getP hlt'
                    subst ha
                    have hi1 : (t' : Int) < (j : Int) + (ms.length : Int) := by omega
                    go_wp2
                    go_quiet (fail)
                    go_wp2
                    go_roundg (j - (t' + 1))
                    case measure => omega
                    case rel => exact ⟨t' + 1, _, by omega, rfl, by go_num, rfl⟩
                  · go_wp2
                    go_loopg [19] ms.length (fun n i wr => ∃ t q : Nat, t ≤ ms.length ∧ n = ms.length - t ∧ i = .int .i64 t ∧ wr = wc.drewN q)
                    case atStart => exact ⟨0, q, by omega, by omega, rfl, rfl⟩
                    case round =>
                      clear q
                      obtain ⟨t'', q, ht'', hn'', rfl, rfl⟩ := hrel
                      by_cases hlt'' : t'' < ms.length
                      · obtain ⟨g, g', b, ha, ha', hc1, hc2⟩ := HS.out.getM hlt''
                        subst ha ha'
                        have hi1 : (t'' : Int) < (ms.length : Int) := by omega
                        have hi2 : (j : Int) + (t'' : Int) < (j : Int) + (ms.length : Int) := by omega
                        go_wp2
                        go_quiet (fail)
                        go_wp2
                        go_roundg (ms.length - (t'' + 1))
                        case measure => omega
                        case rel => exact ⟨t'' + 1, _, by omega, rfl, by go_num, rfl⟩
                      · go_wp2_with fail
                        have Fq : ∀ S, Fr S wc (wc.drewN q) := fun S => ⟨rfl, rfl, rfl, Nat.le_refl _, fun _ _ _ => rfl⟩
                        obtain ⟨mc, hm, m0, m1, m2, m3, m4, m17⟩ := HS.out.hm
                        by_cases hk0 : k = 0
                        · subst hk0
                          refine (round_zero _ _ (by exact (cellOf hm 17).trans m17)).mono ?_
                          rintro e w' ⟨rfl, rfl⟩
                          go_wp2_with fail
                          refine (enter_any _ _ _ _ _ _ _ _ _ (by omega) _ _ _ ps ms _ _ _ _ (HS.out.fr (Fq _))).mono ?_
                          rintro e w' ⟨rfl, hpost⟩
                          obtain ⟨y1, y4, HE⟩ := hpost.last (n' := ms.length) (by have := HL.out; omega) (HF.out.trans (Fq _))
                          clear hpost
                          obtain ⟨ac', capc', y1⟩ := y1
                          obtain ⟨ar', capr', y4⟩ := y4
                          clear x1 x2 x3 x4
                          go_wp2
                          go_ret
                          exact ⟨rfl, HE.out⟩
                        · have hkz : ((k : Int) == 0) = false := by simp; omega
                          refine (round_pos _ _ k hkz (by exact (cellOf hm 0).trans m0) (by exact (cellOf hm 1).trans m1) (by exact (cellOf hm 2).trans m2) (by exact (cellOf hm 3).trans m3) (by exact (cellOf hm 4).trans m4) (by exact (cellOf hm 17).trans m17)).mono ?_
                          rintro e w' ⟨rfl, rfl⟩
                          go_wp2_with fail
                          refine (enter_any _ _ _ _ _ _ _ _ _ (by omega) _ _ _ ps ms _ _ _ _ (HS.out.fr (((Fq _).alloc _).drew))).mono ?_
                          rintro e w' ⟨rfl, hpost⟩
                          obtain ⟨y1, y4, HE⟩ := hpost.last (n' := ms.length) (by have := HL.out; omega) (HF.out.trans (((Fq _).alloc _).drew))
                          clear hpost
                          obtain ⟨ac', capc', y1⟩ := y1
                          obtain ⟨ar', capr', y4⟩ := y4
                          clear x1 x2 x3 x4
                          go_wp2
                          go_ret
                          exact ⟨rfl, HE.out⟩

end Go.Proofs.Ybulkabaq
