import Derived.Test.YbulkabbeTg
/- keepEnd, of a short context. -/
namespace Go.Proofs.Ybulkabbe
open Go.RowKit Go.Proofs Go.Shelf
set_option linter.unusedVariables false

/-- The lexer's block, whole. -/
structure Sx (w : World) (SB LB : Nat) (v : Value) (c : Array Value) (looks pos : Int) : Prop where
  hS : w.heap[SB]? = some (.cells c 54 (0, 0))
  size : c.size = 1805
  c0 : c[0]? = some (.pointer (some ⟨LB, 0, none⟩))
  c4 : c[4]? = some (.slice none 0 0)
  c10 : c[10]? = some v
  c18 : c[1803]? = some (.int .i64 looks)
  hL : ∃ d, w.heap[LB]? = some (.cells d 39 (0, 0)) ∧ d[1]? = some (.int .i64 pos)

theorem Sx.fr {S : Nat → Prop} {w w' : World} {SB LB : Nat} {v : Value} {c : Array Value} {looks pos : Int} (h : Sx w SB LB v c looks pos) (F : Fr S w w') (h1 : ¬ S SB) (h2 : ¬ S LB) : Sx w' SB LB v c looks pos := by
  obtain ⟨a1, a2, a3, a4, a5, a6, d, a7, a8⟩ := h
  exact ⟨F.obj a1 h1, a2, a3, a4, a5, a6, d, F.obj a7 h2, a8⟩
theorem Sx.at_ {w : World} {SB LB : Nat} {v : Value} {c : Array Value} {looks pos : Int} (h : Sx w SB LB v c looks pos) :
    w.cell? ⟨SB, 0, none⟩ = some (.pointer (some ⟨LB, 0, none⟩)) ∧ w.cell? ⟨SB, 4, none⟩ = some (.slice none 0 0) ∧ w.cell? ⟨SB, 10, none⟩ = some v ∧ w.cell? ⟨SB, 1803, none⟩ = some (.int .i64 looks) ∧ w.cell? ⟨LB, 1, none⟩ = some (.int .i64 pos) := by
  obtain ⟨a1, a2, a3, a4, a5, a6, d, a7, a8⟩ := h
  exact ⟨(cellOf a1 _).trans a3, (cellOf a1 _).trans a4, (cellOf a1 _).trans a5, (cellOf a1 _).trans a6, (cellOf a7 _).trans a8⟩

def setL (c : Array Value) : Nat → List Value → Array Value
  | _, [] => c
  | o, v :: vs => setL (c.setIfInBounds o v) (o + 1) vs

/-- A frame handed over. -/
def fAgg (ctx a : Int) : Value := .agg #[.int .u8 ctx, .int .i64 a, .int .i64 0, .int .i64 0, .bool false, .bool false, .bool false, .bool false]
/-- The end that is kept. -/
def keptOf (ctx a pos : Int) : En := ⟨a, pos, -1, ctx, false, 0⟩

theorem boxes (w : World) (SB : Nat) (ctx a : Int) {w2 : World} (hw : w2 = (w.alloc (.cells #[.pointer (some ⟨SB, 0, none⟩)] 23)).alloc (.cells #[.int .u8 ctx, .int .i64 a, .int .i64 0, .int .i64 0, .bool false, .bool false, .bool false, .bool false] 59) := by rfl) :
    Fr (fun _ => False) w w2 ∧ w2.heap.size = w.heap.size + 2 ∧ w2.cell? ⟨w.heap.size, 0, none⟩ = some (.pointer (some ⟨SB, 0, none⟩)) ∧ w2.cell? ⟨w.heap.size + 1, 0, none⟩ = some (.int .u8 ctx) ∧ w2.cell? ⟨w.heap.size + 1, 1, none⟩ = some (.int .i64 a) ∧ w2.cell? ⟨w.heap.size + 1, 3, none⟩ = some (.int .i64 0) := by
  subst hw
  have h1 := heap_alloc_new w (.cells #[.pointer (some ⟨SB, 0, none⟩)] 23)
  have h2 := heap_alloc_new (w.alloc (.cells #[.pointer (some ⟨SB, 0, none⟩)] 23)) (.cells #[.int .u8 ctx, .int .i64 a, .int .i64 0, .int .i64 0, .bool false, .bool false, .bool false, .bool false] 59)
  rw [World.size_alloc] at h2
  refine ⟨((Fr.refl _ w).alloc _).alloc _, by simp, ?_, (cellOf h2 0).trans rfl, (cellOf h2 1).trans rfl, (cellOf h2 3).trans rfl⟩
  exact Lib.cell?_alloc_some _ ((cellOf h1 0).trans rfl)

theorem kept_box {w w2 w3 : World} {SB LB : Nat} {v : Value} {c : Array Value} {looks pos a ctx : Int} (k0 : w2.heap.size = w.heap.size + 2) (F : Fr (fun _ => False) w w2) (hX : Sx w2 SB LB v c looks pos)
    (b0 : w2.cell? ⟨w.heap.size, 0, none⟩ = some (.pointer (some ⟨SB, 0, none⟩))) (f0 : w2.cell? ⟨w.heap.size + 1, 0, none⟩ = some (.int .u8 ctx)) (f1 : w2.cell? ⟨w.heap.size + 1, 1, none⟩ = some (.int .i64 a)) (f3 : w2.cell? ⟨w.heap.size + 1, 3, none⟩ = some (.int .i64 0))
    (hw : (w2.alloc (.cells #[.int .i64 a, .int .i64 pos, .int .i64 (-1), .int .u8 ctx, .bool false, .int .i64 0] 49)).drew = w3) :
    Fr (fun _ => False) w w3 ∧ Sx w3 SB LB v c looks pos ∧ w3.cell? ⟨w.heap.size, 0, none⟩ = some (.pointer (some ⟨SB, 0, none⟩)) ∧ w3.cell? ⟨w.heap.size + 1, 0, none⟩ = some (.int .u8 ctx) ∧ w3.cell? ⟨w.heap.size + 1, 1, none⟩ = some (.int .i64 a) ∧ w3.cell? ⟨w.heap.size + 1, 3, none⟩ = some (.int .i64 0) ∧
      w3.cell? ⟨w.heap.size + 2, 0, none⟩ = some (.int .i64 a) ∧ w3.cell? ⟨w.heap.size + 2, 1, none⟩ = some (.int .i64 pos) ∧ w3.cell? ⟨w.heap.size + 2, 2, none⟩ = some (.int .i64 (-1)) ∧ w3.cell? ⟨w.heap.size + 2, 3, none⟩ = some (.int .u8 ctx) ∧ w3.cell? ⟨w.heap.size + 2, 4, none⟩ = some (.bool false) ∧ w3.cell? ⟨w.heap.size + 2, 5, none⟩ = some (.int .i64 0) := by
  subst hw
  have F2 : Fr (fun _ => False) w2 (w2.alloc (.cells #[.int .i64 a, .int .i64 pos, .int .i64 (-1), .int .u8 ctx, .bool false, .int .i64 0] 49)).drew := ((Fr.refl _ w2).alloc _).drew
  have hn : (w2.alloc (.cells #[.int .i64 a, .int .i64 pos, .int .i64 (-1), .int .u8 ctx, .bool false, .int .i64 0] 49)).drew.heap[w.heap.size + 2]? = some (.cells #[.int .i64 a, .int .i64 pos, .int .i64 (-1), .int .u8 ctx, .bool false, .int .i64 0] 49 (0, 0)) := by
    have := heap_alloc_new w2 (.cells #[.int .i64 a, .int .i64 pos, .int .i64 (-1), .int .u8 ctx, .bool false, .int .i64 0] 49)
    rwa [k0] at this
  exact ⟨F.trans F2, hX.fr F2 (fun h => h) (fun h => h), F2.cell b0 (fun h => h), F2.cell f0 (fun h => h), F2.cell f1 (fun h => h), F2.cell f3 (fun h => h), (cellOf hn 0).trans rfl, (cellOf hn 1).trans rfl, (cellOf hn 2).trans rfl, (cellOf hn 3).trans rfl, (cellOf hn 4).trans rfl, (cellOf hn 5).trans rfl⟩

theorem Sx.get {w : World} {SB LB : Nat} {v : Value} {c : Array Value} {looks pos : Int} (h : Sx w SB LB v c looks pos) {o : Nat} (ho : o < 1804) : ∃ x, w.cell? ⟨SB, o, none⟩ = some x :=
  ⟨c[o]'(by rw [h.size]; omega), (cellOf h.hS o).trans (Array.getElem?_eq_getElem _)⟩
theorem seven {w : World} {SB LB m : Nat} {v : Value} {c : Array Value} {looks pos : Int} (h : Sx w SB LB v c looks pos) (hm : m < 256) :
    (∃ x, w.cell? ⟨SB, 11 + m * 7, none⟩ = some x) ∧ (∃ x, w.cell? ⟨SB, 11 + m * 7 + 1, none⟩ = some x) ∧ (∃ x, w.cell? ⟨SB, 11 + m * 7 + 2, none⟩ = some x) ∧ (∃ x, w.cell? ⟨SB, 11 + m * 7 + 3, none⟩ = some x) ∧ (∃ x, w.cell? ⟨SB, 11 + m * 7 + 4, none⟩ = some x) ∧ (∃ x, w.cell? ⟨SB, 11 + m * 7 + 5, none⟩ = some x) ∧ (∃ x, w.cell? ⟨SB, 11 + m * 7 + 6, none⟩ = some x) :=
  ⟨h.get (by omega), h.get (by omega), h.get (by omega), h.get (by omega), h.get (by omega), h.get (by omega), h.get (by omega)⟩
theorem sevenF {w : World} {SB LB : Nat} {v : Value} {c : Array Value} {looks pos : Int} (h : Sx w SB LB v c looks pos) (m : Nat) :
    w.frozen? ⟨SB, 11 + m * 7, none⟩ = false ∧ w.frozen? ⟨SB, 11 + m * 7 + 1, none⟩ = false ∧ w.frozen? ⟨SB, 11 + m * 7 + 2, none⟩ = false ∧ w.frozen? ⟨SB, 11 + m * 7 + 3, none⟩ = false ∧ w.frozen? ⟨SB, 11 + m * 7 + 4, none⟩ = false ∧ w.frozen? ⟨SB, 11 + m * 7 + 5, none⟩ = false ∧ w.frozen? ⟨SB, 11 + m * 7 + 6, none⟩ = false :=
  ⟨freeOf h.hS _, freeOf h.hS _, freeOf h.hS _, freeOf h.hS _, freeOf h.hS _, freeOf h.hS _, freeOf h.hS _⟩

def ShortPost (w : World) (SB : Nat) (c : Array Value) (m : Nat) (k : En) (looks : Int) (e : Ending) (w' : World) : Prop :=
  e = .returned (.tuple #[]) ∧ w'.heap[SB]? = some (.cells (setL c (11 + m * 7) (k.cells ++ [.int .i64 looks])) 54 (0, 0)) ∧ Fr (· = SB) w w'

theorem short_end {w wc : World} {SB LB m n : Nat} {v : Value} {c : Array Value} {looks pos a ctx : Int} (F : Fr (fun _ => False) w wc) (hX : Sx wc SB LB v c looks pos) :
    ShortPost w SB c m (keptOf ctx a pos) looks (.returned (.tuple #[])) ((((((((wc.drewN n).setCell ⟨SB, 11 + m * 7, none⟩ (.int .i64 a)).setCell ⟨SB, 11 + m * 7 + 1, none⟩ (.int .i64 pos)).setCell ⟨SB, 11 + m * 7 + 2, none⟩ (.int .i64 (-1))).setCell ⟨SB, 11 + m * 7 + 3, none⟩ (.int .u8 ctx)).setCell ⟨SB, 11 + m * 7 + 4, none⟩ (.bool false)).setCell ⟨SB, 11 + m * 7 + 5, none⟩ (.int .i64 0)).setCell ⟨SB, 11 + m * 7 + 6, none⟩ (.int .i64 looks)) := by
  have F0 : Fr (· = SB) w (wc.drewN n) := (F.mono (fun _ _ h => h.elim)).trans ⟨rfl, rfl, rfl, Nat.le_refl _, fun _ _ _ => rfl⟩
  refine ⟨rfl, ?_, ((((((F0.setCell (p := ⟨SB, 11 + m * 7, none⟩) (.inl rfl) _).setCell (p := ⟨SB, 11 + m * 7 + 1, none⟩) (.inl rfl) _).setCell (p := ⟨SB, 11 + m * 7 + 2, none⟩) (.inl rfl) _).setCell (p := ⟨SB, 11 + m * 7 + 3, none⟩) (.inl rfl) _).setCell (p := ⟨SB, 11 + m * 7 + 4, none⟩) (.inl rfl) _).setCell (p := ⟨SB, 11 + m * 7 + 5, none⟩) (.inl rfl) _).setCell (p := ⟨SB, 11 + m * 7 + 6, none⟩) (.inl rfl) _⟩
  exact heap_setCell (heap_setCell (heap_setCell (heap_setCell (heap_setCell (heap_setCell (heap_setCell (w := wc.drewN n) hX.hS _ _) _ _) _ _) _ _) _ _) _ _) _ _

set_option maxRecDepth 100000 in
set_option maxHeartbeats 2000000 in
theorem keep_short (w : World) (SB LB : Nat) (v : Value) (c : Array Value) (looks pos a ctx : Int) (m : Nat) (hX : Sx w SB LB v c looks pos) (hlt : pos - a < 256) (hap : a ≤ pos) (ha : 0 ≤ a) (hp : pos ≤ 300000) (hm : a % 256 = m) :
    Calls Yba.prog 6 #[.pointer (some ⟨SB, 0, none⟩), fAgg ctx a] w fun e w' => ShortPost w SB c m (keptOf ctx a pos) looks e w' := by
  have hSB : SB < w.heap.size := obj_lt hX.hS
  have hLB : LB < w.heap.size := by obtain ⟨d, h, _⟩ := hX.hL; exact obj_lt h
  unfold fAgg
  go_enter Yba.func6, Yba.ntmps6
  go_wp2
  obtain ⟨F, k0, b0, f0, f1, f3⟩ := boxes w SB ctx a
  have hX2 := hX.fr F (fun h => h) (fun h => h)
  obtain ⟨r0, r4, r10, r18, rp⟩ := hX2.at_
  have HX := hid (And.intro F hX2)
  clear hX F hX2
  generalize (w.alloc (.cells #[.pointer (some ⟨SB, 0, none⟩)] 23)).alloc (.cells #[.int .u8 ctx, .int .i64 a, .int .i64 0, .int .i64 0, .bool false, .bool false, .bool false, .bool false] 59) = w2 at HX k0 b0 f0 f1 f3 r0 r4 r10 r18 rp ⊢
  go_cut [4] (fun s4 wc => s4 = .pointer (some ⟨w.heap.size + 2, 0, none⟩) ∧ (w2.alloc (.cells #[.int .i64 a, .int .i64 pos, .int .i64 (-1), .int .u8 ctx, .bool false, .int .i64 0] 49)).drew = wc)
  case first =>
    go_region_held3 (fun w' => w'.cell? ⟨SB, 0, none⟩ = some (.pointer (some ⟨LB, 0, none⟩)) ∧ w'.cell? ⟨SB, 4, none⟩ = some (.slice none 0 0) ∧ w'.cell? ⟨LB, 1, none⟩ = some (.int .i64 pos) ∧ w'.cell? ⟨w.heap.size, 0, none⟩ = some (.pointer (some ⟨SB, 0, none⟩)) ∧ w'.cell? ⟨w.heap.size + 1, 0, none⟩ = some (.int .u8 ctx) ∧ w'.cell? ⟨w.heap.size + 1, 1, none⟩ = some (.int .i64 a) ∧ w'.cell? ⟨w.heap.size + 1, 3, none⟩ = some (.int .i64 0)) (go_keep)
      (first | (go_at_call 11; refine (keep_nil _ SB ?_).mono ?_; (simp [*]); rintro e w' ⟨rfl, rfl⟩))
    all_goals
      go_wp2
      go_meet
      case rel => exact ⟨rfl, rfl⟩
  case rest =>
    obtain ⟨h4, hw⟩ := hcut
    subst h4
    obtain ⟨F3, hX3, b0', f0', f1', f3', kc⟩ := kept_box k0 HX.out.1 HX.out.2 b0 f0 f1 f3 hw
    obtain ⟨r0', r4', r10', r18', rp'⟩ := hX3.at_
    have hm256 : m < 256 := by omega
    obtain ⟨⟨x0, q0⟩, ⟨x1, q1⟩, ⟨x2, q2⟩, ⟨x3, q3⟩, ⟨x4, q4⟩, ⟨x5, q5⟩, ⟨x6, q6⟩⟩ := seven hX3 hm256
    obtain ⟨z0, z1, z2, z3, z4, z5, z6⟩ := sevenF hX3 m
    have HX3 := hid (And.intro F3 hX3)
    clear HX hX3 F3 r0 r4 r10 r18 rp b0 f0 f1 f3 k0 hw
    obtain ⟨k0', k1', k2', k3', k4', k5'⟩ := kc
    have hlt' : pos - a < 256 := hlt
    have hw1 : IntKind.i64.wrap (pos - a) = pos - a := by rw [IntKind.wrap_i64]; omega
    go_wp2
    go_quiet (fail)
    go_wp2
    have e4 : a.tmod 256 = (m : Int) := by rw [Int.tmod_eq_emod_of_nonneg ha]; exact hm
    have e5 : IntKind.i64.wrap (m : Int) = (m : Int) := by rw [IntKind.wrap_i64]; omega
    have hm1 : (m : Int) < 256 := by omega
    go_big_region
    go_wp2
    first | go_end0 | refine bodyPost_ret (results_none rfl _ _ _) rfl ?_
    exact short_end HX3.out.1 HX3.out.2

end Go.Proofs.Ybulkabbe
