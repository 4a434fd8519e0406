import Derived.Test.YbulkabbsJa
/- zzs1357bbuild. -/
namespace Go.Proofs.Ybulkabbs
open Go.RowKit
set_option linter.unusedVariables false

def zc35 : Array Value := #[.slice none 0 0, .int .i64 0, .bool false, .int .i64 0, .bool false, .int .i64 0, .string ⟨#[]⟩]
def zc38 : Array Value := #[.int .i64 0, .bool false]
theorem Yba.info35 : (Yba.prog.info? 35).map (fun i => (i.zero, i.size, i.bytes)) = some (some (.agg #[.slice none 0 0, .int .i64 0, .bool false, .int .i64 0, .bool false, .int .i64 0, .string ⟨#[]⟩]), 7, 80) := by kernel_rfl
theorem Yba.info38 : (Yba.prog.info? 38).map (fun i => (i.zero, i.size, i.bytes)) = some (some (.agg #[.int .i64 0, .bool false]), 2, 16) := by kernel_rfl
def z28 (n : Nat) : Array Value := madeCells zc35 (n * 7)
def z32 (n : Nat) : Array Value := madeCells zc38 (n * 2)
theorem z28_size (n : Nat) : (z28 n).size = n * 7 := by simp [z28, size_madeCells]
theorem z32_size (n : Nat) : (z32 n).size = n * 2 := by simp [z32, size_madeCells]

theorem make28 (W : World) (n : Nat) (hn : n ≤ 1024) : (Instr.makeSlice 28 (.int .i64 (n : Int)) (.int .i64 (n : Int))).run Yba.prog W = .ok (.slice (some ⟨W.heap.size, 0, none⟩) n n) (W.alloc (.cells (z28 n) 35)) := by
  obtain ⟨i9, hj, hy0, hy1, hy2⟩ := info_parts Yba.info35
  have h := run_make (P := Yba.prog) W 28 35 i9 _ Yba.underlying28 hj hy0 .i64 .i64 n n (by omega) (by omega) (by rw [hy2]; omega) (by omega)
  rw [h, hy1]
  simp only [Int.toNat_natCast]
  rfl
theorem make32 (W : World) (n : Nat) (hn : n ≤ 1024) : (Instr.makeSlice 32 (.int .i64 (n : Int)) (.int .i64 (n : Int))).run Yba.prog W = .ok (.slice (some ⟨W.heap.size, 0, none⟩) n n) (W.alloc (.cells (z32 n) 38)) := by
  obtain ⟨i9, hj, hy0, hy1, hy2⟩ := info_parts Yba.info38
  have h := run_make (P := Yba.prog) W 32 38 i9 _ Yba.underlying32 hj hy0 .i64 .i64 n n (by omega) (by omega) (by rw [hy2]; omega) (by omega)
  rw [h, hy1]
  simp only [Int.toNat_natCast]
  rfl

/-- A row of frames, of which the first t are laid. -/
def FrB (w : World) (f l t : Nat) (O : Nat → Int) : Prop := ∃ d, w.heap[f]? = some (.cells d 38 (0, 0)) ∧ d.size = l * 2 ∧ ∀ j, j < t → d[j * 2]? = some (.int .i64 (O j))
theorem FrB.fr {S : Nat → Prop} {w w' : World} {f l t : Nat} {O : Nat → Int} (h : FrB w f l t O) (F : Fr S w w') (hn : ¬ S f) : FrB w' f l t O := by
  obtain ⟨d, h1, h2⟩ := h; exact ⟨d, F.obj h1 hn, h2⟩
theorem FrB.cells {w : World} {f l t : Nat} {O : Nat → Int} (h : FrB w f l t O) (ht : t < l) : ∃ x y, w.cell? ⟨f, t * 2, none⟩ = some x ∧ w.cell? ⟨f, t * 2 + 1, none⟩ = some y := by
  obtain ⟨d, h1, h2, _⟩ := h
  exact ⟨d[t * 2]'(by omega), d[t * 2 + 1]'(by omega), (cellOf h1 _).trans (Array.getElem?_eq_getElem _), (cellOf h1 _).trans (Array.getElem?_eq_getElem _)⟩
theorem FrB.free {w : World} {f l t : Nat} {O : Nat → Int} (h : FrB w f l t O) (o : Nat) : w.frozen? ⟨f, o, none⟩ = false := by
  obtain ⟨d, h1, _⟩ := h; exact freeOf h1 o
theorem FrB.step {w : World} {f l t : Nat} {O : Nat → Int} (h : FrB w f l t O) (ht : t < l) (y : Value) : FrB ((w.setCell ⟨f, t * 2, none⟩ (.int .i64 (O t))).setCell ⟨f, t * 2 + 1, none⟩ y) f l (t + 1) O := by
  obtain ⟨d, h1, h2, h3⟩ := h
  refine ⟨_, heap_setCell (heap_setCell h1 _ _) _ _, by simp [h2], fun j hj => ?_⟩
  rw [Array.getElem?_setIfInBounds, if_neg (by omega), Array.getElem?_setIfInBounds]
  by_cases e : t = j
  · subst e
    rw [if_pos rfl, if_pos (by omega)]
  · rw [if_neg (by omega)]; exact h3 j (by omega)
theorem frB_new (w : World) (l : Nat) (O : Nat → Int) : FrB (w.alloc (.cells (z32 l) 38)) w.heap.size l 0 O := ⟨_, heap_alloc_new w _, z32_size l, fun j h => by omega⟩

/-- The row of readers, of which the first k are laid. -/
def Blt (w : World) (g n k : Nat) (L : Nat → Nat) (O : Nat → Nat → Int) : Prop :=
  ∃ (c : Array Value) (F : Nat → Nat), w.heap[g]? = some (.cells c 35 (0, 0)) ∧ c.size = n * 7 ∧ ∀ j, j < k → c[j * 7]? = some (.slice (some ⟨F j, 0, none⟩) (L j) (L j)) ∧ FrB w (F j) (L j) (L j) (O j)
theorem Blt.fr {w w' : World} {g n k : Nat} {L : Nat → Nat} {O : Nat → Nat → Int} (h : Blt w g n k L O) (F : Fr (fun _ => False) w w') : Blt w' g n k L O := by
  obtain ⟨c, f, h1, h2, h3⟩ := h
  exact ⟨c, f, F.obj h1 (fun h => h), h2, fun j hj => ⟨(h3 j hj).1, (h3 j hj).2.fr F (fun h => h)⟩⟩
theorem Blt.cells {w : World} {g n k : Nat} {L : Nat → Nat} {O : Nat → Nat → Int} (h : Blt w g n k L O) (hk : k < n) : ∃ x y, w.cell? ⟨g, k * 7, none⟩ = some x ∧ w.cell? ⟨g, k * 7 + 1, none⟩ = some y := by
  obtain ⟨d, F, h1, h2, _⟩ := h
  exact ⟨d[k * 7]'(by omega), d[k * 7 + 1]'(by omega), (cellOf h1 _).trans (Array.getElem?_eq_getElem _), (cellOf h1 _).trans (Array.getElem?_eq_getElem _)⟩
theorem Blt.free {w : World} {g n k : Nat} {L : Nat → Nat} {O : Nat → Nat → Int} (h : Blt w g n k L O) (o : Nat) : w.frozen? ⟨g, o, none⟩ = false := by
  obtain ⟨d, _, h1, _⟩ := h; exact freeOf h1 o
theorem Blt.step {w : World} {g n k f : Nat} {L : Nat → Nat} {O : Nat → Nat → Int} (h : Blt w g n k L O) (hk : k < n) (hf : FrB w f (L k) (L k) (O k)) (y : Value) :
    Blt ((w.setCell ⟨g, k * 7, none⟩ (.slice (some ⟨f, 0, none⟩) (L k) (L k))).setCell ⟨g, k * 7 + 1, none⟩ y) g n (k + 1) L O := by
  obtain ⟨c, F, h1, h2, h3⟩ := h
  have Fg : Fr (· = g) w ((w.setCell ⟨g, k * 7, none⟩ (.slice (some ⟨f, 0, none⟩) (L k) (L k))).setCell ⟨g, k * 7 + 1, none⟩ y) :=
    ((Fr.refl (· = g) w).setCell (p := ⟨g, k * 7, none⟩) (.inl rfl) _).setCell (p := ⟨g, k * 7 + 1, none⟩) (.inl rfl) _
  have ne : ∀ {x l t O}, FrB w x l t O → ¬ x = g := fun ⟨d, hd, _⟩ e => by subst e; rw [h1] at hd; simp at hd
  refine ⟨_, fun j => if j = k then f else F j, heap_setCell (heap_setCell h1 _ _) _ _, by simp [h2], fun j hj => ?_⟩
  rw [Array.getElem?_setIfInBounds, if_neg (by omega), Array.getElem?_setIfInBounds]
  by_cases e : j = k
  · subst e
    rw [if_pos rfl, if_pos (by omega)]
    refine ⟨by simp, ?_⟩
    simp only [if_true]
    exact hf.fr Fg (ne hf)
  · rw [if_neg (by omega)]
    simp only [if_neg e]
    exact ⟨(h3 j (by omega)).1, (h3 j (by omega)).2.fr Fg (ne (h3 j (by omega)).2)⟩
theorem blt_new (w : World) (n : Nat) (L : Nat → Nat) (O : Nat → Nat → Int) : Blt (w.alloc (.cells (z28 n) 35)) w.heap.size n 0 L O := ⟨_, fun _ => 0, heap_alloc_new w _, z28_size n, fun j h => by omega⟩

set_option maxRecDepth 100000 in
set_option maxHeartbeats 800000 in
theorem build_any (w : World) (a : Option Addr) (n cap b off : Nat) (A : Nat → Option Addr) (L C : Nat → Nat) (O : Nat → Nat → Int) (hn : n ≤ 1024) (hl : ∀ k, k < n → L k ≤ 1024)
    (hA : 0 < n → a = some ⟨b, off, none⟩) (hI : Inp w b off n A L C O) :
    Calls Yba.prog 7 #[.slice a n cap] w fun e w' => e = .returned (.slice (some ⟨w.heap.size, 0, none⟩) n n) ∧ Blt w' w.heap.size n n L O ∧ Fr (fun _ => False) w w' := by
  have HI := hid hI
  have HA := hid hA
  have HL := hid hl
  clear hI hA hl
  have hmk1 : ∀ W : World, (Instr.makeSlice 28 (.int .i64 (n : Int)) (.int .i64 (n : Int))).run Yba.prog W = .ok (.slice (some ⟨W.heap.size, 0, none⟩) n n) (W.alloc (.cells (z28 n) 35)) := fun W => make28 W n hn
  go_enter Yba.func7, Yba.ntmps7
  go_wp2
  clear hmk1
  go_loopg [13] n (fun m s13 wr => ∃ k : Nat, k ≤ n ∧ m = n - k ∧ s13 = .int .i64 k ∧ Blt wr w.heap.size n k L O ∧ Fr (fun _ => False) w wr)
  case atStart => exact ⟨0, by omega, by omega, rfl, blt_new w n L O, (Fr.refl _ w).alloc _⟩
  case round =>
    obtain ⟨k, hk, hm, rfl, hB, hF⟩ := hrel
    have HB := hid hB
    have HF := hid hF
    by_cases hkn : k < n
    · obtain rfl := HA.out (by omega)
      have c0 := hF.cell (HI.out.s k hkn) (fun h => h)
      have hLk := HL.out k hkn
      have HV := hid (HI.out.v k hkn)
      generalize A k = ak at c0 HV
      have c0a : ∀ o, (wr.alloc o).cell? ⟨b, off + k, none⟩ = some (.slice ak (L k) (C k)) := fun o => Lib.cell?_alloc_some o c0
      have hmk2 : ∀ W : World, (Instr.makeSlice 32 (.int .i64 (L k : Int)) (.int .i64 (L k : Int))).run Yba.prog W = .ok (.slice (some ⟨W.heap.size, 0, none⟩) (L k) (L k)) (W.alloc (.cells (z32 (L k)) 38)) := fun W => make32 W (L k) hLk
      clear hB hF
      go_wp2
      clear hmk2 c0 c0a
      go_loopg [29] (L k) (fun m s29 wq => ∃ t : Nat, t ≤ L k ∧ m = L k - t ∧ s29 = .int .i64 t ∧ FrB wq wr.heap.size (L k) t (O k) ∧ Fr (fun _ => False) wr wq)
      case atStart => exact ⟨0, by omega, by omega, rfl, frB_new wr _ _, (Fr.refl _ wr).alloc _⟩
      case round =>
        rename World => wq
        obtain ⟨t, ht, hm2, rfl, hB, hF⟩ := hrel
        by_cases htl : t < L k
        · obtain ⟨bb, oo, rfl, hc⟩ := HV.out (by omega)
          have d0 := hF.cell (HF.out.cell (hc t htl) (fun h => h)) (fun h => h)
          obtain ⟨x, y, hx, hy⟩ := hB.cells htl
          have fx := hB.free (t * 2)
          have fy := hB.free (t * 2 + 1)
          have HB2 := hid hB
          have HF2 := hid hF
          clear hB hF hc
          go_wp2
          go_roundg (L k - (t + 1))
          case measure => omega
          case rel => exact ⟨t + 1, by omega, rfl, by go_num, HB2.out.step htl _, (HF2.out.setCell (p := ⟨wr.heap.size, t * 2, none⟩) (.inr (Nat.le_refl _)) _).setCell (p := ⟨wr.heap.size, t * 2 + 1, none⟩) (.inr (Nat.le_refl _)) _⟩
        · obtain ⟨x, y, hx, hy⟩ := (HB.out.fr hF).cells hkn
          have fx := (HB.out.fr hF).free (k * 7)
          have fy := (HB.out.fr hF).free (k * 7 + 1)
          have htl' : t = L k := by omega
          rw [htl'] at hB
          have HB2 := hid hB
          have HF2 := hid hF
          clear hB hF
          go_wp2
          go_roundg (n - (k + 1))
          case measure => omega
          case rel => exact ⟨k + 1, by omega, rfl, by go_num, (HB.out.fr HF2.out).step hkn HB2.out _, ((HF.out.trans HF2.out).setCell (p := ⟨w.heap.size, k * 7, none⟩) (.inr (Nat.le_refl _)) _).setCell (p := ⟨w.heap.size, k * 7 + 1, none⟩) (.inr (Nat.le_refl _)) _⟩
    · obtain rfl : k = n := by omega
      clear hB hF
      go_wp2
      go_ret
      exact ⟨rfl, HB.out, HF.out⟩

end Go.Proofs.Ybulkabbs
