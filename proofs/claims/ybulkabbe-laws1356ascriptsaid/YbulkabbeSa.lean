import Derived.Test.YbulkabbeRows
import Derived.Test.YbulkabbeFr
import Derived.BigQuiet
import Derived.Deep.QuietTactic
import Derived.Deep.RegionWith
import Derived.Deep.RegionHeld3
import Derived.Deep.DrawnRows
import Derived.Deep.DeepCutAuto
namespace Go.Proofs.Ybulkabbe
open Go.RowKit
set_option linter.unusedVariables false

/-- The cells of the shell lexer that the road touches. -/
def Lx (w : World) (SB : Nat) (lex whole items last lists trials arith ends looks : Value) : Prop :=
  ∃ c : Array Value, w.heap[SB]? = some (.cells c 54 (0, 0)) ∧ c[0]? = some lex ∧ c[1]? = some whole ∧ c[4]? = some items ∧ c[5]? = some last ∧ c[6]? = some lists ∧ c[8]? = some trials ∧ c[9]? = some arith ∧ c[10]? = some ends ∧ c[1803]? = some looks

section
variable {w : World} {SB : Nat} {lex whole items last lists trials arith ends looks v : Value}
theorem Lx.fr {S : Nat → Prop} {w' : World} (h : Lx w SB lex whole items last lists trials arith ends looks) (F : Fr S w w') (hn : ¬ S SB) : Lx w' SB lex whole items last lists trials arith ends looks := by
  obtain ⟨c, h, r⟩ := h; exact ⟨c, F.obj h hn, r⟩
theorem Lx.lt (h : Lx w SB lex whole items last lists trials arith ends looks) : SB < w.heap.size := by obtain ⟨c, h, _⟩ := h; exact obj_lt h
theorem Lx.free (h : Lx w SB lex whole items last lists trials arith ends looks) (o : Nat) : w.frozen? ⟨SB, o, none⟩ = false := by obtain ⟨c, h, _⟩ := h; exact freeOf h o
theorem Lx.c0 (h : Lx w SB lex whole items last lists trials arith ends looks) : w.cell? ⟨SB, 0, none⟩ = some lex := by obtain ⟨c, h, h0, _⟩ := h; exact (cellOf h 0).trans h0
theorem Lx.c1 (h : Lx w SB lex whole items last lists trials arith ends looks) : w.cell? ⟨SB, 1, none⟩ = some whole := by obtain ⟨c, h, _, h0, _⟩ := h; exact (cellOf h 1).trans h0
theorem Lx.c4 (h : Lx w SB lex whole items last lists trials arith ends looks) : w.cell? ⟨SB, 4, none⟩ = some items := by obtain ⟨c, h, _, _, h0, _⟩ := h; exact (cellOf h 4).trans h0
theorem Lx.c5 (h : Lx w SB lex whole items last lists trials arith ends looks) : w.cell? ⟨SB, 5, none⟩ = some last := by obtain ⟨c, h, _, _, _, h0, _⟩ := h; exact (cellOf h 5).trans h0
theorem Lx.c6 (h : Lx w SB lex whole items last lists trials arith ends looks) : w.cell? ⟨SB, 6, none⟩ = some lists := by obtain ⟨c, h, _, _, _, _, h0, _⟩ := h; exact (cellOf h 6).trans h0
theorem Lx.c8 (h : Lx w SB lex whole items last lists trials arith ends looks) : w.cell? ⟨SB, 8, none⟩ = some trials := by obtain ⟨c, h, _, _, _, _, _, h0, _⟩ := h; exact (cellOf h 8).trans h0
theorem Lx.c9 (h : Lx w SB lex whole items last lists trials arith ends looks) : w.cell? ⟨SB, 9, none⟩ = some arith := by obtain ⟨c, h, _, _, _, _, _, _, h0, _⟩ := h; exact (cellOf h 9).trans h0
theorem Lx.c10 (h : Lx w SB lex whole items last lists trials arith ends looks) : w.cell? ⟨SB, 10, none⟩ = some ends := by obtain ⟨c, h, _, _, _, _, _, _, _, h0, _⟩ := h; exact (cellOf h 10).trans h0
theorem Lx.c1803 (h : Lx w SB lex whole items last lists trials arith ends looks) : w.cell? ⟨SB, 1803, none⟩ = some looks := by obtain ⟨c, h, _, _, _, _, _, _, _, _, h0⟩ := h; exact (cellOf h 1803).trans h0

theorem set_get {c : Array Value} {i j : Nat} {v u : Value} (h : c[j]? = some u) (hij : i ≠ j) : (c.setIfInBounds i v)[j]? = some u := by
  rw [Array.getElem?_setIfInBounds_ne hij]; exact h
theorem set_same {c : Array Value} {i : Nat} {v u : Value} (h : c[i]? = some u) : (c.setIfInBounds i v)[i]? = some v := by
  have := (Array.getElem?_eq_some_iff.1 h).1
  simp [this]

theorem Lx.set1 (h : Lx w SB lex whole items last lists trials arith ends looks) (v : Value) : Lx (w.setCell ⟨SB, 1, none⟩ v) SB lex v items last lists trials arith ends looks := by
  obtain ⟨c, h, h0, h1, h4, h5, h6, h8, h9, h10, h18⟩ := h
  exact ⟨_, heap_setCell h 1 v, set_get h0 (by decide), set_same h1, set_get h4 (by decide), set_get h5 (by decide), set_get h6 (by decide), set_get h8 (by decide), set_get h9 (by decide), set_get h10 (by decide), set_get h18 (by decide)⟩
theorem Lx.set4 (h : Lx w SB lex whole items last lists trials arith ends looks) (v : Value) : Lx (w.setCell ⟨SB, 4, none⟩ v) SB lex whole v last lists trials arith ends looks := by
  obtain ⟨c, h, h0, h1, h4, h5, h6, h8, h9, h10, h18⟩ := h
  exact ⟨_, heap_setCell h 4 v, set_get h0 (by decide), set_get h1 (by decide), set_same h4, set_get h5 (by decide), set_get h6 (by decide), set_get h8 (by decide), set_get h9 (by decide), set_get h10 (by decide), set_get h18 (by decide)⟩
theorem Lx.set5 (h : Lx w SB lex whole items last lists trials arith ends looks) (v : Value) : Lx (w.setCell ⟨SB, 5, none⟩ v) SB lex whole items v lists trials arith ends looks := by
  obtain ⟨c, h, h0, h1, h4, h5, h6, h8, h9, h10, h18⟩ := h
  exact ⟨_, heap_setCell h 5 v, set_get h0 (by decide), set_get h1 (by decide), set_get h4 (by decide), set_same h5, set_get h6 (by decide), set_get h8 (by decide), set_get h9 (by decide), set_get h10 (by decide), set_get h18 (by decide)⟩
theorem Lx.set6 (h : Lx w SB lex whole items last lists trials arith ends looks) (v : Value) : Lx (w.setCell ⟨SB, 6, none⟩ v) SB lex whole items last v trials arith ends looks := by
  obtain ⟨c, h, h0, h1, h4, h5, h6, h8, h9, h10, h18⟩ := h
  exact ⟨_, heap_setCell h 6 v, set_get h0 (by decide), set_get h1 (by decide), set_get h4 (by decide), set_get h5 (by decide), set_same h6, set_get h8 (by decide), set_get h9 (by decide), set_get h10 (by decide), set_get h18 (by decide)⟩
theorem Lx.set8 (h : Lx w SB lex whole items last lists trials arith ends looks) (v : Value) : Lx (w.setCell ⟨SB, 8, none⟩ v) SB lex whole items last lists v arith ends looks := by
  obtain ⟨c, h, h0, h1, h4, h5, h6, h8, h9, h10, h18⟩ := h
  exact ⟨_, heap_setCell h 8 v, set_get h0 (by decide), set_get h1 (by decide), set_get h4 (by decide), set_get h5 (by decide), set_get h6 (by decide), set_same h8, set_get h9 (by decide), set_get h10 (by decide), set_get h18 (by decide)⟩
theorem Lx.set9 (h : Lx w SB lex whole items last lists trials arith ends looks) (v : Value) : Lx (w.setCell ⟨SB, 9, none⟩ v) SB lex whole items last lists trials v ends looks := by
  obtain ⟨c, h, h0, h1, h4, h5, h6, h8, h9, h10, h18⟩ := h
  exact ⟨_, heap_setCell h 9 v, set_get h0 (by decide), set_get h1 (by decide), set_get h4 (by decide), set_get h5 (by decide), set_get h6 (by decide), set_get h8 (by decide), set_same h9, set_get h10 (by decide), set_get h18 (by decide)⟩
theorem Lx.set10 (h : Lx w SB lex whole items last lists trials arith ends looks) (v : Value) : Lx (w.setCell ⟨SB, 10, none⟩ v) SB lex whole items last lists trials arith v looks := by
  obtain ⟨c, h, h0, h1, h4, h5, h6, h8, h9, h10, h18⟩ := h
  exact ⟨_, heap_setCell h 10 v, set_get h0 (by decide), set_get h1 (by decide), set_get h4 (by decide), set_get h5 (by decide), set_get h6 (by decide), set_get h8 (by decide), set_get h9 (by decide), set_same h10, set_get h18 (by decide)⟩
theorem Lx.set1803 (h : Lx w SB lex whole items last lists trials arith ends looks) (v : Value) : Lx (w.setCell ⟨SB, 1803, none⟩ v) SB lex whole items last lists trials arith ends v := by
  obtain ⟨c, h, h0, h1, h4, h5, h6, h8, h9, h10, h18⟩ := h
  exact ⟨_, heap_setCell h 1803 v, set_get h0 (by decide), set_get h1 (by decide), set_get h4 (by decide), set_get h5 (by decide), set_get h6 (by decide), set_get h8 (by decide), set_get h9 (by decide), set_get h10 (by decide), set_same h18⟩
theorem Lx.frS (w : World) (SB i : Nat) (v : Value) : Fr (· = SB) w (w.setCell ⟨SB, i, none⟩ v) := Fr.setCell (S := (· = SB)) (p := ⟨SB, i, none⟩) (Fr.refl _ w) (.inl rfl) v
end

theorem eql25 (w : World) (a : Option Addr) (n c : Nat) : (binOp .eql 25 (.slice a n c) (.slice none 0 0)).run Yba.prog w = .ok (.bool a.isNone) w := Lib.run_eql_slice_nil w 25 _ a n c 0 0 Yba.underlying25
attribute [local go_sem] eql25

set_option maxRecDepth 100000 in
set_option maxHeartbeats 400000 in
theorem stop_any (w : World) (SB g m cap : Nat) (hm : m ≤ 1000) (h1 : w.cell? ⟨SB, 1, none⟩ = some (.slice (some ⟨g, 0, none⟩) (m + 1) cap)) :
    Calls Yba.prog 29 #[.pointer (some ⟨SB, 1, none⟩)] w fun e w' => e = .returned (.pointer (some ⟨g, m * 8, none⟩)) ∧ ∃ q, w' = w.drewN q := by
  go_enter Yba.func29, Yba.ntmps29
  go_wp2
  go_quiet (fail)
  go_wp2
  go_ret
  exact ⟨rfl, _, rfl⟩

set_option maxRecDepth 100000 in
set_option maxHeartbeats 400000 in
theorem top_any (w : World) (SB g m cap : Nat) (hm : m ≤ 1000) (h1 : w.cell? ⟨SB, 1, none⟩ = some (.slice (some ⟨g, 0, none⟩) (m + 1) cap)) :
    Calls Yba.prog 15 #[.pointer (some ⟨SB, 0, none⟩)] w fun e w' => e = .returned (.pointer (some ⟨g, m * 8, none⟩)) ∧ ∃ q, w' = w.drewN q := by
  go_enter Yba.func15, Yba.ntmps15
  go_wp2_with (go_at_call 29; refine (stop_any _ SB g m cap hm h1).mono ?_; rintro e w' ⟨rfl, q, rfl⟩)
  go_ret
  exact ⟨rfl, _, rfl⟩

set_option maxRecDepth 100000 in
set_option maxHeartbeats 400000 in
theorem drop_any (w : World) (SB g m cap : Nat) (hm : m ≤ 1000) (hc : m + 2 ≤ cap) (hcm : cap ≤ 1000) (h1 : w.cell? ⟨SB, 1, none⟩ = some (.slice (some ⟨g, 0, none⟩) (m + 2) cap)) (hf : w.frozen? ⟨SB, 1, none⟩ = false) :
    Calls Yba.prog 16 #[.pointer (some ⟨SB, 1, none⟩)] w fun e w' => e = .returned (.tuple #[]) ∧ w' = w.setCell ⟨SB, 1, none⟩ (.slice (some ⟨g, 0, none⟩) (m + 1) cap) := by
  go_enter Yba.func16, Yba.ntmps16
  go_wp2
  go_end0
  exact ⟨rfl, rfl⟩

end Go.Proofs.Ybulkabbe
