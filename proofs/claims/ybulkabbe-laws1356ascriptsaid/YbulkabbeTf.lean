import Derived.Test.YbulkabbeTe
import Derived.Laws.StructEq
/- slices.Clone, slices.Equal, zzs1356asorted. -/
namespace Go.Proofs.Ybulkabbe
open Go.RowKit Go.Proofs Go.Shelf
set_option linter.unusedVariables false

theorem eql46 (w : World) (a : Option Addr) (n c : Nat) : (binOp .eql 46 (.slice a n c) (.slice none 0 0)).run Yba.prog w = .ok (.bool a.isNone) w := Lib.run_eql_slice_nil w 46 _ a n c 0 0 Yba.underlying46
attribute [local go_sem] eql46

set_option maxRecDepth 100000 in
set_option maxHeartbeats 800000 in
theorem clone_nil (w : World) : Calls Yba.prog 5 #[.slice none 0 0] w fun e w' => e = .returned (.slice none 0 0) ∧ w' = w := by
  go_enter Yba.func5, Yba.ntmps5
  go_wp2
  go_ret
  exact ⟨rfl, rfl⟩

def ClonePost (w : World) (E : List En) (e : Ending) (w' : World) : Prop := ∃ v, e = .returned v ∧ Own w' w.heap.size v E ∧ Fr (fun _ => False) w w'

set_option maxRecDepth 100000 in
set_option maxHeartbeats 800000 in
theorem clone_some (w : World) (base g n cap : Nat) (E : List En) (hn : E.length = n) (h0 : 0 < n) (hl : n ≤ 1024) (hO : Own w base (.slice (some ⟨g, 0, none⟩) n cap) E) :
    Calls Yba.prog 5 #[.slice (some ⟨g, 0, none⟩) n cap] w fun e w' => ClonePost w E e w' := by
  obtain ⟨i49, hi, hz0, hz1, hz2⟩ := info_parts Yba.info49f
  have hgl : g < w.heap.size := by
    rcases hO.form with ⟨h, _⟩ | ⟨g', c, cur, h, _, h2, _⟩
    · cases h
    · simp only [Value.slice.injEq, Option.some.injEq, Addr.mk.injEq] at h
      rw [h.1.1]; exact obj_lt h2
  have hcell : ∀ o, ∀ j u, (rows E)[j]? = some u → (w.alloc o).cell? ((⟨g, 0, none⟩ : Addr).add j) = some u := fun o j u hj => by
    rw [addr_addT, Nat.zero_add]
    have hO' : w.ownsRow base 49 6 (.slice (some ⟨g, 0, none⟩) n cap) n (rows E) := by have := hO; unfold Own at this; rwa [hn] at this
    exact Lib.cell?_alloc_some o (owns_at hO' hj)
  have hrl : (rows E).length = n * 6 := by rw [rows_length, hn]
  have hml : 0 + n ≤ maxLen := by unfold maxLen; omega
  have he : ∀ o, o = Obj.cells #[] 49 → (w.alloc o).ownsRow w.heap.size 49 6 (.slice (some ⟨w.heap.size, 0, none⟩) 0 0) 0 [] := fun o ho => by
    subst ho
    exact ⟨rfl, .inr ⟨w.heap.size, 0, #[], rfl, Nat.le_refl _, heap_alloc_new w _, by omega, by unfold maxLen; omega, rfl, rfl⟩⟩
  have HO := hid hn
  clear hO hn
  go_enter Yba.func5, Yba.ntmps5
  go_wp2_with (at_builtin; refine wpList_append_fr _ rfl (.tmp 5) (.tmp 6) 46 rfl w.heap.size 49 i49 _ 6 40 Yba.underlying46 hi hz0 hz1 hz2 rfl (.slice (some ⟨w.heap.size, 0, none⟩) 0 0) 0 [] (by rfl) (he _ rfl) ⟨g, 0, none⟩ n cap (rows E) (by rfl) hrl (hcell _) (rows_one E) h0 hml (by omega) (by simp) ?_; intro g' cap' w1 how hcase)
  go_ret
  obtain rfl := HO.out
  refine ⟨_, rfl, ?_, ?_⟩
  · simpa using how
  · rcases hcase with ⟨h, h', _⟩ | ⟨_, _, h⟩
    · simp only [Value.slice.injEq] at h; omega
    · exact ((Fr.refl _ w).alloc _).trans h

theorem eqIn49 (w : World) (d : Nat) (e : En) : (Op.equalIn (d + 2) 49 (.agg e.cells.toArray) (.agg e.cells.toArray)).run Yba.prog w = .ok true w := by
  have u3 := Yba.underlying3
  have a3 := Yba.isAgg3
  have z3 := Yba.sizeOf3
  have u4 := Yba.underlying4
  have a4 := Yba.isAgg4
  have z4 := Yba.sizeOf4
  have u47 := Yba.underlying47
  have a47 := Yba.isAgg47
  have z47 := Yba.sizeOf47
  have hS : Yba.prog.underlying 49 = some (.struct (Yba.prog.fieldsOf 49)) := by kernel_rfl
  have hp : Yba.prog.stoodInHeld 49 = false := by kernel_rfl
  rw [show d + 2 = (d + 1) + 1 from rfl, run_equalIn_agg w (d + 1) 49 _ _ hS hp]
  simp only [Program.fieldsOf, Yba.underlying49, En.cells]
  go_simp

theorem neq49 (w : World) (e : En) : (binOp .neq 49 (.agg e.cells.toArray) (.agg e.cells.toArray)).run Yba.prog w = .ok (.bool false) w := by
  rw [run_neq_struct, show (10000 : Nat) = 9998 + 2 from rfl, eqIn49]
  rfl

end Go.Proofs.Ybulkabbe
