import Derived.Test.YbulkabbeTj
/- keepEnd of a long context: its end. -/
namespace Go.Proofs.Ybulkabbe
open Go.RowKit Go.Proofs Go.Shelf
set_option linter.unusedVariables false

theorem long_post {w w7 : World} {base SB i L g' cap' cap : Nat} {sa : Option Addr} {a pos : Int} {k : En} {E L' : List En} {c : Array Value} {I : Nat → Prop} (hI : I i) (hS7 : w7.heap[SB]? = some (.cells c 54 (0, 0))) (hL : L' = after a pos k E i) (hlen : L = L'.length)
    (hO7 : Own w7 base (.slice (some ⟨g', 0, none⟩) L cap') L') (hF : Fr (fun b => b = SB ∨ (Value.slice sa E.length cap).ownBlock = some b) w w7) :
    LongPost w base SB c sa cap E a pos k I (.returned (.tuple #[])) (w7.setCell ⟨SB, 10, none⟩ (.slice (some ⟨g', 0, none⟩) L cap')) := by
  subst hL
  subst hlen
  have hg : g' ≠ SB := by
    intro e
    obtain ⟨cur, h, _⟩ := owns_form hO7 (k := g') rfl
    subst e
    rw [hS7] at h
    simp at h
  refine ⟨i, g', cap', hI, rfl, heap_setCell hS7 10 _, ?_, hF.setCell (p := ⟨SB, 10, none⟩) (.inl (.inl rfl)) _⟩
  exact owns_fr (S := (· = SB)) hO7 ((Fr.refl (· = SB) w7).setCell (p := ⟨SB, 10, none⟩) (.inl rfl) _) (fun k hk e => by simp only [Value.ownBlock, Option.some.injEq] at hk; omega)

theorem long_end {w wd wr w7 : World} {base g n cap i nn SB LB g' cap' : Nat} {a pos ctx : Int} {E E' : List En} {c : Array Value} {I : Nat → Prop} (hI : I i) (h : Flt wd wr base g n cap i (n - i) nn a pos E E') (hin : i ≤ n) (hinn : i ≤ nn) (hnn : nn ≤ n) (hg : g < w.heap.size ∧ g ≠ SB ∧ g ≠ LB)
    (hFw : Fr (fun _ => False) w wd) (hSr : wr.heap[SB]? = some (.cells c 54 (0, 0))) (hO7 : Own w7 base (.slice (some ⟨g', 0, none⟩) (nn + 1) cap') ((E'.take nn).take i ++ keptOf ctx a pos :: (E'.take nn).drop i)) (hF7 : Fr (· = g) wr w7) :
    LongPost w base SB c (some ⟨g, 0, none⟩) cap E a pos (keptOf ctx a pos) I (.returned (.tuple #[])) (w7.setCell ⟨SB, 10, none⟩ (.slice (some ⟨g', 0, none⟩) (nn + 1) cap')) := by
  have hl : (E.take i).length = i := by rw [List.length_take, h.elen]; omega
  have hd : (E.drop i).take (n - i) = E.drop i := List.take_of_length_le (by rw [List.length_drop, h.elen]; omega)
  have htk := h.tk
  rw [hd] at htk
  have hll : (E'.take nn).length = nn := by rw [List.length_take, h.len]; omega
  refine long_post hI (hF7.obj hSr (fun e => hg.2.1 e.symm)) ?_ ?_ hO7 ?_
  · rw [htk]
    unfold after
    rw [List.take_left' hl, List.drop_left' hl]
  · rw [List.length_append, List.length_cons, List.length_take, List.length_drop, hll]; omega
  · have F1 : Fr (· = g) w w7 := ((hFw.mono (fun _ _ h => h.elim)).trans h.fr).trans hF7
    exact F1.mono (fun b _ e => .inr (by simp [Value.ownBlock, e]))

/-- The same of no ends. -/
def NilPost (w wr : World) (base SB : Nat) (v : Value) (a pos ctx : Int) (e : Ending) (w' : World) : Prop :=
  ∃ g' cap', e = .returned (.slice (some ⟨g', 0, none⟩) 1 cap') ∧ Own w' base (.slice (some ⟨g', 0, none⟩) 1 cap') [keptOf ctx a pos] ∧ Fr (fun _ => False) wr w' ∧
    w'.cell? ⟨w.heap.size, 0, none⟩ = some (.pointer (some ⟨SB, 0, none⟩)) ∧ w'.cell? ⟨SB, 10, none⟩ = some v ∧ w'.frozen? ⟨SB, 10, none⟩ = false ∧ w'.cell? ⟨w.heap.size + 2, 0, none⟩ = some (.int .i64 a) ∧ w'.cell? ⟨w.heap.size + 2, 1, none⟩ = some (.int .i64 pos) ∧ w'.cell? ⟨w.heap.size + 2, 2, none⟩ = some (.int .i64 (-1)) ∧ w'.cell? ⟨w.heap.size + 2, 3, none⟩ = some (.int .u8 ctx) ∧ w'.cell? ⟨w.heap.size + 2, 4, none⟩ = some (.bool false) ∧ w'.cell? ⟨w.heap.size + 2, 5, none⟩ = some (.int .i64 0)

theorem nil_call {w wr : World} {base SB : Nat} {a pos ctx : Int} {v : Value} {c : Array Value} (hO : Own wr base (.slice none 0 0) []) (hb : base ≤ wr.heap.size)
    (hS : wr.heap[SB]? = some (.cells c 54 (0, 0))) (v10 : wr.cell? ⟨SB, 10, none⟩ = some v) (vb0 : wr.cell? ⟨w.heap.size, 0, none⟩ = some (.pointer (some ⟨SB, 0, none⟩)))
    (k0 : wr.cell? ⟨w.heap.size + 2, 0, none⟩ = some (.int .i64 a)) (k1 : wr.cell? ⟨w.heap.size + 2, 1, none⟩ = some (.int .i64 pos)) (k2 : wr.cell? ⟨w.heap.size + 2, 2, none⟩ = some (.int .i64 (-1))) (k3 : wr.cell? ⟨w.heap.size + 2, 3, none⟩ = some (.int .u8 ctx)) (k4 : wr.cell? ⟨w.heap.size + 2, 4, none⟩ = some (.bool false)) (k5 : wr.cell? ⟨w.heap.size + 2, 5, none⟩ = some (.int .i64 0)) :
    Calls Yba.prog 14 #[.slice none 0 0, .int .i64 0, .slice (some ⟨wr.heap.size, 0, none⟩) 1 1] (wr.alloc (.cells #[.int .i64 a, .int .i64 pos, .int .i64 (-1), .int .u8 ctx, .bool false, .int .i64 0] 49)).drew fun e w' => NilPost w wr base SB v a pos ctx e w' := by
  have F0 : Fr (fun _ => False) wr (wr.alloc (.cells #[.int .i64 a, .int .i64 pos, .int .i64 (-1), .int .u8 ctx, .bool false, .int .i64 0] 49)).drew := ((Fr.refl _ wr).alloc _).drew
  have hO' : Own (wr.alloc (.cells #[.int .i64 a, .int .i64 pos, .int .i64 (-1), .int .u8 ctx, .bool false, .int .i64 0] 49)).drew base (.slice none 0 0) [] := owns_fr hO F0 (fun _ _ h => h)
  have hv : (wr.alloc (.cells #[.int .i64 a, .int .i64 pos, .int .i64 (-1), .int .u8 ctx, .bool false, .int .i64 0] 49)).drew.heap[wr.heap.size]? = some (.cells (keptOf ctx a pos).cells.toArray 49 (0, 0)) := heap_alloc_new wr _
  have hs0 := F0.size
  refine (insert_any _ base none 0 0 0 wr.heap.size 1 [] (keptOf ctx a pos) rfl (by omega) (by omega) (by omega) hO' hv (fun e => by cases e)).mono ?_
  rintro e w' ⟨g', cap', rfl, hO7, hF'⟩
  have FF : Fr (fun _ => False) wr w' := F0.trans (hF'.mono (fun b _ e => by simp [Value.ownBlock] at e))
  exact ⟨g', cap', rfl, hO7, FF, FF.cell vb0 (fun h => h), FF.cell v10 (fun h => h), freeOf (FF.obj hS (fun h => h)) 10, FF.cell k0 (fun h => h), FF.cell k1 (fun h => h), FF.cell k2 (fun h => h), FF.cell k3 (fun h => h), FF.cell k4 (fun h => h), FF.cell k5 (fun h => h)⟩

theorem nil_end {w wd w7 : World} {base SB g' cap' : Nat} {a pos ctx : Int} {c : Array Value} {I : Nat → Prop} (hI : I 0)
    (hFw : Fr (fun _ => False) w wd) (hSr : wd.heap[SB]? = some (.cells c 54 (0, 0))) (hO7 : Own w7 base (.slice (some ⟨g', 0, none⟩) 1 cap') [keptOf ctx a pos]) (hF7 : Fr (fun _ => False) wd w7) :
    LongPost w base SB c none 0 [] a pos (keptOf ctx a pos) I (.returned (.tuple #[])) (w7.setCell ⟨SB, 10, none⟩ (.slice (some ⟨g', 0, none⟩) 1 cap')) :=
  long_post hI (hF7.obj hSr (fun h => h)) (by simp [after, kept']) rfl hO7 ((hFw.trans hF7).mono (fun _ _ h => h.elim))

end Go.Proofs.Ybulkabbe
