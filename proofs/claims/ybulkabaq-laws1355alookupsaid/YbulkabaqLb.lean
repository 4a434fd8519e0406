import Derived.Test.YbulkabaqLa
namespace Go.Proofs.Ybulkabaq
open Go.RowKit
set_option linter.unusedVariables false

/-- An instance as the law lays it. -/
def instCells (nm kd : ByteArray) (dc : Bool) (data : Value) (sent : Int) : Array Value :=
  #[.string nm, .pointer none, .chan none, .chan none, .string kd, .bool false, .bool dc, .bool false, .int .u8 0, .int .i64 0, data, .slice none 0 0, .int .i64 0, .int .i64 0, .int .i64 sent, .int .i64 0, .int .i64 0, .int .i64 0, .int .i64 0, .bool false, .pointer none]
/-- A result as decided hands it back. -/
def resCells (data : Value) (sent : Int) : Array Value :=
  #[.bool false, .int .u8 0, .int .i64 0, data, .slice none 0 0, .int .i64 0, .int .i64 0, .int .i64 sent, .int .i64 0, .int .i64 0, .int .i64 0, .int .i64 0, .bool false]

/-- What decided answers of an instance that it finds. -/
def decRes (dc : Bool) (kd' kd : ByteArray) (data : Value) (sent : Int) : Value :=
  if dc = true ∧ kd' = kd then .tuple #[.agg (resCells data sent), .bool true] else .tuple #[.agg (resCells (.slice none 0 0) 0), .bool false]
theorem decRes_yes (kd : ByteArray) (data : Value) (sent : Int) : decRes true kd kd data sent = .tuple #[.agg (resCells data sent), .bool true] := by simp [decRes]
theorem decRes_no {dc : Bool} {kd' kd : ByteArray} (h : ¬ (dc = true ∧ kd' = kd)) (data : Value) (sent : Int) : decRes dc kd' kd data sent = .tuple #[.agg (resCells (.slice none 0 0) 0), .bool false] := by
  unfold decRes; rw [if_neg h]

theorem toList_ne {a b : ByteArray} (h : ¬ a = b) : (a.toList == b.toList) = false := by
  rw [← beq_toListBytes]
  cases hh : a == b with
  | false => rfl
  | true => exact absurd ((Go.MapKept.bytes_beq a b).1 hh) h

theorem zero67 (w : World) : (zeroValue 67).run Yba.prog w = .ok (.pointer none) w := by
  have h : (Yba.prog.info? 67).map (fun i => i.zero) = some (some (.pointer none)) := by kernel_rfl
  obtain ⟨i, hi, hz⟩ := Option.map_eq_some_iff.1 h
  simp [zeroValue, typeInfo, hi, hz]

theorem relock_fr {w : World} {mb : Nat} {mc : Array Value} (hm : w.heap[mb]? = some (.cells mc 64 (0, 0))) (h17 : mc[17]? = some (.int .i32 0)) (o : Obj) :
    Fr (fun _ => False) w (((w.setCell ⟨mb, 17, none⟩ (.int .i32 1)).alloc o).setCell ⟨mb, 17, none⟩ (.int .i32 0)) := by
  have F : Fr (· = mb) w (((w.setCell ⟨mb, 17, none⟩ (.int .i32 1)).alloc o).setCell ⟨mb, 17, none⟩ (.int .i32 0)) :=
    Fr.setCell (S := (· = mb)) (p := ⟨mb, 17, none⟩) ((Fr.setCell (S := (· = mb)) (p := ⟨mb, 17, none⟩) (Fr.refl _ w) (.inl rfl) _).alloc o) (.inl rfl) _
  refine ⟨F.os, F.tape, F.output, F.size, fun k hk _ => ?_⟩
  by_cases e : k = mb
  · subst e
    have h1 := heap_setCell hm 17 (.int .i32 1)
    have h2 : ((w.setCell ⟨k, 17, none⟩ (.int .i32 1)).alloc o).heap[k]? = some (.cells (mc.setIfInBounds 17 (.int .i32 1)) 64 (0, 0)) := by
      rw [Below.heap_alloc _ _ _ (by rw [World.size_setCell]; exact hk)]; exact h1
    rw [heap_setCell h2, hm]
    congr 2
    have hlt := (Array.getElem?_eq_some_iff.1 h17).1
    apply Array.ext_getElem?
    intro i
    simp only [Array.getElem?_setIfInBounds]
    by_cases hi : 17 = i
    · subst hi
      simp [hlt]
      exact (Array.getElem?_eq_some_iff.1 h17).2.symm
    · simp [hi]
  · exact F.block k hk e

set_option maxRecDepth 100000 in
set_option maxHeartbeats 1000000 in
theorem decided_none (w : World) (mb ib : Nat) (q kd : ByteArray) (mc : Array Value) (es : Array MapEntry) (clock : Nat) (hm : w.heap[mb]? = some (.cells mc 64 (0, 0))) (h17 : mc[17]? = some (.int .i32 0)) (h19 : mc[19]? = some (.map (some ib)))
    (hi : w.heap[ib]? = some (.map es clock)) (hk : SKeys es) (hf : sfind q es.toList = none) :
    Calls Yba.prog 6 #[.pointer (some ⟨mb, 0, none⟩), .string q, .string kd] w fun e w' => e = .returned (.tuple #[.agg (resCells (.slice none 0 0) 0), .bool false]) ∧ Fr (fun _ => False) w w' := by
  have c17 := (cellOf hm 17).trans h17
  have c19 := (cellOf hm 19).trans h19
  have a17 : ∀ o, (w.alloc o).cell? ⟨mb, 17, none⟩ = some (.int .i32 0) := fun o => Lib.cell?_alloc_some o c17
  have f17 : ∀ o, (w.alloc o).frozen? ⟨mb, 17, none⟩ = false := fun o => by
    rw [World.frozen?_alloc_old _ _ _ (by have := obj_lt hm; simp; omega)]; exact freeOf hm 17
  have hb := obj_lt hm
  have a19 : ∀ o v, ((w.setCell ⟨mb, 17, none⟩ v).alloc o).cell? ⟨mb, 19, none⟩ = some (.map (some ib)) := fun o v => by
    exact Lib.cell?_alloc_some o ((World.cell?_setCell_other _ _ _ _ (by simp)).trans c19)
  have hlk : ∀ o v, (Instr.lookup 24 (.map (some ib)) (.string q) false).run Yba.prog ((w.setCell ⟨mb, 17, none⟩ v).alloc o) = .ok (.pointer none) ((w.setCell ⟨mb, 17, none⟩ v).alloc o) := by
    intro o v
    have hne : ib ≠ mb := fun e => by rw [e, hm] at hi; cases hi
    have hi' : ((w.setCell ⟨mb, 17, none⟩ v).alloc o).heap[ib]? = some (.map es clock) := by
      rw [Below.heap_alloc _ _ _ (by rw [World.size_setCell]; exact obj_lt hi), heap_setCell_ne hne]; exact hi
    have := run_lookup_s (P := Yba.prog) (mt := 24) Yba.underlying24 Yba.underlying9 hi' hk (zero67 _) q
    rw [this, hf]; rfl
  have d17 : ∀ o, ((w.setCell ⟨mb, 17, none⟩ (.int .i32 1)).alloc o).cell? ⟨mb, 17, none⟩ = some (.int .i32 1) := fun o => Lib.cell?_alloc_some o (World.cell?_setCell_same _ _ _ c17)
  have e17 : ∀ o, ((w.setCell ⟨mb, 17, none⟩ (.int .i32 1)).alloc o).frozen? ⟨mb, 17, none⟩ = false := fun o => by
    rw [World.frozen?_alloc_old _ _ _ (by simp; omega), World.frozen?_setCell]; exact freeOf hm 17
  have Hm := hid hm
  clear c17 c19 hm hi hk hf h19
  go_enter_defers Yba.func6, Yba.ntmps6
  go_wp2_with (go_at_call 14; refine (lock_any _ _ (a17 _) (f17 _)).mono ?_; rintro e w' ⟨rfl, rfl⟩)
  refine leaves_cons (f := 8) (args := #[.pointer (some ⟨mb, 17, none⟩)]) (by simp) (by simp [go_sem]) ?_
  refine (unlock_deferred ⟨mb, 17, none⟩ .returning _ (d17 _) (e17 _)).mono ?_
  rintro e u' w'' ⟨rfl, rfl, rfl⟩
  exact ⟨.tuple #[.agg (resCells (.slice none 0 0) 0), .bool false], by simp [results, Yba.results6, go_sem, resCells, hb], rfl, relock_fr Hm.out h17 _⟩

set_option maxRecDepth 100000 in
set_option maxHeartbeats 1000000 in
theorem decided_some (w : World) (mb ib : Nat) (q kd : ByteArray) (mc : Array Value) (es : Array MapEntry) (clock : Nat) (hm : w.heap[mb]? = some (.cells mc 64 (0, 0))) (h17 : mc[17]? = some (.int .i32 0)) (h19 : mc[19]? = some (.map (some ib)))
    (hi : w.heap[ib]? = some (.map es clock)) (hk : SKeys es) (bb : Nat) (nm kd' : ByteArray) (dc : Bool) (data : Value) (sent : Int) (hdat : ∃ a n c, data = .slice a n c) (hf : sfind q es.toList = some (.pointer (some ⟨bb, 0, none⟩))) (hbb : w.heap[bb]? = some (.cells (instCells nm kd' dc data sent) 80 (0, 0))) :
    Calls Yba.prog 6 #[.pointer (some ⟨mb, 0, none⟩), .string q, .string kd] w fun e w' => e = .returned (decRes dc kd' kd data sent) ∧ Fr (fun _ => False) w w' := by
  have c17 := (cellOf hm 17).trans h17
  have c19 := (cellOf hm 19).trans h19
  have a17 : ∀ o, (w.alloc o).cell? ⟨mb, 17, none⟩ = some (.int .i32 0) := fun o => Lib.cell?_alloc_some o c17
  have f17 : ∀ o, (w.alloc o).frozen? ⟨mb, 17, none⟩ = false := fun o => by
    rw [World.frozen?_alloc_old _ _ _ (by have := obj_lt hm; simp; omega)]; exact freeOf hm 17
  have hb := obj_lt hm
  have a19 : ∀ o v, ((w.setCell ⟨mb, 17, none⟩ v).alloc o).cell? ⟨mb, 19, none⟩ = some (.map (some ib)) := fun o v => by
    exact Lib.cell?_alloc_some o ((World.cell?_setCell_other _ _ _ _ (by simp)).trans c19)
  have hlk : ∀ o v, (Instr.lookup 24 (.map (some ib)) (.string q) false).run Yba.prog ((w.setCell ⟨mb, 17, none⟩ v).alloc o) = .ok (.pointer (some ⟨bb, 0, none⟩)) ((w.setCell ⟨mb, 17, none⟩ v).alloc o) := by
    intro o v
    have hne : ib ≠ mb := fun e => by rw [e, hm] at hi; cases hi
    have hi' : ((w.setCell ⟨mb, 17, none⟩ v).alloc o).heap[ib]? = some (.map es clock) := by
      rw [Below.heap_alloc _ _ _ (by rw [World.size_setCell]; exact obj_lt hi), heap_setCell_ne hne]; exact hi
    have := run_lookup_s (P := Yba.prog) (mt := 24) Yba.underlying24 Yba.underlying9 hi' hk (zero67 _) q
    rw [this, hf]; rfl
  have d17 : ∀ o, ((w.setCell ⟨mb, 17, none⟩ (.int .i32 1)).alloc o).cell? ⟨mb, 17, none⟩ = some (.int .i32 1) := fun o => Lib.cell?_alloc_some o (World.cell?_setCell_same _ _ _ c17)
  have e17 : ∀ o, ((w.setCell ⟨mb, 17, none⟩ (.int .i32 1)).alloc o).frozen? ⟨mb, 17, none⟩ = false := fun o => by
    rw [World.frozen?_alloc_old _ _ _ (by simp; omega), World.frozen?_setCell]; exact freeOf hm 17
  have hic : ∀ v o j, ((w.setCell ⟨mb, 17, none⟩ v).alloc o).cell? ⟨bb, j, none⟩ = #[.string nm, .pointer none, .chan none, .chan none, .string kd', .bool false, .bool dc, .bool false, .int .u8 0, .int .i64 0, data, .slice none 0 0, .int .i64 0, .int .i64 0, .int .i64 sent, .int .i64 0, .int .i64 0, .int .i64 0, .int .i64 0, .bool false, .pointer none][j]? := by
    intro v o j
    have hne : bb ≠ mb := fun e => by rw [e, hm] at hbb; cases hbb
    refine cellOf (t := 80) (f := (0, 0)) ?_ j
    rw [Below.heap_alloc _ _ _ (by rw [World.size_setCell]; exact obj_lt hbb), heap_setCell_ne hne]; exact hbb
  obtain ⟨da, dn, dcap, rfl⟩ := hdat
  have Hm := hid hm
  clear c17 c19 hm hi hk hf h19 hbb
  cases dc with
  | false =>
    go_enter_defers Yba.func6, Yba.ntmps6
    go_wp2_with (go_at_call 14; refine (lock_any _ _ (a17 _) (f17 _)).mono ?_; rintro e w' ⟨rfl, rfl⟩)
    refine leaves_cons (f := 8) (args := #[.pointer (some ⟨mb, 17, none⟩)]) (by simp) (by simp [go_sem]) ?_
    refine (unlock_deferred ⟨mb, 17, none⟩ .returning _ (d17 _) (e17 _)).mono ?_
    rintro e u' w'' ⟨rfl, rfl, rfl⟩
    exact ⟨.tuple #[.agg (resCells (.slice none 0 0) 0), .bool false], by simp [results, Yba.results6, go_sem, resCells, hb], by rw [decRes_no (by simp)], relock_fr Hm.out h17 _⟩
  | true =>
    by_cases hkk : kd' = kd
    · subst hkk
      go_enter_defers Yba.func6, Yba.ntmps6
      go_wp2_with (go_at_call 14; refine (lock_any _ _ (a17 _) (f17 _)).mono ?_; rintro e w' ⟨rfl, rfl⟩)
      refine leaves_cons (f := 8) (args := #[.pointer (some ⟨mb, 17, none⟩)]) (by simp) (by simp [go_sem]) ?_
      refine (unlock_deferred ⟨mb, 17, none⟩ .returning _ (d17 _) (e17 _)).mono ?_
      rintro e u' w'' ⟨rfl, rfl, rfl⟩
      exact ⟨.tuple #[.agg (resCells (.slice da dn dcap) sent), .bool true], by simp [results, Yba.results6, go_sem, resCells, hb], by rw [decRes_yes], relock_fr Hm.out h17 _⟩
    · have hne := toList_ne hkk
      go_enter_defers Yba.func6, Yba.ntmps6
      go_wp2_with (go_at_call 14; refine (lock_any _ _ (a17 _) (f17 _)).mono ?_; rintro e w' ⟨rfl, rfl⟩)
      refine leaves_cons (f := 8) (args := #[.pointer (some ⟨mb, 17, none⟩)]) (by simp) (by simp [go_sem]) ?_
      refine (unlock_deferred ⟨mb, 17, none⟩ .returning _ (d17 _) (e17 _)).mono ?_
      rintro e u' w'' ⟨rfl, rfl, rfl⟩
      exact ⟨.tuple #[.agg (resCells (.slice none 0 0) 0), .bool false], by simp [results, Yba.results6, go_sem, resCells, hb], by rw [decRes_no (fun h => hkk h.2)], relock_fr Hm.out h17 _⟩

end Go.Proofs.Ybulkabaq
