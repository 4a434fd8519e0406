import Derived.Test.YbulkabbeUb
/- For the law's walk: how what holds is carried over a step. -/
namespace Go.Proofs.Ybulkabbe
open Go.RowKit Go.Proofs Go.Shelf
set_option linter.unusedVariables false

section
variable {w0 w w' : World} {SB LB k n cap : Nat} {looks pos : Int} {sa : Option Addr} {c : Array Value} {E : List En} {L : List (En × Int)}

theorem Inv.step (h : Inv w0 w SB LB looks k pos sa n cap c E L) (F : Fr (fun _ => False) w w') : Inv w0 w' SB LB looks k pos sa n cap c E L :=
  ⟨h.sx.fr F (fun h => h) (fun h => h), h.len, h.le, h.nil, owns_fr h.own F (fun _ _ h => h), h.sorted, h.top, h.rec_, h.rl, h.p0, h.p1, h.fr.trans F, h.sb, h.lb⟩

/-- Where its blocks lie. -/
theorem Inv.below (h : Inv w0 w SB LB looks k pos sa n cap c E L) : SB < w.heap.size ∧ LB < w.heap.size ∧ SB ≠ LB ∧ ∀ b, (Value.slice sa n cap).ownBlock = some b → b < w.heap.size ∧ b ≠ SB ∧ b ≠ LB ∧ w0.heap.size ≤ b := by
  obtain ⟨d, hd, _⟩ := h.sx.hL
  refine ⟨obj_lt h.sx.hS, obj_lt hd, fun e => ?_, fun b hb => ?_⟩
  · subst e
    have := h.sx.hS
    rw [hd] at this
    simp at this
  · obtain ⟨cur, hc, hbb⟩ := owns_form h.own hb
    refine ⟨obj_lt hc, fun e => ?_, fun e => ?_, hbb⟩
    · subst e; have := h.sx.hS; rw [hc] at this; simp at this
    · subst e; rw [hd] at hc; simp at hc

theorem Inv.place (h : Inv w0 w SB LB looks k pos sa n cap c E L) (p : Int) (h0 : 0 ≤ p) (h1 : p ≤ 199 * (k + 1)) (hw : w' = w.setCell ⟨LB, 1, none⟩ (.int .i64 p)) : Inv w0 w' SB LB looks (k + 1) p sa n cap c E L ∧ Fr (· = LB) w w' := by
  subst hw
  obtain ⟨hb1, hb2, hb3, hb4⟩ := h.below
  have F : Fr (· = LB) w (w.setCell ⟨LB, 1, none⟩ (.int .i64 p)) := (Fr.refl (· = LB) w).setCell (p := ⟨LB, 1, none⟩) (.inl rfl) _
  obtain ⟨d, hd, hd1⟩ := h.sx.hL
  have hsz := (Array.getElem?_eq_some_iff.1 hd1).1
  refine ⟨⟨⟨F.obj h.sx.hS hb3, h.sx.size, h.sx.c0, h.sx.c4, h.sx.c10, h.sx.c18, d.setIfInBounds 1 (.int .i64 p), heap_setCell hd 1 _, by rw [Array.getElem?_setIfInBounds_self_of_lt hsz]⟩, h.len, by have := h.le; omega, h.nil, owns_fr h.own F (fun b hb e => (hb4 b hb).2.2.1 e), h.sorted, h.top, h.rec_, h.rl, h0, by simpa using h1, ?_, h.sb, h.lb⟩, F⟩
  exact h.fr.trans' F (fun i hi e => by have := h.lb; omega)

/-- An array put into a new block. -/
theorem stored (w : World) {z : Array Value} (hz : z.size = 1792) {L : List (En × Int)} (hL : L.length = 256) (hw : w' = (w.alloc (.cells z 52)).setCells w.heap.size 0 (recs L)) :
    Fr (fun _ => False) w w' ∧ w'.heap[w.heap.size]? = some (.cells (recs L).toArray 52 (0, 0)) := by
  subst hw
  refine ⟨fr_setCells _ _ _ ((Fr.refl _ w).alloc _) (.inr (Nat.le_refl _)), ?_⟩
  rw [heap_setCells (recs L) 0 _ z (heap_alloc_new w _), setL_whole _ _ (by rw [recs_len, hL, hz])]

/-- What lies behind B and is not turned. -/
structure Old (w : World) (B rB : Nat) (ta : Option Addr) (n tc : Nat) (E : List En) (L : List (En × Int)) : Prop where
  own : Own w B (.slice ta n tc) E
  rb : w.heap[rB]? = some (.cells (recs L).toArray 52 (0, 0))
  le : B ≤ rB
theorem Old.fr {S : Nat → Prop} {B rB tc : Nat} {ta : Option Addr} (h : Old w B rB ta n tc E L) (F : Fr S w w') (hS : ∀ b, S b → b < B) : Old w' B rB ta n tc E L := by
  refine ⟨owns_fr h.own F (fun b hb hs => ?_), F.obj h.rb (fun hs => ?_), h.le⟩
  · obtain ⟨_, _, h2⟩ := owns_form h.own hb
    have := hS b hs; omega
  · have := hS _ hs; have := h.le; omega

theorem Inv.short (h : Inv w0 w SB LB looks k pos sa n cap c E L) {m : Nat} (hm : m < 256) (x : En) (h1 : w'.heap[SB]? = some (.cells (setL c (11 + m * 7) (x.cells ++ [.int .i64 looks])) 54 (0, 0))) (F : Fr (· = SB) w w') :
    Inv w0 w' SB LB looks k pos sa n cap (setL c (11 + m * 7) (rec7 (x, looks))) E (L.set m (x, looks)) := by
  obtain ⟨hb1, hb2, hb3, hb4⟩ := h.below
  obtain ⟨d, hd, hd1⟩ := h.sx.hL
  have hs := h.sx.size
  have hg : ∀ j, (j < 11 ∨ 1803 ≤ j) → (setL c (11 + m * 7) (rec7 (x, looks)))[j]? = c[j]? := fun j hj => by
    rw [setL_get _ _ _ _ (by rw [rec7_len, hs]; omega), rec7_len, if_neg (by omega)]
  refine ⟨⟨h1, by rw [setL_size]; exact hs, (hg 0 (by omega)).trans h.sx.c0, (hg 4 (by omega)).trans h.sx.c4, (hg 10 (by omega)).trans h.sx.c10, (hg 1803 (by omega)).trans h.sx.c18, d, F.obj hd (fun e => hb3 e.symm), hd1⟩, h.len, h.le, h.nil, owns_fr h.own F (fun b hb e => (hb4 b hb).2.1 e), h.sorted, h.top, ?_, by rw [List.length_set]; exact h.rl, h.p0, h.p1, ?_, h.sb, h.lb⟩
  · exact mid_set hs h.rl h.rec_ hm _
  · exact h.fr.trans' F (fun i hi e => by have := h.sb; omega)

theorem Inv.long (h : Inv w0 w SB LB looks k pos sa n cap c E L) {a p : Int} {x : En} {i g cap' : Nat} (hk : Kept a p x E i) (hn : E.length + 1 ≤ k)
    (h1 : w'.heap[SB]? = some (.cells (c.setIfInBounds 10 (.slice (some ⟨g, 0, none⟩) (after a p x E i).length cap')) 54 (0, 0))) (hO : Own w' w0.heap.size (.slice (some ⟨g, 0, none⟩) (after a p x E i).length cap') (after a p x E i))
    (F : Fr (fun b => b = SB ∨ (Value.slice sa E.length cap).ownBlock = some b) w w') :
    Inv w0 w' SB LB looks k pos (some ⟨g, 0, none⟩) (after a p x E i).length cap' (c.setIfInBounds 10 (.slice (some ⟨g, 0, none⟩) (after a p x E i).length cap')) (after a p x E i) L := by
  obtain ⟨hb1, hb2, hb3, hb4⟩ := h.below
  rw [h.len] at F
  obtain ⟨d, hd, hd1⟩ := h.sx.hL
  have hs := h.sx.size
  refine ⟨⟨h1, by simp [hs], ?_, ?_, ?_, ?_, d, F.obj hd (fun e => ?_), hd1⟩, rfl, by have := hk.len; omega, fun e => by have := hk.lt; omega, hO, hk.sorted, hk.top, by rw [mid_ten]; exact h.rec_, h.rl, h.p0, h.p1, ?_, h.sb, h.lb⟩
  · rw [Array.getElem?_setIfInBounds_ne (by omega)]; exact h.sx.c0
  · rw [Array.getElem?_setIfInBounds_ne (by omega)]; exact h.sx.c4
  · rw [Array.getElem?_setIfInBounds_self_of_lt (by omega)]
  · rw [Array.getElem?_setIfInBounds_ne (by omega)]; exact h.sx.c18
  · rcases e with e | e
    · exact hb3 e.symm
    · exact (hb4 _ e).2.2.1 rfl
  · refine h.fr.trans' F (fun i hi e => ?_)
    rcases e with e | e
    · have := h.sb; omega
    · have := (hb4 _ e).2.2.2; omega
end

theorem want_set {L : List (En × Int)} (hL : L.length = 256) {m : Nat} (hm : m < 256) (x : En × Int) : setL (recs L).toArray (m * 7) (rec7 x) = (recs (L.set m x)).toArray := by
  rw [recs_set L m x (by omega)]
  apply Array.ext_getElem?
  intro j
  have hl : (rec7 x).length = 7 := rfl
  have hr : (recs L).length = 1792 := by rw [recs_len, hL]
  rw [setL_get _ _ _ _ (by rw [hl]; simp [hr]; omega), hl]
  simp only [List.getElem?_toArray]
  rw [List.getElem?_append, List.getElem?_append, List.length_append, List.length_take, hr, hl, List.getElem?_take, List.getElem?_drop]
  have e0 : min (m * 7) 1792 = m * 7 := by omega
  rw [e0]
  by_cases h1 : j < m * 7
  · rw [if_neg (by omega), if_pos (by omega), if_pos h1, if_pos h1]
  · by_cases h2 : j < m * 7 + 7
    · rw [if_pos (by omega), if_pos h2, if_neg h1]
    · rw [if_neg (by omega), if_neg h2]
      congr 1; omega

theorem wanted {w8 w9 : World} {B m : Nat} {L : List (En × Int)} {x : En} {looks : Int} (h : w8.heap[B]? = some (.cells (recs L).toArray 52 (0, 0))) (hL : L.length = 256) (hm : m < 256)
    (hw : w9 = (((((((w8.setCell ⟨B, m * 7, none⟩ (.int .i64 x.at_)).setCell ⟨B, m * 7 + 1, none⟩ (.int .i64 x.pos)).setCell ⟨B, m * 7 + 2, none⟩ (.int .i64 x.hd)).setCell ⟨B, m * 7 + 3, none⟩ (.int .u8 x.ctx)).setCell ⟨B, m * 7 + 4, none⟩ (.bool x.inner)).setCell ⟨B, m * 7 + 5, none⟩ (.int .i64 x.outer)).setCell ⟨B, m * 7 + 6, none⟩ (.int .i64 looks))) :
    w9.heap[B]? = some (.cells (recs (L.set m (x, looks))).toArray 52 (0, 0)) ∧ Fr (· = B) w8 w9 := by
  subst hw
  refine ⟨?_, (((((((Fr.refl (· = B) w8).setCell (p := ⟨B, m * 7, none⟩) (.inl rfl) _).setCell (p := ⟨B, m * 7 + 1, none⟩) (.inl rfl) _).setCell (p := ⟨B, m * 7 + 2, none⟩) (.inl rfl) _).setCell (p := ⟨B, m * 7 + 3, none⟩) (.inl rfl) _).setCell (p := ⟨B, m * 7 + 4, none⟩) (.inl rfl) _).setCell (p := ⟨B, m * 7 + 5, none⟩) (.inl rfl) _).setCell (p := ⟨B, m * 7 + 6, none⟩) (.inl rfl) _⟩
  rw [← want_set hL hm]
  exact heap_setCell (heap_setCell (heap_setCell (heap_setCell (heap_setCell (heap_setCell (heap_setCell h _ _) _ _) _ _) _ _) _ _) _ _) _ _

theorem seven52 {w : World} {B m : Nat} {L : List (En × Int)} (h : w.heap[B]? = some (.cells (recs L).toArray 52 (0, 0))) (hL : L.length = 256) (hm : m < 256) :
    ((∃ x, w.cell? ⟨B, m * 7, none⟩ = some x) ∧ (∃ x, w.cell? ⟨B, m * 7 + 1, none⟩ = some x) ∧ (∃ x, w.cell? ⟨B, m * 7 + 2, none⟩ = some x) ∧ (∃ x, w.cell? ⟨B, m * 7 + 3, none⟩ = some x) ∧ (∃ x, w.cell? ⟨B, m * 7 + 4, none⟩ = some x) ∧ (∃ x, w.cell? ⟨B, m * 7 + 5, none⟩ = some x) ∧ (∃ x, w.cell? ⟨B, m * 7 + 6, none⟩ = some x)) ∧
    (w.frozen? ⟨B, m * 7, none⟩ = false ∧ w.frozen? ⟨B, m * 7 + 1, none⟩ = false ∧ w.frozen? ⟨B, m * 7 + 2, none⟩ = false ∧ w.frozen? ⟨B, m * 7 + 3, none⟩ = false ∧ w.frozen? ⟨B, m * 7 + 4, none⟩ = false ∧ w.frozen? ⟨B, m * 7 + 5, none⟩ = false ∧ w.frozen? ⟨B, m * 7 + 6, none⟩ = false) := by
  have hr : (recs L).toArray.size = 1792 := by simp [recs_len, hL]
  have g : ∀ o, o < 1792 → ∃ x, w.cell? ⟨B, o, none⟩ = some x := fun o ho => ⟨(recs L).toArray[o]'(by rw [hr]; exact ho), (cellOf h o).trans (Array.getElem?_eq_getElem _)⟩
  exact ⟨⟨g _ (by omega), g _ (by omega), g _ (by omega), g _ (by omega), g _ (by omega), g _ (by omega), g _ (by omega)⟩, freeOf h _, freeOf h _, freeOf h _, freeOf h _, freeOf h _, freeOf h _, freeOf h _⟩

theorem info51 : (Yba.prog.info? 51).map (·.size) = some 7 := by kernel_rfl
theorem wanted' {w7 w8 w9 : World} {m : Nat} {L : List (En × Int)} {x : En} {looks : Int} (F : Fr (fun _ => False) w7 w8) (h : w8.heap[w7.heap.size]? = some (.cells (recs L).toArray 52 (0, 0))) (hL : L.length = 256) (hm : m < 256)
    (hw : w9 = w8.setCells w7.heap.size (m * 7) (rec7 (x, looks))) :
    w9.heap[w7.heap.size]? = some (.cells (recs (L.set m (x, looks))).toArray 52 (0, 0)) ∧ Fr (fun _ => False) w7 w9 := by
  subst hw
  refine ⟨?_, fr_setCells _ _ _ F (.inr (Nat.le_refl _))⟩
  rw [← want_set hL hm]
  exact heap_setCells _ _ _ _ h

end Go.Proofs.Ybulkabbe
