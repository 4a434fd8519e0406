import Derived.Test.YbulkabbeTi
/- keepEnd of a long context. -/
namespace Go.Proofs.Ybulkabbe
open Go.RowKit Go.Proofs Go.Shelf
set_option linter.unusedVariables false

theorem carry {wc w5 : World} {SB LB bs bf kb : Nat} {v : Value} {pos a : Int} {x0 x1 x2 x3 x4 x5 : Value} (F : Fr (fun _ => False) wc w5) (r0 : wc.cell? ⟨SB, 0, none⟩ = some (.pointer (some ⟨LB, 0, none⟩))) (r10 : wc.cell? ⟨SB, 10, none⟩ = some v) (rp : wc.cell? ⟨LB, 1, none⟩ = some (.int .i64 pos)) (b0 : wc.cell? ⟨bs, 0, none⟩ = some (.pointer (some ⟨SB, 0, none⟩))) (f1 : wc.cell? ⟨bf, 1, none⟩ = some (.int .i64 a))
    (k : wc.cell? ⟨kb, 0, none⟩ = some x0 ∧ wc.cell? ⟨kb, 1, none⟩ = some x1 ∧ wc.cell? ⟨kb, 2, none⟩ = some x2 ∧ wc.cell? ⟨kb, 3, none⟩ = some x3 ∧ wc.cell? ⟨kb, 4, none⟩ = some x4 ∧ wc.cell? ⟨kb, 5, none⟩ = some x5) :
    w5.cell? ⟨SB, 0, none⟩ = some (.pointer (some ⟨LB, 0, none⟩)) ∧ w5.cell? ⟨SB, 10, none⟩ = some v ∧ w5.cell? ⟨LB, 1, none⟩ = some (.int .i64 pos) ∧ w5.cell? ⟨bs, 0, none⟩ = some (.pointer (some ⟨SB, 0, none⟩)) ∧ w5.cell? ⟨bf, 1, none⟩ = some (.int .i64 a) ∧
      (w5.cell? ⟨kb, 0, none⟩ = some x0 ∧ w5.cell? ⟨kb, 1, none⟩ = some x1 ∧ w5.cell? ⟨kb, 2, none⟩ = some x2 ∧ w5.cell? ⟨kb, 3, none⟩ = some x3 ∧ w5.cell? ⟨kb, 4, none⟩ = some x4 ∧ w5.cell? ⟨kb, 5, none⟩ = some x5) := by
  obtain ⟨k0, k1, k2, k3, k4, k5⟩ := k
  exact ⟨F.cell r0 (fun h => h), F.cell r10 (fun h => h), F.cell rp (fun h => h), F.cell b0 (fun h => h), F.cell f1 (fun h => h), F.cell k0 (fun h => h), F.cell k1 (fun h => h), F.cell k2 (fun h => h), F.cell k3 (fun h => h), F.cell k4 (fun h => h), F.cell k5 (fun h => h)⟩

/-- How matters stand in the filter loop: t ends looked at, the first nn of the row laid. -/
structure Flt (wd wr : World) (base g n cap i t nn : Nat) (a pos : Int) (E E' : List En) : Prop where
  own : Own wr base (.slice (some ⟨g, 0, none⟩) n cap) E'
  len : E'.length = n
  elen : E.length = n
  le : nn ≤ i + t
  tk : E'.take nn = E.take i ++ kept' a pos ((E.drop i).take t)
  dp : E'.drop (i + t) = E.drop (i + t)
  fr : Fr (· = g) wd wr

theorem flt_start {wd : World} {base g n cap i : Nat} {a pos : Int} {E : List En} (h : Own wd base (.slice (some ⟨g, 0, none⟩) n cap) E) (hn : E.length = n) (hi : i ≤ n) : Flt wd wd base g n cap i 0 i a pos E E :=
  ⟨h, hn, hn, by omega, by simp [kept'], rfl, Fr.refl _ _⟩

theorem Flt.elem {wd wr : World} {base g n cap i t nn : Nat} {a pos : Int} {E E' : List En} (h : Flt wd wr base g n cap i t nn a pos E E') (ht : t < n - i) :
    ∃ e, E[i + t]? = some e ∧ (wr.cell? ⟨g, i * 6 + t * 6, none⟩ = some (.int .i64 e.at_) ∧ wr.cell? ⟨g, i * 6 + t * 6 + 1, none⟩ = some (.int .i64 e.pos) ∧ wr.cell? ⟨g, i * 6 + t * 6 + 2, none⟩ = some (.int .i64 e.hd) ∧ wr.cell? ⟨g, i * 6 + t * 6 + 3, none⟩ = some (.int .u8 e.ctx) ∧ wr.cell? ⟨g, i * 6 + t * 6 + 4, none⟩ = some (.bool e.inner) ∧ wr.cell? ⟨g, i * 6 + t * 6 + 5, none⟩ = some (.int .i64 e.outer)) := by
  have hl : i + t < E.length := by rw [h.elen]; omega
  have he : E[i + t]? = some E[i + t] := List.getElem?_eq_getElem hl
  have he' : E'[i + t]? = some E[i + t] := by
    have h1 := congrArg (fun l => l[0]?) h.dp
    simp only [List.getElem?_drop, Nat.add_zero] at h1
    rw [h1, he]
  have := h.own.six he'
  rw [Nat.add_mul] at this
  exact ⟨_, he, this⟩

theorem own_apart {w : World} {base SB LB n cap : Nat} {sa : Option Addr} {c : Array Value} {looks pos : Int} {E : List En} (hX : Sx w SB LB (.slice sa n cap) c looks pos) (hO : Own w base (.slice sa n cap) E) : ∀ g, sa = some ⟨g, 0, none⟩ → g < w.heap.size ∧ g ≠ SB ∧ g ≠ LB := by
  rintro g rfl
  rcases hO.form with ⟨h, _⟩ | ⟨g', c', cur, h, _, h2, _⟩
  · cases h
  · simp only [Value.slice.injEq, Option.some.injEq, Addr.mk.injEq] at h
    obtain ⟨⟨rfl, _⟩, _⟩ := h
    refine ⟨obj_lt h2, fun e => ?_, fun e => ?_⟩
    · subst e; have := hX.hS; rw [h2] at this; simp at this
    · subst e; obtain ⟨d, hd, _⟩ := hX.hL; rw [h2] at hd; simp at hd

theorem in_loop {w wd wr : World} {base g n cap i t nn SB LB : Nat} {a pos : Int} {E E' : List En} {v : Value} {e : En} (h : Flt wd wr base g n cap i t nn a pos E E') (hg : g < w.heap.size ∧ g ≠ SB ∧ g ≠ LB)
    (t0 : wd.cell? ⟨SB, 0, none⟩ = some (.pointer (some ⟨LB, 0, none⟩))) (t10 : wd.cell? ⟨SB, 10, none⟩ = some v) (tp : wd.cell? ⟨LB, 1, none⟩ = some (.int .i64 pos)) (tb0 : wd.cell? ⟨w.heap.size, 0, none⟩ = some (.pointer (some ⟨SB, 0, none⟩))) (tf1 : wd.cell? ⟨w.heap.size + 1, 1, none⟩ = some (.int .i64 a))
    {we : World} (hwe : we = wr.alloc (.cells #[.int .i64 e.at_, .int .i64 e.pos, .int .i64 e.hd, .int .u8 e.ctx, .bool e.inner, .int .i64 e.outer] 49) := by rfl) :
    we.cell? ⟨SB, 0, none⟩ = some (.pointer (some ⟨LB, 0, none⟩)) ∧ we.cell? ⟨SB, 10, none⟩ = some v ∧ we.cell? ⟨LB, 1, none⟩ = some (.int .i64 pos) ∧ we.cell? ⟨w.heap.size, 0, none⟩ = some (.pointer (some ⟨SB, 0, none⟩)) ∧ we.cell? ⟨w.heap.size + 1, 1, none⟩ = some (.int .i64 a) ∧
      (we.cell? ⟨wr.heap.size, 0, none⟩ = some (.int .i64 e.at_) ∧ we.cell? ⟨wr.heap.size, 1, none⟩ = some (.int .i64 e.pos) ∧ we.cell? ⟨wr.heap.size, 2, none⟩ = some (.int .i64 e.hd) ∧ we.cell? ⟨wr.heap.size, 3, none⟩ = some (.int .u8 e.ctx) ∧ we.cell? ⟨wr.heap.size, 4, none⟩ = some (.bool e.inner) ∧ we.cell? ⟨wr.heap.size, 5, none⟩ = some (.int .i64 e.outer) ∧ we.heap[wr.heap.size]? = some (.cells #[.int .i64 e.at_, .int .i64 e.pos, .int .i64 e.hd, .int .u8 e.ctx, .bool e.inner, .int .i64 e.outer] 49 (0, 0)) ∧ Fr (fun _ => False) wr we) := by
  subst hwe
  have F : Fr (· = g) wd (wr.alloc (.cells #[.int .i64 e.at_, .int .i64 e.pos, .int .i64 e.hd, .int .u8 e.ctx, .bool e.inner, .int .i64 e.outer] 49)) := h.fr.alloc _
  have hn := heap_alloc_new wr (.cells #[.int .i64 e.at_, .int .i64 e.pos, .int .i64 e.hd, .int .u8 e.ctx, .bool e.inner, .int .i64 e.outer] 49)
  exact ⟨F.cell t0 (fun e => hg.2.1 e.symm), F.cell t10 (fun e => hg.2.1 e.symm), F.cell tp (fun e => hg.2.2 e.symm), F.cell tb0 (by simp; omega), F.cell tf1 (by simp; omega), (cellOf hn 0).trans rfl, (cellOf hn 1).trans rfl, (cellOf hn 2).trans rfl, (cellOf hn 3).trans rfl, (cellOf hn 4).trans rfl, (cellOf hn 5).trans rfl, hn, (Fr.refl _ wr).alloc _⟩

/-- The end marked in its box; all else as it was. -/
theorem turned {w wd wr we : World} {base g n cap i t nn SB LB q : Nat} {a pos : Int} {E E' : List En} {v : Value} {e : En} (h : Flt wd wr base g n cap i t nn a pos E E') (hg : g < w.heap.size ∧ g ≠ SB ∧ g ≠ LB) (hSB : SB < w.heap.size) (hwd : w.heap.size < wd.heap.size) (hnl : nn < n)
    (hn : we.heap[wr.heap.size]? = some (.cells #[.int .i64 e.at_, .int .i64 e.pos, .int .i64 e.hd, .int .u8 e.ctx, .bool e.inner, .int .i64 e.outer] 49 (0, 0))) (F : Fr (fun _ => False) wr we) (v10 : we.cell? ⟨SB, 10, none⟩ = some v) (vb0 : we.cell? ⟨w.heap.size, 0, none⟩ = some (.pointer (some ⟨SB, 0, none⟩)))
    {w6 : World} (hw : w6 = ((we.drewN q).setCell ⟨wr.heap.size, 4, none⟩ (.bool true)).setCell ⟨wr.heap.size, 5, none⟩ (.int .i64 pos) := by rfl) :
    w6.cell? ⟨SB, 10, none⟩ = some v ∧ w6.cell? ⟨w.heap.size, 0, none⟩ = some (.pointer (some ⟨SB, 0, none⟩)) ∧
    w6.cell? ⟨wr.heap.size, 0, none⟩ = some (.int .i64 e.at_) ∧ w6.cell? ⟨wr.heap.size, 1, none⟩ = some (.int .i64 e.pos) ∧ w6.cell? ⟨wr.heap.size, 2, none⟩ = some (.int .i64 e.hd) ∧ w6.cell? ⟨wr.heap.size, 3, none⟩ = some (.int .u8 e.ctx) ∧ w6.cell? ⟨wr.heap.size, 4, none⟩ = some (.bool true) ∧ w6.cell? ⟨wr.heap.size, 5, none⟩ = some (.int .i64 pos) ∧
    (∃ x, w6.cell? ⟨g, nn * 6, none⟩ = some x) ∧ (∃ x, w6.cell? ⟨g, nn * 6 + 1, none⟩ = some x) ∧ (∃ x, w6.cell? ⟨g, nn * 6 + 2, none⟩ = some x) ∧ (∃ x, w6.cell? ⟨g, nn * 6 + 3, none⟩ = some x) ∧ (∃ x, w6.cell? ⟨g, nn * 6 + 4, none⟩ = some x) ∧ (∃ x, w6.cell? ⟨g, nn * 6 + 5, none⟩ = some x) ∧
    w6.frozen? ⟨g, nn * 6, none⟩ = false ∧ w6.frozen? ⟨g, nn * 6 + 1, none⟩ = false ∧ w6.frozen? ⟨g, nn * 6 + 2, none⟩ = false ∧ w6.frozen? ⟨g, nn * 6 + 3, none⟩ = false ∧ w6.frozen? ⟨g, nn * 6 + 4, none⟩ = false ∧ w6.frozen? ⟨g, nn * 6 + 5, none⟩ = false ∧
    Fr (fun _ => False) wr w6 := by
  have hwr : w.heap.size ≤ wr.heap.size ∨ True := .inr trivial
  have F6 : Fr (fun _ => False) wr w6 := by
    rw [hw]
    exact (((F.trans (c := we.drewN q) ⟨rfl, rfl, rfl, Nat.le_refl _, fun _ _ _ => rfl⟩).setCell (p := ⟨wr.heap.size, 4, none⟩) (.inr (Nat.le_refl _)) _).setCell (p := ⟨wr.heap.size, 5, none⟩) (.inr (Nat.le_refl _)) _)
  have FE : Fr (· = wr.heap.size) we w6 := by
    rw [hw]
    exact ((((Fr.refl (· = wr.heap.size) we).trans (c := we.drewN q) ⟨rfl, rfl, rfl, Nat.le_refl _, fun _ _ _ => rfl⟩).setCell (p := ⟨wr.heap.size, 4, none⟩) (.inl rfl) _).setCell (p := ⟨wr.heap.size, 5, none⟩) (.inl rfl) _)
  have hE : w6.heap[wr.heap.size]? = some (.cells #[.int .i64 e.at_, .int .i64 e.pos, .int .i64 e.hd, .int .u8 e.ctx, .bool true, .int .i64 pos] 49 (0, 0)) := by
    rw [hw]
    exact heap_setCell (heap_setCell (w := we.drewN q) hn 4 _) 5 _
  have hOr : Own w6 base (.slice (some ⟨g, 0, none⟩) n cap) E' := owns_fr h.own F6 (fun _ _ h => h)
  obtain ⟨x, hx⟩ : ∃ x, E'[nn]? = some x := ⟨_, List.getElem?_eq_getElem (by rw [h.len]; exact hnl)⟩
  have s := hOr.six hx
  obtain ⟨cur, hcur⟩ : ∃ cur, w6.heap[g]? = some (.cells cur 49 (0, 0)) := by
    rcases hOr.form with ⟨h, _⟩ | ⟨g', c', cur, h, _, h2, _⟩
    · cases h
    · simp only [Value.slice.injEq, Option.some.injEq, Addr.mk.injEq] at h
      obtain ⟨⟨rfl, _⟩, _⟩ := h
      exact ⟨cur, h2⟩
  have hgl : g < wr.heap.size := by
    obtain ⟨_, h', _⟩ := owns_form h.own (k := g) rfl
    exact obj_lt h'
  have hsz := h.fr.size
  have hS' : SB ≠ wr.heap.size := by omega
  have hB' : w.heap.size ≠ wr.heap.size := by omega
  exact ⟨FE.cell v10 hS', FE.cell vb0 hB', (cellOf hE 0).trans rfl, (cellOf hE 1).trans rfl, (cellOf hE 2).trans rfl, (cellOf hE 3).trans rfl, (cellOf hE 4).trans rfl, (cellOf hE 5).trans rfl, ⟨_, s.1⟩, ⟨_, s.2.1⟩, ⟨_, s.2.2.1⟩, ⟨_, s.2.2.2.1⟩, ⟨_, s.2.2.2.2.1⟩, ⟨_, s.2.2.2.2.2⟩, freeOf hcur _, freeOf hcur _, freeOf hcur _, freeOf hcur _, freeOf hcur _, freeOf hcur _, F6⟩

theorem take_snoc {E : List En} {i t : Nat} {e : En} (he : E[i + t]? = some e) : (E.drop i).take (t + 1) = (E.drop i).take t ++ [e] := by
  have h1 : (E.drop i)[t]? = some e := by rw [List.getElem?_drop]; exact he
  rw [List.take_add_one, h1]; rfl

theorem flt_no {wd wr wx : World} {base g n cap i t nn : Nat} {a pos : Int} {E E' : List En} {e : En} (h : Flt wd wr base g n cap i t nn a pos E E') (he : E[i + t]? = some e) (hgo : goes a pos e = false) (F : Fr (fun _ => False) wr wx) : Flt wd wx base g n cap i (t + 1) nn a pos E E' := by
  refine ⟨owns_fr h.own F (fun _ _ h => h), h.len, h.elen, by have := h.le; omega, ?_, ?_, h.fr.trans' F (fun _ _ h => h.elim)⟩
  · rw [h.tk, take_snoc he, kept'_snoc]; simp [hgo]
  · have := congrArg (List.drop 1) h.dp
    simpa [List.drop_drop, Nat.add_assoc] using this

theorem flt_go {wd wr w6 : World} {base g n cap i t nn : Nat} {a pos : Int} {E E' : List En} {e : En} (h : Flt wd wr base g n cap i t nn a pos E E') (he : E[i + t]? = some e) (hgo : goes a pos e = true) (hnl : nn < n) (F : Fr (fun _ => False) wr w6) :
    Flt wd ((((((w6.setCell ⟨g, nn * 6, none⟩ (.int .i64 e.at_)).setCell ⟨g, nn * 6 + 1, none⟩ (.int .i64 e.pos)).setCell ⟨g, nn * 6 + 2, none⟩ (.int .i64 e.hd)).setCell ⟨g, nn * 6 + 3, none⟩ (.int .u8 e.ctx)).setCell ⟨g, nn * 6 + 4, none⟩ (.bool true)).setCell ⟨g, nn * 6 + 5, none⟩ (.int .i64 pos)).drew base g n cap i (t + 1) (nn + 1) a pos E (E'.set nn (mark pos e)) := by
  have hO6 : Own w6 base (.slice (some ⟨g, 0, none⟩) n cap) E' := owns_fr h.own F (fun _ _ h => h)
  have hl : nn < E'.length := by rw [h.len]; exact hnl
  have hle := h.le
  have hset := hO6.set (e := mark pos e) hl
  simp only [mark] at hset
  have hset' := owns_fr (S := fun _ => False) hset (Fr.refl _ _).drew (fun _ _ h => h)
  refine ⟨hset', by rw [List.length_set, h.len], h.elen, by omega, ?_, ?_, ?_⟩
  · have e1 : (E'.set nn (mark pos e)).take (nn + 1) = E'.take nn ++ [mark pos e] := by
      rw [List.take_add_one, List.take_set_of_le (by omega)]
      simp [hl]
    rw [e1, h.tk, take_snoc he, kept'_snoc]
    simp [hgo]
  · rw [List.drop_set_of_lt (by omega)]
    have := congrArg (List.drop 1) h.dp
    simpa [List.drop_drop, Nat.add_assoc] using this
  · exact (((((((h.fr.trans' F (fun _ _ h => h.elim)).setCell (p := ⟨g, nn * 6, none⟩) (.inl rfl) _).setCell (p := ⟨g, nn * 6 + 1, none⟩) (.inl rfl) _).setCell (p := ⟨g, nn * 6 + 2, none⟩) (.inl rfl) _).setCell (p := ⟨g, nn * 6 + 3, none⟩) (.inl rfl) _).setCell (p := ⟨g, nn * 6 + 4, none⟩) (.inl rfl) _).setCell (p := ⟨g, nn * 6 + 5, none⟩) (.inl rfl) _).drew

theorem at_exit {w wd wr : World} {base g n cap i t nn SB LB : Nat} {a pos : Int} {E E' : List En} {v x0 x1 x2 x3 x4 x5 : Value} (h : Flt wd wr base g n cap i t nn a pos E E') (hg : g < w.heap.size ∧ g ≠ SB ∧ g ≠ LB)
    (t10 : wd.cell? ⟨SB, 10, none⟩ = some v) (tb0 : wd.cell? ⟨w.heap.size, 0, none⟩ = some (.pointer (some ⟨SB, 0, none⟩)))
    (k : wd.cell? ⟨w.heap.size + 2, 0, none⟩ = some x0 ∧ wd.cell? ⟨w.heap.size + 2, 1, none⟩ = some x1 ∧ wd.cell? ⟨w.heap.size + 2, 2, none⟩ = some x2 ∧ wd.cell? ⟨w.heap.size + 2, 3, none⟩ = some x3 ∧ wd.cell? ⟨w.heap.size + 2, 4, none⟩ = some x4 ∧ wd.cell? ⟨w.heap.size + 2, 5, none⟩ = some x5) :
    wr.cell? ⟨SB, 10, none⟩ = some v ∧ wr.cell? ⟨w.heap.size, 0, none⟩ = some (.pointer (some ⟨SB, 0, none⟩)) ∧ wr.cell? ⟨w.heap.size + 2, 0, none⟩ = some x0 ∧ wr.cell? ⟨w.heap.size + 2, 1, none⟩ = some x1 ∧ wr.cell? ⟨w.heap.size + 2, 2, none⟩ = some x2 ∧ wr.cell? ⟨w.heap.size + 2, 3, none⟩ = some x3 ∧ wr.cell? ⟨w.heap.size + 2, 4, none⟩ = some x4 ∧ wr.cell? ⟨w.heap.size + 2, 5, none⟩ = some x5 := by
  obtain ⟨k0, k1, k2, k3, k4, k5⟩ := k
  exact ⟨h.fr.cell t10 (fun e => hg.2.1 e.symm), h.fr.cell tb0 (by simp; omega), h.fr.cell k0 (by simp; omega), h.fr.cell k1 (by simp; omega), h.fr.cell k2 (by simp; omega), h.fr.cell k3 (by simp; omega), h.fr.cell k4 (by simp; omega), h.fr.cell k5 (by simp; omega)⟩

theorem Own.take {w : World} {base g cap n k : Nat} {E : List En} (h : Own w base (.slice (some ⟨g, 0, none⟩) n cap) E) (hk : k ≤ E.length) : Own w base (.slice (some ⟨g, 0, none⟩) k cap) (E.take k) := by
  rcases h.form with ⟨h1, _⟩ | ⟨g', cap', cur, h1, h2, h3, h4, h5, h6, h7⟩
  · cases h1
  · simp only [Value.slice.injEq, Option.some.injEq, Addr.mk.injEq] at h1
    obtain ⟨⟨rfl, _, _⟩, rfl, rfl⟩ := h1
    have hl : (E.take k).length = k := by rw [List.length_take]; omega
    show World.ownsRow _ base 49 6 _ _ _
    rw [hl]
    refine ⟨by rw [rows_length, hl], .inr ⟨g, cap, cur, rfl, h2, h3, by omega, h5, h6, ?_⟩⟩
    rw [← rows_take, ← h7, List.take_take, Nat.min_eq_left (by omega)]

def LongPost (w : World) (base SB : Nat) (c : Array Value) (sa : Option Addr) (cap : Nat) (E : List En) (a pos : Int) (k : En) (i0 : Nat → Prop) (e : Ending) (w' : World) : Prop :=
  ∃ i g cap', i0 i ∧ e = .returned (.tuple #[]) ∧ w'.heap[SB]? = some (.cells (c.setIfInBounds 10 (.slice (some ⟨g, 0, none⟩) (after a pos k E i).length cap')) 54 (0, 0)) ∧ Own w' base (.slice (some ⟨g, 0, none⟩) (after a pos k E i).length cap') (after a pos k E i) ∧
    Fr (fun b => b = SB ∨ (Value.slice sa E.length cap).ownBlock = some b) w w'

/-- What the last call leaves, and the cells that the region still reads. -/
def ExitPost (w wr : World) (base SB : Nat) (v : Value) (g i nn : Nat) (a pos ctx : Int) (E' : List En) (e : Ending) (w' : World) : Prop :=
  ∃ g' cap', e = .returned (.slice (some ⟨g', 0, none⟩) (nn + 1) cap') ∧ Own w' base (.slice (some ⟨g', 0, none⟩) (nn + 1) cap') ((E'.take nn).take i ++ keptOf ctx a pos :: (E'.take nn).drop i) ∧ Fr (· = g) wr w' ∧
    w'.cell? ⟨w.heap.size, 0, none⟩ = some (.pointer (some ⟨SB, 0, none⟩)) ∧ w'.cell? ⟨SB, 10, none⟩ = some v ∧ w'.frozen? ⟨SB, 10, none⟩ = false ∧ w'.cell? ⟨w.heap.size + 2, 0, none⟩ = some (.int .i64 a) ∧ w'.cell? ⟨w.heap.size + 2, 1, none⟩ = some (.int .i64 pos) ∧ w'.cell? ⟨w.heap.size + 2, 2, none⟩ = some (.int .i64 (-1)) ∧ w'.cell? ⟨w.heap.size + 2, 3, none⟩ = some (.int .u8 ctx) ∧ w'.cell? ⟨w.heap.size + 2, 4, none⟩ = some (.bool false) ∧ w'.cell? ⟨w.heap.size + 2, 5, none⟩ = some (.int .i64 0)

theorem exit_call {w wd wr : World} {base g n cap i t nn SB LB : Nat} {a pos ctx : Int} {E E' : List En} {v : Value} {c : Array Value} (h : Flt wd wr base g n cap i t nn a pos E E') (hl : n ≤ 1024) (hi : i ≤ nn) (hnn : nn ≤ n) (hb : base ≤ wr.heap.size) (hg : g < w.heap.size ∧ g ≠ SB ∧ g ≠ LB) (hsz : w.heap.size + 2 < wr.heap.size)
    (hS : wr.heap[SB]? = some (.cells c 54 (0, 0))) (v10 : wr.cell? ⟨SB, 10, none⟩ = some v) (vb0 : wr.cell? ⟨w.heap.size, 0, none⟩ = some (.pointer (some ⟨SB, 0, none⟩)))
    (k0 : wr.cell? ⟨w.heap.size + 2, 0, none⟩ = some (.int .i64 a)) (k1 : wr.cell? ⟨w.heap.size + 2, 1, none⟩ = some (.int .i64 pos)) (k2 : wr.cell? ⟨w.heap.size + 2, 2, none⟩ = some (.int .i64 (-1))) (k3 : wr.cell? ⟨w.heap.size + 2, 3, none⟩ = some (.int .u8 ctx)) (k4 : wr.cell? ⟨w.heap.size + 2, 4, none⟩ = some (.bool false)) (k5 : wr.cell? ⟨w.heap.size + 2, 5, none⟩ = some (.int .i64 0)) :
    Calls Yba.prog 14 #[.slice (some ⟨g, 0, none⟩) nn cap, .int .i64 i, .slice (some ⟨wr.heap.size, 0, none⟩) 1 1] (wr.alloc (.cells #[.int .i64 a, .int .i64 pos, .int .i64 (-1), .int .u8 ctx, .bool false, .int .i64 0] 49)).drew fun e w' => ExitPost w wr base SB v g i nn a pos ctx E' e w' := by
  have hn' : nn ≤ E'.length := by rw [h.len]; exact hnn
  have hlen : (E'.take nn).length = nn := by rw [List.length_take]; omega
  have F0 : Fr (fun _ => False) wr (wr.alloc (.cells #[.int .i64 a, .int .i64 pos, .int .i64 (-1), .int .u8 ctx, .bool false, .int .i64 0] 49)).drew := ((Fr.refl _ wr).alloc _).drew
  have hO : Own (wr.alloc (.cells #[.int .i64 a, .int .i64 pos, .int .i64 (-1), .int .u8 ctx, .bool false, .int .i64 0] 49)).drew base (.slice (some ⟨g, 0, none⟩) nn cap) (E'.take nn) := owns_fr (h.own.take hn') F0 (fun _ _ h => h)
  have hv : (wr.alloc (.cells #[.int .i64 a, .int .i64 pos, .int .i64 (-1), .int .u8 ctx, .bool false, .int .i64 0] 49)).drew.heap[wr.heap.size]? = some (.cells (keptOf ctx a pos).cells.toArray 49 (0, 0)) := heap_alloc_new wr _
  have hs0 := F0.size
  refine (insert_any _ base (some ⟨g, 0, none⟩) nn cap i wr.heap.size 1 (E'.take nn) (keptOf ctx a pos) hlen (by omega) hi (by omega) hO hv (fun e => by simp only [Option.some.injEq, Addr.mk.injEq] at e; omega)).mono ?_
  rintro e w' ⟨g', cap', rfl, hO', hF'⟩
  rw [hlen] at hO' ⊢
  have FF : Fr (· = g) wr w' := (F0.mono (fun _ _ h => h.elim)).trans (hF'.mono (fun b _ e => by simpa [Value.ownBlock, eq_comm] using e))
  exact ⟨g', cap', rfl, hO', FF, FF.cell vb0 (by simp; omega), FF.cell v10 (fun e => hg.2.1 e.symm), freeOf (FF.obj hS (fun e => hg.2.1 e.symm)) 10, FF.cell k0 (by simp; omega), FF.cell k1 (by simp; omega), FF.cell k2 (by simp; omega), FF.cell k3 (by simp; omega), FF.cell k4 (by simp; omega), FF.cell k5 (by simp; omega)⟩

end Go.Proofs.Ybulkabbe
