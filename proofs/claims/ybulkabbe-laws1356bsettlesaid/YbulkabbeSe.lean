import Derived.Test.YbulkabbeSd
namespace Go.Proofs.Ybulkabbe
open Go.RowKit
set_option linter.unusedVariables false
attribute [local go_sem] eql25
attribute [local go_sem ↓] Go.wp_at_zero Go.wp_at_succ
theorem drewN_alloc (w : World) (q : Nat) (o : Obj) : (w.drewN q).alloc o = (w.alloc o).drewN q := rfl
theorem drewN_setCell (w : World) (q : Nat) (a : Addr) (v : Value) : (w.drewN q).setCell a v = (w.setCell a v).drewN q := rfl
attribute [local go_sem] drewN_alloc drewN_setCell

/-! ### The plain side -/
def cnt (T : Nat → Bool) : Nat → Nat
  | 0 => 0
  | m + 1 => cnt T m + (if T m then 1 else 0)
theorem cnt_le (T : Nat → Bool) : ∀ m, cnt T m ≤ m
  | 0 => Nat.le_refl _
  | m + 1 => by have := cnt_le T m; simp only [cnt]; split <;> omega
/-- The hits, the position, behind k frames taken off the top. -/
def hitB (len : Nat) (T : Nat → Bool) (P : Nat → Nat) : Nat → Nat → Bool
  | 0 => fun _ => false
  | k + 1 => if T (len - 1 - k) then hitAt (hitB len T P k) (P (len - 1 - k)) else hitB len T P k
def posB (len : Nat) (T : Nat → Bool) (P : Nat → Nat) (pos : Int) : Nat → Int
  | 0 => pos
  | k + 1 => if T (len - 1 - k) then (P (len - 1 - k) : Int) else posB len T P pos k

/-- A frame of the stack. -/
def frCells (a : Nat) (t : Bool) : List Value := [.int .u8 0, .int .i64 a, .int .i64 0, .int .i64 0, .bool t, .bool false, .bool false, .bool false]

/-- The stack's row. -/
def FrOk (w : World) (g len : Nat) (P : Nat → Nat) (T : Nat → Bool) : Prop :=
  ∃ c : Array Value, w.heap[g]? = some (.cells c 59 (0, 0)) ∧ c[0]? = some (.int .u8 0) ∧ ∀ i, i < len → ∀ o v, (frCells (P i) (T i))[o]? = some v → c[(i + 1) * 8 + o]? = some v

theorem FrOk.fr {S : Nat → Prop} {w w' : World} {g len : Nat} {P : Nat → Nat} {T : Nat → Bool} (h : FrOk w g len P T) (F : Fr S w w') (hn : ¬ S g) : FrOk w' g len P T := by
  obtain ⟨c, h, r⟩ := h; exact ⟨c, F.obj h hn, r⟩
theorem FrOk.cells {w : World} {g len : Nat} {P : Nat → Nat} {T : Nat → Bool} (h : FrOk w g len P T) {i : Nat} (hi : i < len) : ∀ o v, (frCells (P i) (T i))[o]? = some v → w.cell? ⟨g, (i + 1) * 8 + o, none⟩ = some v := by
  obtain ⟨c, h, _, r⟩ := h; exact fun o v hv => (cellOf h _).trans (r i hi o v hv)

/-- The plain lexer's block: its source and its position. -/
def LbOk (w : World) (LB sz : Nat) (src : Option Addr) (pos : Int) : Prop :=
  ∃ c : Array Value, w.heap[LB]? = some (.cells c 39 (0, 0)) ∧ c[0]? = some (.slice src sz sz) ∧ c[1]? = some (.int .i64 pos)
theorem LbOk.fr {S : Nat → Prop} {w w' : World} {LB sz : Nat} {src : Option Addr} {pos : Int} (h : LbOk w LB sz src pos) (F : Fr S w w') (hn : ¬ S LB) : LbOk w' LB sz src pos := by
  obtain ⟨c, h, r⟩ := h; exact ⟨c, F.obj h hn, r⟩
theorem LbOk.set {w : World} {LB sz : Nat} {src : Option Addr} {pos : Int} (h : LbOk w LB sz src pos) (p : Int) : LbOk (w.setCell ⟨LB, 1, none⟩ (.int .i64 p)) LB sz src p := by
  obtain ⟨c, h, h0, h1⟩ := h
  exact ⟨_, heap_setCell h 1 _, set_get h0 (by decide), set_same h1⟩

/-! ### The contracts once more, the world behind them a letter -/
section
variable {w : World} {SB : Nat} {lex whole items last lists trials arith ends looks : Value}

theorem drop_L {g m cap : Nat} (hm : m ≤ 900) (hc : m + 2 ≤ cap) (hcm : cap ≤ 1000) (h : Lx w SB lex (.slice (some ⟨g, 0, none⟩) (m + 2) cap) items last lists trials arith ends looks) :
    Calls Yba.prog 16 #[.pointer (some ⟨SB, 1, none⟩)] w fun e w' => e = .returned (.tuple #[]) ∧ Lx w' SB lex (.slice (some ⟨g, 0, none⟩) (m + 1) cap) items last lists trials arith ends looks ∧ Fr (· = SB) w w' := by
  refine (drop_any w SB g m cap (by omega) hc hcm h.c1 (h.free 1)).mono ?_
  rintro e w' ⟨rfl, rfl⟩
  exact ⟨rfl, h.set1 _, Lx.frS w SB 1 _⟩

theorem cut_L (h : Lx w SB lex whole (.slice none 0 0) (.int .i64 0) lists trials arith ends looks) :
    Calls Yba.prog 17 #[.pointer (some ⟨SB, 4, none⟩), .int .i64 0] w fun e w' => e = .returned (.tuple #[]) ∧ Lx w' SB lex whole (.slice none 0 0) (.int .i64 0) lists trials arith ends looks ∧ Fr (· = SB) w w' := by
  refine (cut_nil w SB h.c4 h.c5 (h.free 4) (h.free 5)).mono ?_
  rintro e w' ⟨rfl, q, rfl⟩
  have F0 : ∀ S, Fr S w (w.drewN q) := fun S => ⟨rfl, rfl, rfl, Nat.le_refl _, fun _ _ _ => rfl⟩
  exact ⟨rfl, ((h.fr (F0 (fun _ => False)) (fun h => h)).set5 _).set4 _, ((F0 _).trans (Lx.frS _ SB 5 _)).trans (Lx.frS _ SB 4 _)⟩
end

/-- What endTrials leaves. -/
def EndPost (base SB LB g len cap sz : Nat) (src : Option Addr) (pos looks : Int) (la ea : Option Addr) (lc ec : Nat) (T : Nat → Bool) (P : Nat → Nat) (w w' : World) : Prop :=
  ∃ k arith, k ≤ len ∧ cnt T (len - k) = 0 ∧ (k = 0 ∨ 0 < cnt T (len - k + 1)) ∧ Lx w' SB (.pointer (some ⟨LB, 0, none⟩)) (.slice (some ⟨g, 0, none⟩) (len - k + 1) cap) (.slice none 0 0) (.int .i64 0) (.slice la 0 lc) (.int .i64 0) arith (.slice ea 0 ec) (.int .i64 (wrap64 (looks + 1))) ∧
      ArOk w' base (sz / 4 + 1) arith (hitB len T P k) ∧ LbOk w' LB sz src (posB len T P pos k) ∧ FrOk w' g len P T ∧ Fr (fun k => base ≤ k) w w'

theorem Lx.typ {w : World} {SB k : Nat} {lex whole items last lists trials arith ends looks : Value} (h : Lx w SB lex whole items last lists trials arith ends looks) {c : Array Value} {t : TypeId} {f : Nat × Nat} (hk : w.heap[k]? = some (.cells c t f)) (ht : t ≠ 54) : ¬ k = SB := by
  obtain ⟨c', h, _⟩ := h
  intro e; rw [e, h] at hk; cases hk; exact ht rfl
theorem ArOk.fr {S : Nat → Prop} {w w' : World} {base n : Nat} {arith : Value} {h : Nat → Bool} (hA : ArOk w base n arith h) (F : Fr S w w') (hS : ∀ k c t f, S k → w.heap[k]? = some (.cells c t f) → t ≠ 5) : ArOk w' base n arith h := by
  rcases hA with hA | ⟨AB, h1, h2, h3⟩
  · exact .inl hA
  · exact .inr ⟨AB, h1, h2, F.obj h3 (fun h => hS _ _ _ _ h h3 rfl)⟩
/-- All but the shell lexer's own block stand over a step that turns that block alone. -/
theorem step_S {w w' : World} {SB LB g len n sz base : Nat} {src : Option Addr} {pos : Int} {P : Nat → Nat} {T : Nat → Bool} {arith : Value} {h : Nat → Bool} {lex whole items last lists trials ar ends looks : Value} (hL : Lx w SB lex whole items last lists trials ar ends looks) (F : Fr (· = SB) w w')
    (hA : ArOk w base n arith h) (hB : LbOk w LB sz src pos) (hG : FrOk w g len P T) : ArOk w' base n arith h ∧ LbOk w' LB sz src pos ∧ FrOk w' g len P T := by
  obtain ⟨cL, hl, rl⟩ := hL
  refine ⟨hA.fr F (fun k c t f hk hh => by subst hk; rw [hl] at hh; cases hh; decide), ?_, ?_⟩
  · obtain ⟨c, hc, r⟩ := hB
    exact ⟨c, F.obj hc (fun e => by rw [e, hl] at hc; cases hc), r⟩
  · obtain ⟨c, hc, r⟩ := hG
    exact ⟨c, F.obj hc (fun e => by rw [e, hl] at hc; cases hc), r⟩

theorem frame_q (w : World) (o : Obj) (q : Nat) : Fr (fun _ => False) w ((w.alloc o).drewN q) := by
  have F := (Fr.refl (fun _ => False) w).alloc o
  exact ⟨F.os, F.tape, F.output, F.size, F.block⟩
theorem Lx.drew {w : World} {SB : Nat} {lex whole items last lists trials arith ends looks : Value} (h : Lx w SB lex whole items last lists trials arith ends looks) : Lx w.drew SB lex whole items last lists trials arith ends looks := h

/-- Behind drop: the frame that was read lies in its own new block; the rest stands. -/
theorem after_drop {w wr w2 : World} {SB LB g len n sz base q : Nat} {src : Option Addr} {pos : Int} {P : Nat → Nat} {T : Nat → Bool} {arith : Value} {h : Nat → Bool} {lex whole items last lists trials ar ends looks : Value} {fc : Array Value} (hb1 : base ≤ SB)
    (hL : Lx wr SB lex whole items last lists trials ar ends looks) (F2 : Fr (· = SB) ((wr.alloc (.cells fc 59)).drewN q) w2) (hA : ArOk wr base n arith h) (hB : LbOk wr LB sz src pos) (hG : FrOk wr g len P T) (hF : Fr (fun k => base ≤ k) w wr) :
    w2.heap[wr.heap.size]? = some (.cells fc 59 (0, 0)) ∧ ArOk w2 base n arith h ∧ LbOk w2 LB sz src pos ∧ FrOk w2 g len P T ∧ Fr (fun k => base ≤ k) w w2 ∧ wr.heap.size < w2.heap.size := by
  have F1 := frame_q wr (.cells fc 59) q
  have hS := hL.lt
  have hn : ((wr.alloc (.cells fc 59)).drewN q).heap[wr.heap.size]? = some (.cells fc 59 (0, 0)) := heap_alloc_new wr _
  have hL1 := hL.fr F1 (fun h => h)
  obtain ⟨hA', hB', hG'⟩ := step_S hL1 F2 (hA.fr F1 (fun _ _ _ _ h => h.elim)) (hB.fr F1 (fun h => h)) (hG.fr F1 (fun h => h))
  refine ⟨F2.obj hn (fun e => by omega), hA', hB', hG', (hF.trans' F1 (fun _ _ h => h.elim)).trans' F2 (fun i _ h => by omega), ?_⟩
  have := F2.size
  have h2 : ((wr.alloc (.cells fc 59)).drewN q).heap.size = wr.heap.size + 1 := by simp
  omega

theorem step_D {w w' : World} {SB LB g len sz base H : Nat} {src : Option Addr} {pos : Int} {P : Nat → Nat} {T : Nat → Bool} {lex whole items last lists trials ar ends looks : Value} {fc : Array Value} (hL : Lx w SB lex whole items last lists trials ar ends looks) (F : Fr (DS SB base w) w w')
    (hB : LbOk w LB sz src pos) (hG : FrOk w g len P T) (hH : w.heap[H]? = some (.cells fc 59 (0, 0))) : LbOk w' LB sz src pos ∧ FrOk w' g len P T ∧ w'.heap[H]? = some (.cells fc 59 (0, 0)) := by
  have key : ∀ {k : Nat} {c : Array Value} {t : TypeId}, w.heap[k]? = some (.cells c t (0, 0)) → t ≠ 54 → t ≠ 5 → ¬ DS SB base w k := by
    intro k c t hk h1 h2 hd
    rcases hd with e | ⟨_, c', h'⟩
    · exact hL.typ hk h1 e
    · rw [h'] at hk; cases hk; exact h2 rfl
  refine ⟨?_, ?_, F.obj hH (key hH (by decide) (by decide))⟩
  · obtain ⟨c, hc, r⟩ := hB; exact ⟨c, F.obj hc (key hc (by decide) (by decide)), r⟩
  · obtain ⟨c, hc, r⟩ := hG; exact ⟨c, F.obj hc (key hc (by decide) (by decide)), r⟩

theorem step_P {w0 w : World} {SB LB g len n sz base : Nat} {src : Option Addr} {pos v : Int} {P : Nat → Nat} {T : Nat → Bool} {arith : Value} {h : Nat → Bool} {lex whole items last lists trials ar ends looks : Value} (hb : base ≤ LB) (hL : Lx w SB lex whole items last lists trials ar ends looks)
    (hA : ArOk w base n arith h) (hB : LbOk w LB sz src pos) (hG : FrOk w g len P T) (hF : Fr (fun k => base ≤ k) w0 w) :
    Lx (w.setCell ⟨LB, 1, none⟩ (.int .i64 v)).drew SB lex whole items last lists trials ar ends looks ∧ ArOk (w.setCell ⟨LB, 1, none⟩ (.int .i64 v)).drew base n arith h ∧ LbOk (w.setCell ⟨LB, 1, none⟩ (.int .i64 v)).drew LB sz src v ∧ FrOk (w.setCell ⟨LB, 1, none⟩ (.int .i64 v)).drew g len P T ∧ Fr (fun k => base ≤ k) w0 (w.setCell ⟨LB, 1, none⟩ (.int .i64 v)).drew := by
  have F : Fr (· = LB) w (w.setCell ⟨LB, 1, none⟩ (.int .i64 v)).drew := (Fr.setCell (S := (· = LB)) (p := ⟨LB, 1, none⟩) (Fr.refl _ w) (.inl rfl) _).drew
  obtain ⟨c, hc, h0, h1⟩ := hB
  refine ⟨hL.fr F (fun e => hL.typ hc (by decide) e.symm), hA.fr F (fun k c' t f hk hh => by subst hk; rw [hc] at hh; cases hh; decide), LbOk.set ⟨c, hc, h0, h1⟩ v, ?_, hF.trans' F (fun i _ h => by omega)⟩
  obtain ⟨c', hc', r⟩ := hG
  exact ⟨c', F.obj hc' (fun e => by rw [e, hc] at hc'; cases hc'), r⟩

set_option maxRecDepth 100000 in
set_option maxHeartbeats 1000000 in
theorem endTrials_any (base SB LB g len cap sz : Nat) (src : Option Addr) (pos looks : Int) (la ea : Option Addr) (ln lc en ec : Nat) (T : Nat → Bool) (P : Nat → Nat) (w : World) (hlen : len ≤ 256) (hcap : len + 1 ≤ cap) (hcm : cap ≤ 1000) (hsz : sz ≤ 1024) (hPs : ∀ i, i < len → P i ≤ sz)
    (hL : Lx w SB (.pointer (some ⟨LB, 0, none⟩)) (.slice (some ⟨g, 0, none⟩) (len + 1) cap) (.slice none 0 0) (.int .i64 0) (.slice la ln lc) (.int .i64 (cnt T len)) (.slice none 0 0) (.slice ea en ec) (.int .i64 looks))
    (hB : LbOk w LB sz src pos) (hG : FrOk w g len P T) (hb1 : base ≤ SB) (hb2 : base ≤ LB) (hb3 : base ≤ g) (hb4 : base ≤ w.heap.size) :
    Calls Yba.prog 9 #[.pointer (some ⟨SB, 0, none⟩)] w fun e w' => e = .returned (.tuple #[]) ∧ EndPost base SB LB g len cap sz src pos looks la ea lc ec T P w w' := by
  have HL := hid hL
  have HB := hid hB
  have HG := hid hG
  clear hL hB hG
  go_enter Yba.func9, Yba.ntmps9
  go_wp2
  go_loopg [] len (fun n wr => ∃ k arith, k ≤ len ∧ n = len - k ∧ (k = 0 ∨ 0 < cnt T (len - k + 1)) ∧ Lx wr SB (.pointer (some ⟨LB, 0, none⟩)) (.slice (some ⟨g, 0, none⟩) (len - k + 1) cap) (.slice none 0 0) (.int .i64 0) (.slice la ln lc) (.int .i64 (cnt T (len - k))) arith (.slice ea en ec) (.int .i64 looks) ∧
      ArOk wr base (sz / 4 + 1) arith (hitB len T P k) ∧ LbOk wr LB sz src (posB len T P pos k) ∧ FrOk wr g len P T ∧ Fr (fun k => base ≤ k) w wr)
  case atStart => exact ⟨0, _, by omega, by omega, .inl rfl, HL.out, .inl ⟨rfl, fun _ => rfl⟩, HB.out, HG.out, Fr.refl _ _⟩
  case round =>
    obtain ⟨k, arith, hk, hn, hlast, hL, hA, hB, hG, hF⟩ := hrel
    have h8 := hL.c8
    have X := hid (And.intro hA (And.intro hB (And.intro hG hF)))
    have HLr := hid hL
    clear hA hB hG hF
    by_cases hc : cnt T (len - k) = 0
    · have hc' : ((cnt T (len - k) : Nat) : Int) = 0 := by omega
      rw [hc'] at h8
      have HLc : Hid (Lx wr SB (.pointer (some ⟨LB, 0, none⟩)) (.slice (some ⟨g, 0, none⟩) (len - k + 1) cap) (.slice none 0 0) (.int .i64 0) (.slice la ln lc) (.int .i64 0) arith (.slice ea en ec) (.int .i64 looks)) := by have h := HLr.out; rw [hc'] at h; exact h
      clear hc' hL HLr
      go_wp2_with (go_at_call 19; refine (forgetEnds_any _ SB _ _ _ _ _ _ _ _ _ _ _ _ _ HLc.out).mono ?_; rintro e w' ⟨rfl, hL', hF'⟩)
      go_end0
      obtain ⟨hA, hB, hG, hF⟩ := X.out
      obtain ⟨hA', hB', hG'⟩ := step_S HLc.out hF' hA hB hG
      exact ⟨rfl, k, arith, hk, hc, hlast, hL', hA', hB', hG', hF.trans' hF' (fun i _ h => by omega)⟩
    · obtain ⟨m, hm⟩ : ∃ m, len - k = m + 1 := ⟨len - k - 1, by
        have : len - k ≠ 0 := fun e => hc (by rw [e]; rfl)
        omega⟩
      rw [hm] at h8 HLr hc
      have hL := HLr.out
      have hmlt : m < len := by omega
      have h1 := hL.c1
      have hcells := X.out.2.2.1.cells hmlt
      have q0 := hcells 0 _ rfl
      have q1 := hcells 1 _ rfl
      have q2 := hcells 2 _ rfl
      have q3 := hcells 3 _ rfl
      have q4 := hcells 4 _ rfl
      have q5 := hcells 5 _ rfl
      have q6 := hcells 6 _ rfl
      have q7 := hcells 7 _ rfl
      simp only [Nat.add_zero] at q0
      have hpos : (0 : Int) < ((cnt T (m + 1) : Nat) : Int) := by omega
      clear hL hcells
      go_wp2_with (first
        | (go_at_call 15; refine (top_any _ SB g (m + 1) cap (by omega) h1).mono ?_; rintro e w' ⟨rfl, q, rfl⟩)
        | (go_at_call 16; refine (drop_L (by omega) (by omega) hcm (HLr.out.fr (by exact frame_q _ _ _) (fun h => h))).mono ?_; rintro e w2 ⟨rfl, hL2, hF2⟩))
      obtain ⟨hA, hB, hG, hF⟩ := X.out
      obtain ⟨hH, hA2, hB2, hG2, hFw2, hsz2⟩ := after_drop hb1 HLr.out hF2 hA hB hG hF
      have HL2 := hid hL2
      have r3 : w2.cell? ⟨wr.heap.size, 3, none⟩ = some (.int .i64 0) := cellOf hH 3
      have X2 := hid (And.intro hH (And.intro hA2 (And.intro hB2 (And.intro hG2 hFw2))))
      clear hA hB hG hF hH hA2 hB2 hG2 hFw2 hL2 hF2 X q0 q1 q2 q3 q4 q5 q6 q7 h1 h8 HLr
      go_region_with (go_at_call 17; refine (cut_L HL2.out.drew).mono ?_; rintro e w3 ⟨rfl, hL3, hF3⟩)
      obtain ⟨hH, hA, hB, hG, hF⟩ := X2.out
      obtain ⟨hA3, hB3, hG3⟩ := step_S HL2.out.drew hF3 hA hB hG
      have hHlt := obj_lt hH
      have hSlt := HL2.out.typ hH (by decide)
      have hH3 := hF3.obj hH hSlt
      have hFw3 := hF.drew.trans' hF3 (fun i _ h => by omega)
      have h43 : w3.cell? ⟨wr.heap.size, 4, none⟩ = some (.bool (T m)) := cellOf hH3 4
      have h13 : w3.cell? ⟨wr.heap.size, 1, none⟩ = some (.int .i64 (P m)) := cellOf hH3 1
      have h83 := hL3.c8
      have f83 := hL3.free 8
      have X3 := hid (And.intro hL3 (And.intro hA3 (And.intro hB3 (And.intro hG3 (And.intro hFw3 hH3)))))
      have hcm1 : cnt T (m + 1) ≤ m + 1 := cnt_le T (m + 1)
      clear hH hA hB hG hF hF3 hL3 hA3 hB3 hG3 hFw3 hH3 HL2 X2 r3
      cases hT : T m with
      | false =>
        rw [hT] at h43
        have HT := hid hT
        clear hT
        go_wp2
        obtain ⟨hL3, hA3, hB3, hG3, hFw3, hH3⟩ := X3.out
        have e1 : len - 1 - k = m := by omega
        have e2 : len - (k + 1) = m := by omega
        have e3 : cnt T (m + 1) = cnt T m := by simp [cnt, HT.out]
        have e4 : hitB len T P (k + 1) = hitB len T P k := by rw [hitB, e1, HT.out]; rfl
        have e5 : posB len T P pos (k + 1) = posB len T P pos k := by rw [posB, e1, HT.out]; rfl
        have R := hid (And.intro hL3 (And.intro hA3 (And.intro hB3 (And.intro hG3 hFw3))))
        clear X3 h43 h13 h83 f83 hL3 hA3 hB3 hG3 hFw3 hH3
        go_roundg (len - (k + 1))
        case measure => omega
        case rel =>
          obtain ⟨hL3, hA3, hB3, hG3, hFw3⟩ := R.out
          rw [e3] at hL3
          exact ⟨k + 1, arith, by omega, rfl, .inr (by rw [e2]; omega), by rw [e2]; exact hL3, by rw [e4]; exact hA3, by rw [e5]; exact hB3, hG3, hFw3⟩
      | true =>
        rw [hT] at h43
        have HT := hid hT
        clear hT
        have e6 : ((cnt T (m + 1) : Nat) : Int) - 1 = ((cnt T m : Nat) : Int) := by simp [cnt, HT.out]
        have HL4 : Hid (Lx (w3.setCell ⟨SB, 8, none⟩ (.int .i64 ((cnt T (m + 1) : Nat) - 1))) SB (.pointer (some ⟨LB, 0, none⟩)) (.slice (some ⟨g, 0, none⟩) (m + 1) cap) (.slice none 0 0) (.int .i64 0) (.slice la ln lc) (.int .i64 ((cnt T (m + 1) : Nat) - 1)) arith (.slice ea en ec) (.int .i64 looks)) := X3.out.1.set8 _
        clear e6
        have hSH : SB ≠ wr.heap.size := fun e => hSlt e.symm
        have h14 : ∀ v, (w3.setCell ⟨SB, 8, none⟩ v).cell? ⟨wr.heap.size, 1, none⟩ = some (.int .i64 (P m)) := fun v => by
          rw [World.cell?_setCell_other _ _ _ _ (fun e => hSH (congrArg Addr.block e))]; exact h13
        go_wp2_with fail
        obtain ⟨hL3, hA3, hB3, hG3, hFw3, hH3⟩ := X3.out
        have F4 := Lx.frS w3 SB 8 (.int .i64 ((cnt T (m + 1) : Nat) - 1))
        obtain ⟨hA4, hB4, hG4⟩ := step_S hL3 F4 hA3 hB3 hG3
        have hH4 := F4.obj hH3 hSlt
        have hFw4 := hFw3.trans' F4 (fun i _ h => by omega)
        refine (decide_any HL4.out (by obtain ⟨c, h, h0, _⟩ := hB4; exact (cellOf h 0).trans h0) hA4 (hPs m hmlt) hsz (Nat.le_trans hb4 hFw4.size)).mono ?_
        rintro e w5 ⟨rfl, arith', hL5, hA5, hF5⟩
        obtain ⟨hB5, hG5, hH5⟩ := step_D HL4.out hF5 hB4 hG4 hH4
        have hFw5 := hFw4.trans' hF5 (fun i _ h => by rcases h with h | h; omega; exact h.1)
        have y0 := hL5.c0
        have y1 : w5.cell? ⟨wr.heap.size, 1, none⟩ = some (.int .i64 (P m)) := cellOf hH5 1
        have y2 : w5.cell? ⟨LB, 1, none⟩ = some (.int .i64 (posB len T P pos k)) := by obtain ⟨c, h, _, h0⟩ := hB5; exact (cellOf h 1).trans h0
        have y3 : w5.frozen? ⟨LB, 1, none⟩ = false := by obtain ⟨c, h, _, h0⟩ := hB5; exact freeOf h 1
        have X5 := hid (And.intro hL5 (And.intro hA5 (And.intro hB5 (And.intro hG5 hFw5))))
        clear hL3 hA3 hB3 hG3 hFw3 hH3 hA4 hB4 hG4 hH4 hFw4 F4 hL5 hA5 hF5 hB5 hG5 hH5 hFw5 HL4 X3 h43 h13 h83 f83 h14
        go_wp2
        go_big_region
        all_goals
          go_wp2
          obtain ⟨hL5, hA5, hB5, hG5, hFw5⟩ := X5.out
          have e1 : len - 1 - k = m := by omega
          have e2 : len - (k + 1) = m := by omega
          have e3 : ((cnt T (m + 1) : Nat) : Int) - 1 = ((cnt T m : Nat) : Int) := by simp [cnt, HT.out]
          have e4 : hitB len T P (k + 1) = hitAt (hitB len T P k) (P m) := by rw [hitB, e1, HT.out]; rfl
          have e5 : posB len T P pos (k + 1) = P m := by rw [posB, e1, HT.out]; rfl
          have R := hid (step_P (v := P m) hb2 hL5 hA5 hB5 hG5 hFw5)
          clear X5 y0 y1 y2 y3 hL5 hA5 hB5 hG5 hFw5
          go_roundg (len - (k + 1))
          case measure => omega
          case rel =>
            obtain ⟨hL6, hA6, hB6, hG6, hFw6⟩ := R.out
            rw [e3] at hL6
            exact ⟨k + 1, arith', by omega, rfl, .inr (by rw [e2]; omega), by rw [e2]; exact hL6, by rw [e4]; exact hA6, by rw [e5]; exact hB6, hG6, hFw6⟩

end Go.Proofs.Ybulkabbe
