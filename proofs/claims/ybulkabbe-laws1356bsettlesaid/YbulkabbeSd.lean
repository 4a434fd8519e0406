import Derived.Test.YbulkabbeSc
namespace Go.Proofs.Ybulkabbe
open Go.RowKit
set_option linter.unusedVariables false
attribute [local go_sem] eql25

theorem shl3 (r : Nat) (hr : r < 4) : ∀ w, (Op.shift BinOp.shl IntKind.u8 3 IntKind.i64 (((r : Nat) : Int) * 2)).run Yba.prog w = .ok (.int .u8 (mask r)) w := by
  intro w
  match r, hr with
  | 0, _ => rfl
  | 1, _ => rfl
  | 2, _ => rfl
  | 3, _ => rfl

/-- What decide may turn. -/
def DS (SB base : Nat) (w : World) (k : Nat) : Prop := k = SB ∨ (base ≤ k ∧ ∃ c, w.heap[k]? = some (.cells c 5 (0, 0)))

theorem arow_set (n : Nat) (h : Nat → Bool) (p : Nat) (hp : p / 4 < n) : (arow n h).setIfInBounds (p / 4) (.int .u8 (bits BinOp.or IntKind.u8 (byteOf h (p / 4)) (mask (p % 4)))) = arow n (hitAt h p) := by
  rw [byteOf_hit]
  apply Array.ext_getElem?
  intro i
  rw [Array.getElem?_setIfInBounds]
  by_cases hi : i < n
  · rw [arow_get _ hi]
    by_cases e : p / 4 = i
    · subst e; simp [arow, hi]
    · rw [if_neg e, arow_get _ hi, byteOf_other e]
  · have hne : ¬ p / 4 = i := by omega
    rw [if_neg hne]
    simp [arow, hi]

theorem zrow_arow {n : Nat} {h : Nat → Bool} (hh : ∀ p, h p = false) : zrow n = arow n h := by
  apply Array.ext_getElem?
  intro i
  by_cases hi : i < n
  · rw [arow_get _ hi]; simp [zrow, hi, byteOf, hh]
  · simp [zrow, arow, hi]

theorem decide_any {w : World} {SB LB base p sz : Nat} {src : Option Addr} {whole items last lists trials arith ends looks : Value} {h : Nat → Bool}
    (hL : Lx w SB (.pointer (some ⟨LB, 0, none⟩)) whole items last lists trials arith ends looks) (hl : w.cell? ⟨LB, 0, none⟩ = some (.slice src sz sz)) (hA : ArOk w base (sz / 4 + 1) arith h) (hp : p ≤ sz) (hsz : sz ≤ 1024) (hb : base ≤ w.heap.size) :
    Calls Yba.prog 18 #[.pointer (some ⟨SB, 0, none⟩), .int .i64 p, .bool true] w fun e w' => e = .returned (.tuple #[]) ∧ ∃ arith', Lx w' SB (.pointer (some ⟨LB, 0, none⟩)) whole items last lists trials arith' ends looks ∧ ArOk w' base (sz / 4 + 1) arith' (hitAt h p) ∧ Fr (DS SB base w) w w' := by
  have e3 : (p : Int).tdiv 4 = ((p / 4 : Nat) : Int) := by rw [Int.tdiv_eq_ediv_of_nonneg (by omega)]; omega
  have e4 : (p : Int).tmod 4 = ((p % 4 : Nat) : Int) := by rw [Int.tmod_eq_emod_of_nonneg (by omega)]; omega
  have e5 : IntKind.i64.wrap ((p / 4 : Nat) : Int) = ((p / 4 : Nat) : Int) := by rw [IntKind.wrap_i64]; omega
  have e6 : IntKind.i64.wrap (((p % 4 : Nat) : Int) * 2) = ((p % 4 : Nat) : Int) * 2 := by rw [IntKind.wrap_i64]; omega
  have hjn : p / 4 < sz / 4 + 1 := by omega
  rcases hA with ⟨rfl, hh⟩ | ⟨AB, rfl, hAB, hAr⟩
  · refine (decide_new w SB LB p (p / 4) (sz / 4 + 1) sz src _ _ _ (by omega) hjn (by omega) hsz hL.c9 (hL.free 9) hL.c0 hl (by omega) e3 e4 e5 e6 (shl3 (p % 4) (Nat.mod_lt _ (by omega)))).mono ?_
    rintro e w' ⟨rfl, rfl⟩
    have F1 := Lx.frS w SB 9 (.slice (some ⟨w.heap.size, 0, none⟩) (sz / 4 + 1) (sz / 4 + 1))
    have hS := hL.lt
    refine ⟨rfl, .slice (some ⟨w.heap.size, 0, none⟩) (sz / 4 + 1) (sz / 4 + 1), (hL.set9 _).fr (((Fr.refl (fun _ => False) _).alloc _).drew) (fun h => h), .inr ⟨w.heap.size, rfl, hb, ?_⟩, ((F1.alloc _).drew).mono (fun i _ h => .inl h)⟩
    have hnew := heap_alloc_new (w.setCell ⟨SB, 9, none⟩ (.slice (some ⟨w.heap.size, 0, none⟩) (sz / 4 + 1) (sz / 4 + 1))) (.cells ((zrow (sz / 4 + 1)).setIfInBounds (p / 4) (.int .u8 (bits BinOp.or IntKind.u8 0 (mask (p % 4))))) 5)
    rw [World.size_setCell] at hnew
    have hz : byteOf h (p / 4) = 0 := by simp [byteOf, hh]
    have := arow_set (sz / 4 + 1) h p hjn
    rw [hz, ← zrow_arow hh] at this
    rw [this] at hnew
    rw [this]
    exact hnew
  · have hne : AB ≠ SB := fun e => by
      obtain ⟨c, hc, _⟩ := hL
      rw [e, hc] at hAr; cases hAr
    have hjs := arow_get h hjn
    refine (decide_row w SB AB p (p / 4) (sz / 4 + 1) (byteOf h (p / 4)) _ _ _ (by omega) hjn (by omega) hL.c9 ((cellOf hAr _).trans hjs) (freeOf hAr _) e3 e4 e5 e6 (shl3 (p % 4) (Nat.mod_lt _ (by omega)))).mono ?_
    rintro e w' ⟨rfl, rfl⟩
    have F1 : Fr (· = AB) w (w.setCell ⟨AB, p / 4, none⟩ (.int .u8 (bits BinOp.or IntKind.u8 (byteOf h (p / 4)) (mask (p % 4))))).drew := (Fr.setCell (S := (· = AB)) (p := ⟨AB, p / 4, none⟩) (Fr.refl _ w) (.inl rfl) _).drew
    refine ⟨rfl, _, hL.fr F1 (fun h => hne h.symm), .inr ⟨AB, rfl, hAB, ?_⟩, F1.mono (fun i _ h => by subst h; exact .inr ⟨hAB, _, hAr⟩)⟩
    have := heap_setCell hAr (p / 4) (.int .u8 (bits BinOp.or IntKind.u8 (byteOf h (p / 4)) (mask (p % 4))))
    rw [arow_set _ h p hjn] at this
    exact this

theorem decision_any {w : World} {SB base p sz : Nat} {lex whole items last lists trials arith ends looks : Value} {h : Nat → Bool}
    (hL : Lx w SB lex whole items last lists trials arith ends looks) (hA : ArOk w base (sz / 4 + 1) arith h) (hp : p ≤ sz) (hsz : sz ≤ 1024) :
    Calls Yba.prog 10 #[.pointer (some ⟨SB, 0, none⟩), .int .i64 p] w fun e w' => e = .returned (.tuple #[.bool (h p), .bool (h p)]) ∧ w' = w := by
  rcases hA with ⟨rfl, hh⟩ | ⟨AB, rfl, hAB, hAr⟩
  · rw [hh p]; exact decision_nil w SB p hL.c9
  · have hr := byteOf_read h p
    have := decision_row w SB AB p (p / 4) (sz / 4 + 1) (byteOf h (p / 4)) ((p % 4 : Nat) : Int) (by omega) (by omega) (by omega) (by omega) (by omega) hL.c9 ((cellOf hAr _).trans (arow_get h (by omega))) (by omega) (by omega)
    rw [hr.1, hr.2] at this
    exact this

end Go.Proofs.Ybulkabbe
