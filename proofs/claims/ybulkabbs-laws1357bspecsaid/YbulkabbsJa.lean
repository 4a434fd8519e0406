import Derived.Test.YbulkabbsFr
import Derived.Test.YbulkabbsRows
import Derived.BigQuiet
import Derived.Deep.QuietTactic
import Derived.Deep.RegionWith
import Derived.Deep.RegionHeld3
import Derived.Deep.DrawnRows
import Derived.Deep.DeepCutAuto
/- The small functions: zzs1357bsmall, opened, openedBy. -/
namespace Go.Proofs.Ybulkabbs
open Go.RowKit
set_option linter.unusedVariables false

/-- What came in: n readers, each with a row of opens. -/
structure Inp (w : World) (b off n : Nat) (A : Nat → Option Addr) (L C : Nat → Nat) (O : Nat → Nat → Int) : Prop where
  s : ∀ k, k < n → w.cell? ⟨b, off + k, none⟩ = some (.slice (A k) (L k) (C k))
  m : ∀ k, k < n → L k ≤ 9223372036854775807
  v : ∀ k, k < n → 0 < L k → ∃ bb oo, A k = some ⟨bb, oo, none⟩ ∧ ∀ j, j < L k → w.cell? ⟨bb, oo + j, none⟩ = some (.int .i64 (O k j))

theorem ext_le {L : Nat → Nat} {k j : Nat} (h : ∀ j, j < k → L j ≤ 1024) (hk : ¬ 1024 < L k) (hj : j < k + 1) : L j ≤ 1024 := by
  rcases Nat.lt_or_ge j k with h' | h'
  · exact h j h'
  · obtain rfl : j = k := by omega
    omega

def SmallPost (n : Nat) (L : Nat → Nat) (e : Ending) : Prop := (e = .returned (.bool true) ∧ n ≤ 1024 ∧ ∀ k, k < n → L k ≤ 1024) ∨ e = .returned (.bool false)

set_option maxRecDepth 100000 in
set_option maxHeartbeats 800000 in
theorem small_any (w : World) (a : Option Addr) (n cap b off : Nat) (A : Nat → Option Addr) (L C : Nat → Nat) (O : Nat → Nat → Int) (hnm : n ≤ 9223372036854775807)
    (hA : 0 < n → a = some ⟨b, off, none⟩) (hI : Inp w b off n A L C O) :
    Calls Yba.prog 5 #[.slice a n cap] w fun e w' => SmallPost n L e ∧ w' = w := by
  have HI := hid hI
  have HA := hid hA
  clear hI hA
  by_cases hn : 1024 < n
  · go_enter Yba.func5, Yba.ntmps5
    go_wp2
    go_ret
    exact ⟨.inr rfl, rfl⟩
  · go_enter Yba.func5, Yba.ntmps5
    go_wp2
    go_loopg [9] n (fun m s9 wr => ∃ k : Nat, k ≤ n ∧ m = n - k ∧ s9 = .int .i64 k ∧ (∀ j, j < k → L j ≤ 1024) ∧ w = wr)
    case atStart => exact ⟨0, by omega, by omega, rfl, fun j h => by omega, rfl⟩
    case round =>
      obtain ⟨k, hk, hm, rfl, hL, rfl⟩ := hrel
      have HL := hid hL
      clear hL
      by_cases hkn : k < n
      · obtain rfl := HA.out (by omega)
        have c0 := HI.out.s k hkn
        have hLm := HI.out.m k hkn
        by_cases hbig : 1024 < L k
        · go_wp2
          go_ret
          exact ⟨.inr rfl, rfl⟩
        · go_wp2
          go_roundg (n - (k + 1))
          case measure => omega
          case rel => exact ⟨k + 1, by omega, rfl, by go_num, fun j hj => ext_le HL.out hbig hj, rfl⟩
      · obtain rfl : k = n := by omega
        go_wp2
        go_ret
        exact ⟨.inl ⟨rfl, by omega, HL.out⟩, rfl⟩

/-- The readers of a row. -/
structure Rds (w : World) (g n : Nat) (FA : Nat → Option Addr) (FL FC : Nat → Nat) (V : Nat → Int) : Prop where
  s : ∀ k, k < n → w.cell? ⟨g, k * 7, none⟩ = some (.slice (FA k) (FL k) (FC k))
  l : ∀ k, k < n → FL k ≤ 1024
  v : ∀ k, k < n → 0 < FL k → ∃ fb fo, FA k = some ⟨fb, fo, none⟩ ∧ w.cell? ⟨fb, fo + (FL k - 1) * 2, none⟩ = some (.int .i64 (V k))

/-- Has one of the first n readers opened i? -/
def hitR (FL : Nat → Nat) (V : Nat → Int) (i : Int) : Nat → Bool
  | 0 => false
  | k + 1 => hitR FL V i k || (decide (0 < FL k) && decide (V k = i))

theorem hitR_iff (FL : Nat → Nat) (V : Nat → Int) (i : Int) : ∀ n, hitR FL V i n = true ↔ ∃ k, k < n ∧ 0 < FL k ∧ V k = i
  | 0 => by simp [hitR]
  | n + 1 => by
    rw [hitR, Bool.or_eq_true, hitR_iff FL V i n, Bool.and_eq_true, decide_eq_true_iff, decide_eq_true_iff]
    constructor
    · rintro (⟨k, h1, h2⟩ | h)
      · exact ⟨k, by omega, h2⟩
      · exact ⟨n, by omega, h⟩
    · rintro ⟨k, h1, h2⟩
      rcases Nat.lt_or_ge k n with h | h
      · exact .inl ⟨k, h, h2⟩
      · obtain rfl : k = n := by omega
        exact .inr h2

set_option maxRecDepth 100000 in
theorem reading_any (w : World) (g m : Nat) (fa : Option Addr) (fl fc : Nat) (hs : w.cell? ⟨g, m, none⟩ = some (.slice fa fl fc)) (hl : fl ≤ 1024) :
    Calls Yba.prog 10 #[.pointer (some ⟨g, m, none⟩)] w fun e w' => e = .returned (.bool (decide (0 < fl))) ∧ w' = w := by
  by_cases h0 : 0 < fl
  · have hd : decide (0 < fl) = true := by simp [h0]
    rw [hd]
    have hf0 : (0 : Int) < (fl : Int) := by omega
    go_enter Yba.func10, Yba.ntmps10
    go_wp2
    go_ret
    exact ⟨rfl, rfl⟩
  · obtain rfl : fl = 0 := by omega
    go_enter Yba.func10, Yba.ntmps10
    go_wp2
    go_ret
    exact ⟨rfl, rfl⟩

set_option maxRecDepth 100000 in
set_option maxHeartbeats 800000 in
theorem opened_any (w : World) (g m : Nat) (fa : Option Addr) (fl fc : Nat) (v i : Int) (hs : w.cell? ⟨g, m, none⟩ = some (.slice fa fl fc)) (hl : fl ≤ 1024)
    (hv : 0 < fl → ∃ fb fo, fa = some ⟨fb, fo, none⟩ ∧ w.cell? ⟨fb, fo + (fl - 1) * 2, none⟩ = some (.int .i64 v)) :
    Calls Yba.prog 9 #[.pointer (some ⟨g, m, none⟩), .int .i64 i] w fun e w' => e = .returned (.bool (decide (0 < fl) && decide (v = i))) ∧ ∃ q, w' = w.drewN q := by
  cases fl with
  | succ f =>
    obtain ⟨fb, fo, rfl, hc⟩ := hv (by omega)
    simp only [Nat.add_sub_cancel] at hc
    have hd : decide (0 < f + 1) = true := by simp
    rw [hd, Bool.true_and]
    have hr : ∀ q, Calls Yba.prog 10 #[.pointer (some ⟨g, m, none⟩)] (w.drewN q) fun e w' => e = .returned (.bool true) ∧ w' = w.drewN q := fun q => by
      have := reading_any (w.drewN q) g m (some ⟨fb, fo, none⟩) (f + 1) fc hs hl
      rwa [hd] at this
    have hw1 : IntKind.i64.wrap (((f + 1 : Nat) : Int) - 1) = (f : Int) := by rw [IntKind.wrap_i64]; omega
    by_cases hvi : v = i
    · go_enter Yba.func9, Yba.ntmps9
      go_wp2
      go_quiet ((go_at_call 10; exact Calls.quiet_of_same (hr _)))
      go_wp2
      go_ret
      exact ⟨by simp [hvi], _, rfl⟩
    · go_enter Yba.func9, Yba.ntmps9
      go_wp2
      go_quiet ((go_at_call 10; exact Calls.quiet_of_same (hr _)))
      go_wp2
      go_ret
      exact ⟨by simp [hvi], _, rfl⟩
  | zero =>
    have hr : ∀ q, Calls Yba.prog 10 #[.pointer (some ⟨g, m, none⟩)] (w.drewN q) fun e w' => e = .returned (.bool false) ∧ w' = w.drewN q := fun q => reading_any (w.drewN q) g m fa 0 fc hs hl
    go_enter Yba.func9, Yba.ntmps9
    go_wp2
    go_quiet ((go_at_call 10; exact Calls.quiet_of_same (hr _)))
    go_wp2
    go_ret
    exact ⟨by simp, _, rfl⟩

set_option maxRecDepth 100000 in
set_option maxHeartbeats 800000 in
theorem openedBy_any (w : World) (g n cap : Nat) (FA : Nat → Option Addr) (FL FC : Nat → Nat) (V : Nat → Int) (i : Int) (hn : n ≤ 1025) (hR : Rds w g n FA FL FC V) :
    Calls Yba.prog 6 #[.slice (some ⟨g, 0, none⟩) n cap, .int .i64 i] w fun e w' => e = .returned (.bool (hitR FL V i n)) ∧ ∃ q, w' = w.drewN q := by
  have HR := hid hR
  clear hR
  go_enter Yba.func6, Yba.ntmps6
  go_wp2
  go_loopg [8] n (fun m s9 wr => ∃ k q : Nat, k ≤ n ∧ m = n - k ∧ s9 = .int .i64 k ∧ hitR FL V i k = false ∧ wr = w.drewN q)
  case atStart => exact ⟨0, 0, by omega, by omega, rfl, rfl, rfl⟩
  case round =>
    obtain ⟨k, q, hk, hm, rfl, hh, rfl⟩ := hrel
    have HH := hid hh
    clear hh
    by_cases hkn : k < n
    · have hcall := opened_any (w.drewN q) g (k * 7) (FA k) (FL k) (FC k) (V k) i (HR.out.s k hkn) (HR.out.l k hkn) (HR.out.v k hkn)
      by_cases hit : (decide (0 < FL k) && decide (V k = i)) = true
      · rw [hit] at hcall
        have Hc := hid hcall
        have Ht : Hid (hitR FL V i n = true) := (hitR_iff _ _ _ _).2 ⟨k, hkn, by simpa using hit⟩
        clear hcall hit
        go_wp2_with (go_at_call 9; refine Hc.out.mono ?_; rintro e w' ⟨rfl, q', rfl⟩)
        go_ret
        exact ⟨by rw [Ht.out]; rfl, _, rfl⟩
      · rw [Bool.not_eq_true] at hit
        rw [hit] at hcall
        have Hc := hid hcall
        have Ht : Hid (hitR FL V i (k + 1) = false) := by unfold Hid; rw [hitR, hit, HH.out]; rfl
        clear hcall hit
        go_wp2_with (go_at_call 9; refine Hc.out.mono ?_; rintro e w' ⟨rfl, q', rfl⟩)
        go_roundg (n - (k + 1))
        case measure => omega
        case rel => exact ⟨k + 1, _, by omega, rfl, by go_num, Ht.out, rfl⟩
    · obtain rfl : k = n := by omega
      go_wp2
      go_ret
      exact ⟨by rw [HH.out]; rfl, _, rfl⟩

end Go.Proofs.Ybulkabbs
