import Derived.Test.YbulkabbsJc
/- The laws. -/
namespace Go.Proofs.Ybulkabbs
open Go.RowKit
set_option linter.unusedVariables false

/-- Is one of the first n readers idle? -/
def idle (L : Nat → Nat) : Nat → Bool
  | 0 => false
  | k + 1 => idle L k || decide (L k = 0)
theorem idle_iff (L : Nat → Nat) : ∀ n, idle L n = true ↔ ∃ k, k < n ∧ L k = 0
  | 0 => by simp [idle]
  | n + 1 => by
    rw [idle, Bool.or_eq_true, idle_iff L n, decide_eq_true_iff]
    constructor
    · rintro (⟨k, h1, h2⟩ | h)
      · exact ⟨k, by omega, h2⟩
      · exact ⟨n, by omega, h⟩
    · rintro ⟨k, h1, h2⟩
      rcases Nat.lt_or_ge k n with h | h
      · exact .inl ⟨k, h, h2⟩
      · obtain rfl : k = n := by omega
        exact .inr h2
theorem idle_no (L : Nat → Nat) (n : Nat) : idle L n = false ↔ ∀ k, k < n → 0 < L k := by
  rw [← Bool.not_eq_true, idle_iff]
  constructor
  · intro h k hk
    rcases Nat.eq_zero_or_pos (L k) with e | e
    · exact absurd ⟨k, hk, e⟩ h
    · exact e
  · rintro h ⟨k, hk, e⟩
    have := h k hk
    omega

set_option maxRecDepth 100000 in
set_option maxHeartbeats 800000 in
theorem spec_law (w : World) (a : Option Addr) (n cap b off : Nat) (A : Nat → Option Addr) (L C : Nat → Nat) (O : Nat → Nat → Int) (i : Int) (hnm : n ≤ 9223372036854775807)
    (hA : 0 < n → a = some ⟨b, off, none⟩) (hI : Inp w b off n A L C O) :
    Calls Yba.prog 3 #[.slice a n cap, .int .i64 i] w fun e w' => e = .returned (.bool true) ∧ Below w.heap.size w w' := by
  have HI := hid hI
  have HA := hid hA
  clear hI hA
  have Hs := hid (small_any w a n cap b off A L C O hnm HA.out HI.out)
  go_enter Yba.func3, Yba.ntmps3
  go_wp2_with fail
  refine Hs.out.mono ?_
  rintro e w' ⟨he, rfl⟩
  rcases he with ⟨rfl, hn, hl⟩ | rfl
  · have HL := hid hl
    clear hl Hs
    go_wp2
    go_loopg [5, 13] n (fun m s5 s13 wr => ∃ k : Nat, k ≤ n ∧ m = n - k ∧ s13 = .int .i64 k ∧ s5 = .bool (hitR L (fun k => O k (L k - 1)) i k) ∧ w' = wr)
    case atStart => exact ⟨0, by omega, by omega, rfl, rfl, rfl⟩
    case round =>
      obtain ⟨k, hk, hm, rfl, rfl, rfl⟩ := hrel
      by_cases hkn : k < n
      · obtain rfl := HA.out (by omega)
        have c0 := HI.out.s k hkn
        have hLk := HL.out k hkn
        have hv := HI.out.v k hkn
        by_cases h0 : L k = 0
        · have e1 : Hid (hitR L (fun k => O k (L k - 1)) i (k + 1) = hitR L (fun k => O k (L k - 1)) i k) := by unfold Hid; rw [hitR, h0]; simp
          rw [h0] at c0
          clear hv h0 hLk
          go_wp2
          go_roundg (n - (k + 1))
          case measure => omega
          case rel => exact ⟨k + 1, by omega, rfl, by go_num, by rw [e1.out], rfl⟩
        · obtain ⟨bb, oo, hak, hc⟩ := hv (by omega)
          have d0 := hc (L k - 1) (by omega)
          rw [hak] at c0
          have h0i : (0 : Int) < (L k : Int) := by omega
          have hcast : ((L k : Int) - 1) = ((L k - 1 : Nat) : Int) := by omega
          obtain ⟨l, hl⟩ : ∃ l, L k = l + 1 := ⟨L k - 1, by omega⟩
          by_cases hit : O k (L k - 1) = i
          · have e1 : Hid (hitR L (fun k => O k (L k - 1)) i (k + 1) = true) := by unfold Hid; rw [hitR, hit]; simp; omega
            rw [hit] at d0
            rw [hl] at c0 d0 hLk
            simp only [Nat.add_sub_cancel] at d0
            clear hv h0 hcast h0i hc hit hl hak
            go_wp2
            go_roundg (n - (k + 1))
            case measure => omega
            case rel => exact ⟨k + 1, by omega, rfl, by go_num, by rw [e1.out], rfl⟩
          · have e1 : Hid (hitR L (fun k => O k (L k - 1)) i (k + 1) = hitR L (fun k => O k (L k - 1)) i k) := by unfold Hid; rw [hitR]; simp [hit]
            rw [hl] at c0 d0 hLk hit
            simp only [Nat.add_sub_cancel] at d0 hit
            clear hv h0 hcast h0i hc hl hak
            go_wp2
            go_roundg (n - (k + 1))
            case measure => omega
            case rel => exact ⟨k + 1, by omega, rfl, by go_num, by rw [e1.out], rfl⟩
      · obtain rfl : k = n := by omega
        have Hb := hid (build_any w' a k cap b off A L C O hn HL.out HA.out HI.out)
        go_wp2_with fail
        refine Hb.out.mono ?_
        rintro e w2 ⟨rfl, hB, hF⟩
        obtain ⟨FA, hR⟩ := hB.rds HL.out
        have HR := hid hR
        have HF := hid hF
        clear hB hR hF Hb
        go_wp2_with fail
        refine (openedBy_any w2 _ k k FA L L _ i (by omega) HR.out).mono ?_
        rintro e w3 ⟨rfl, q, rfl⟩
        cases hitR L (fun k => O k (L k - 1)) i k
        all_goals
          go_wp2
          go_ret
          exact ⟨rfl, (HF.out.below (Nat.le_refl _) (fun _ _ h => h)).trans ⟨rfl, rfl, rfl, Nat.le_refl _, fun _ _ => rfl⟩⟩
  · go_wp2
    go_ret
    exact ⟨rfl, Below.refl _ _⟩

set_option maxRecDepth 100000 in
set_option maxHeartbeats 800000 in
theorem add_law (w : World) (a : Option Addr) (n cap b off : Nat) (A : Nat → Option Addr) (L C : Nat → Nat) (O : Nat → Nat → Int) (i : Int) (hnm : n ≤ 9223372036854775807)
    (hA : 0 < n → a = some ⟨b, off, none⟩) (hI : Inp w b off n A L C O) :
    Calls Yba.prog 4 #[.slice a n cap, .int .i64 i] w fun e w' => e = .returned (.bool true) ∧ Below w.heap.size w w' := by
  have HI := hid hI
  have HA := hid hA
  clear hI hA
  have Hs := hid (small_any w a n cap b off A L C O hnm HA.out HI.out)
  go_enter Yba.func4, Yba.ntmps4
  go_wp2_with fail
  refine Hs.out.mono ?_
  rintro e w' ⟨he, rfl⟩
  rcases he with ⟨rfl, hn, hl⟩ | rfl
  · have HL := hid hl
    clear hl Hs
    go_wp2
    go_loopg [5, 14] n (fun m s5 s14 wr => ∃ k : Nat, k ≤ n ∧ m = n - k ∧ s14 = .int .i64 k ∧ s5 = .bool (idle L k) ∧ w' = wr)
    case atStart => exact ⟨0, by omega, by omega, rfl, rfl, rfl⟩
    case round =>
      obtain ⟨k, hk, hm, rfl, rfl, rfl⟩ := hrel
      by_cases hkn : k < n
      · obtain rfl := HA.out (by omega)
        have c0 := HI.out.s k hkn
        have hLk := HL.out k hkn
        by_cases h0 : L k = 0
        · have e1 : Hid (idle L (k + 1) = true) := by unfold Hid; rw [idle, h0]; simp
          rw [h0] at c0
          clear h0 hLk
          go_wp2
          go_roundg (n - (k + 1))
          case measure => omega
          case rel => exact ⟨k + 1, by omega, rfl, by go_num, by rw [e1.out], rfl⟩
        · have e1 : Hid (idle L (k + 1) = idle L k) := by unfold Hid; rw [idle]; simp [h0]
          have h0i : ¬ (L k : Int) = 0 := by omega
          go_wp2
          go_roundg (n - (k + 1))
          case measure => omega
          case rel => exact ⟨k + 1, by omega, rfl, by go_num, by rw [e1.out], rfl⟩
      · obtain rfl : k = n := by omega
        have Hb := hid (build_any w' a k cap b off A L C O hn HL.out HA.out HI.out)
        cases hid0 : idle L k with
        | true =>
          have hlt := (idle_iff L k).1 hid0
          go_wp2_with fail
          refine Hb.out.mono ?_
          rintro e w2 ⟨rfl, hB, hF⟩
          have HB := hid hB
          have HF := hid hF
          clear hB hF Hb
          go_wp2_with fail
          refine (addReader_any w2 _ k L O i hn HL.out HB.out).mono ?_
          rintro e w3 ⟨g', n', cap', FA, FL, FC, V, rfl, hn', hR, hh, hc, hF3⟩
          obtain rfl : n' = k := by rcases hc with ⟨_, h⟩ | ⟨h, _⟩; exact h; obtain ⟨m, hm, h0⟩ := hlt; have := h m hm; omega
          have HR := hid hR
          have HH := hid hh
          have HF3 := hid (HF.out.trans' hF3 (fun i hi h => by omega))
          clear hR hh hc hF3 hlt
          go_wp2_with fail
          refine (openedBy_any w3 g' n' cap' FA FL FC V i hn' HR.out).mono ?_
          rw [HH.out]
          rintro e w4 ⟨rfl, q, rfl⟩
          go_wp2
          go_ret
          exact ⟨rfl, (HF3.out.below (Nat.le_refl _) (fun _ _ h => h)).trans ⟨rfl, rfl, rfl, Nat.le_refl _, fun _ _ => rfl⟩⟩
        | false =>
          have hlt := (idle_no L k).1 hid0
          go_wp2_with fail
          refine Hb.out.mono ?_
          rintro e w2 ⟨rfl, hB, hF⟩
          have HB := hid hB
          have HF := hid hF
          clear hB hF Hb
          go_wp2_with fail
          refine (addReader_any w2 _ k L O i hn HL.out HB.out).mono ?_
          rintro e w3 ⟨g', n', cap', FA, FL, FC, V, rfl, hn', hR, hh, hc, hF3⟩
          obtain rfl : n' = k + 1 := by rcases hc with ⟨⟨m, hm, h0⟩, _⟩ | ⟨_, h⟩; (have := hlt m hm; omega); exact h
          have HR := hid hR
          have HH := hid hh
          have HF3 := hid (HF.out.trans' hF3 (fun i hi h => by omega))
          clear hR hh hc hF3 hlt
          go_wp2_with fail
          refine (openedBy_any w3 g' (k + 1) cap' FA FL FC V i hn' HR.out).mono ?_
          rw [HH.out]
          rintro e w4 ⟨rfl, q, rfl⟩
          go_wp2
          go_ret
          exact ⟨rfl, (HF3.out.below (Nat.le_refl _) (fun _ _ h => h)).trans ⟨rfl, rfl, rfl, Nat.le_refl _, fun _ _ => rfl⟩⟩
  · go_wp2
    go_ret
    exact ⟨rfl, Below.refl _ _⟩

end Go.Proofs.Ybulkabbs
