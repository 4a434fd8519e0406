import Derived.Test.YbulkabbeTa
/- sort.Search over the ends. -/
namespace Go.Proofs.Ybulkabbe
open Go.RowKit
set_option linter.unusedVariables false

theorem Own.drewN {w : World} {base : Nat} {v : Value} {E : List En} (h : Own w base v E) (q : Nat) : Own (w.drewN q) base v E := h

set_option maxRecDepth 100000 in
set_option maxHeartbeats 800000 in
theorem search_any (w : World) (base SB bs bf g cap n : Nat) (a : Int) (E : List En) (hn : n = E.length) (hl : n ≤ 1024) (hS : Sorted E)
    (h1 : w.cell? ⟨bs, 0, none⟩ = some (.pointer (some ⟨SB, 0, none⟩))) (h2 : w.cell? ⟨bf, 1, none⟩ = some (.int .i64 a)) (h10 : w.cell? ⟨SB, 10, none⟩ = some (.slice (some ⟨g, 0, none⟩) n cap)) (hO : Own w base (.slice (some ⟨g, 0, none⟩) n cap) E) :
    Calls Yba.prog 12 #[.int .i64 n, .func (.func 13) #[] #[.pointer (some ⟨bs, 0, none⟩), .pointer (some ⟨bf, 0, none⟩)]] w fun e w' => ∃ i q : Nat, e = .returned (.int .i64 i) ∧ Cut E a i ∧ w' = w.drewN q := by
  have HO := hid (And.intro hS hO)
  have Hn := hid hn
  clear hS hO hn
  go_enter Yba.func12, Yba.ntmps12
  go_wp2
  go_loopg [5, 6] n (fun m s5 s6 wr => ∃ i j q : Nat, i ≤ j ∧ j ≤ n ∧ m = j - i ∧ s5 = .int .i64 i ∧ s6 = .int .i64 j ∧ (∀ k e, k < i → E[k]? = some e → e.at_ < a) ∧ (∀ k e, j ≤ k → E[k]? = some e → a ≤ e.at_) ∧ wr = w.drewN q)
  case atStart => exact ⟨0, n, 0, by omega, by omega, by omega, rfl, rfl, fun k e h => by omega, fun k e h he => by have := (List.getElem?_eq_some_iff.1 he).1; have := Hn.out; omega, rfl⟩
  case round =>
    obtain ⟨i, j, q, hij, hjn, hm, rfl, rfl, hlo, hhi, rfl⟩ := hrel
    have HB := hid (And.intro hlo hhi)
    clear hlo hhi
    by_cases hlt : i < j
    · have hh : (i + j) / 2 < E.length := by have := Hn.out; omega
      have hp := pred_any (w.drewN q) base SB bs bf g cap n a E ((i + j) / 2) E[(i + j) / 2] Hn.out hl (List.getElem?_eq_getElem hh) h1 h2 h10 (HO.out.2.drewN q)
      have hcast : (((i + j) / 2 : Nat) : Int) = ((i : Int) + (j : Int)) / 2 := by omega
      have HC := hid hcast
      rw [hcast] at hp
      have hlt' : (i : Int) < (j : Int) := by omega
      clear hcast
      by_cases ha : a ≤ E[(i + j) / 2].at_
      · rw [show decide (a ≤ E[(i + j) / 2].at_) = true by simp [ha]] at hp
        have Hp := hid hp
        have Ha := hid ha
        clear hp ha
        go_wp2_with (first | (refine Hp.out.mono ?_; rintro e w' ⟨rfl, q', rfl⟩))
        go_roundg ((i + j) / 2 - i)
        case measure => omega
        case rel => exact ⟨i, (i + j) / 2, _, by omega, by omega, rfl, rfl, by rw [← HC.out], HB.out.1, fun k e hk he => by have := HO.out.1 _ _ _ _ hk (List.getElem?_eq_getElem hh) he; have := Ha.out; omega, rfl⟩
      · rw [show decide (a ≤ E[(i + j) / 2].at_) = false by simp [ha]] at hp
        have Hp := hid hp
        have Ha := hid ha
        clear hp ha
        go_wp2_with (first | (refine Hp.out.mono ?_; rintro e w' ⟨rfl, q', rfl⟩))
        go_roundg (j - ((i + j) / 2 + 1))
        case measure => omega
        case rel => exact ⟨(i + j) / 2 + 1, j, _, by omega, by omega, rfl, by rw [← HC.out]; go_num, rfl, fun k e hk he => by have := HO.out.1 _ _ _ _ (show k ≤ (i + j) / 2 by omega) he (List.getElem?_eq_getElem hh); have := Ha.out; omega, HB.out.2, rfl⟩
    · obtain rfl : i = j := by omega
      go_wp2
      go_ret
      exact ⟨i, _, rfl, ⟨by have := Hn.out; omega, HB.out.1, HB.out.2⟩, rfl⟩

end Go.Proofs.Ybulkabbe
