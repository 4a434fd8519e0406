import Derived.Test.YbulkabcgFmtKb
import Derived.Test.YbulkabcgFmtTie
import Derived.Test.YbulkabcgFmtCards
import Derived.ProofKit
import Derived.OpenShut
import Derived.OpenVars
import Derived.ShutString
import Derived.ChangeOld
import Derived.Deep.Slices
import Derived.Stop.JoinedTold
import Derived.LaidLaws
import Derived.SevenTiedAt
namespace Go.Proofs.YbulkabcgFmt
open Go.ChangeShapes Go.WideShapes Go.ChangeAt Go.RowKit Go.Deep
open Go.ChangeMaps (open_string shut_string)
open Go.Extern.Stop Go.Stop Go.Extern
set_option linter.unusedVariables false

theorem own : ownKnob Ybaf.prog.godebug = none := by kernel_rfl
theorem laidOut : laidOutB Ybaf.prog = true := by kernel_rfl
theorem cells9 : Ybaf.prog.cellsOf 9 = 1 := by kernel_rfl
theorem cells5 : Ybaf.prog.cellsOf 5 = 1 := by kernel_rfl
theorem addr_add (b off k : Nat) : (⟨b, off, none⟩ : Addr).add k = ⟨b, off + k, none⟩ := by unfold Addr.add; split <;> simp_all

section
variable {H : Type} {enc : TypeId × Value → H} {w : World}

theorem keys_ok {fuel : Nat} {a : Option Addr} {n cap : Nat} {x : DataW H × List MemPlace} (h : DataW.trod enc Ybaf.prog w 0 (fun _ => true) true fuel 22 [.slice a n cap] = some x) :
    n ≤ 9223372036854775807 ∧ ∃ b off N, (0 < n → a = some ⟨b, off, none⟩) ∧ Keys w b off n N := by
  rcases open_slice Ybaf.underlying22 h with ⟨hcs, _⟩ | ⟨ad, l, c, m, n', Dx, Pl, hcs, _, hl, hm, hmm, _, hx⟩
  · simp at hcs
    obtain ⟨rfl, rfl, rfl⟩ := hcs
    exact ⟨by omega, 0, 0, fun _ => ByteArray.empty, fun h => by omega, ⟨fun i h => by omega⟩⟩
  · simp at hcs
    obtain ⟨rfl, rfl, rfl⟩ := hcs
    simp at hmm
    subst hmm
    refine ⟨by unfold maxLen at hm; omega, ?_⟩
    have hx' : ∀ i, i < n → ∃ s : ByteArray, w.cell? (ad.add i) = some (.string s) := by
      intro i hi
      obtain ⟨cs', h1, h2⟩ := hx i (by omega)
      rw [cells9] at h1
      obtain ⟨s, rfl, _, _⟩ := DataW.trod_string Ybaf.underlying9 h2
      obtain ⟨_, _, hc⟩ := World.cells?_some h1
      have h00 := hc 0 (by omega)
      exact ⟨s, by simpa [Addr.add] using h00⟩
    by_cases h0 : n = 0
    · subst h0
      exact ⟨0, 0, fun _ => ByteArray.empty, fun h => by omega, ⟨fun i h => by omega⟩⟩
    · have hsp : ad.spot = none := by
        obtain ⟨s, hc⟩ := hx' 0 (by omega)
        have := World.cell?_spot hc
        simpa [Addr.add] using this
      obtain ⟨b, off, spot⟩ := ad
      simp at hsp
      subst hsp
      obtain ⟨N, hN⟩ := choose_lt hx'
      exact ⟨b, off, N, fun _ => rfl, ⟨fun k hk => by have := hN k hk; rwa [addr_add] at this⟩⟩

theorem cnts_ok {fuel : Nat} {a : Option Addr} {n cap : Nat} {x : DataW H × List MemPlace} (h : DataW.trod enc Ybaf.prog w 0 (fun _ => true) true fuel 23 [.slice a n cap] = some x) :
    n ≤ 9223372036854775807 ∧ ∃ b off Q, (0 < n → a = some ⟨b, off, none⟩) ∧ Cnts w b off n Q := by
  rcases open_ints Ybaf.underlying23 Ybaf.underlying5 cells5 h with ⟨hcs, _⟩ | ⟨ad, l, c, zs, hcs, _, hl, hm, hz, _, hcell, hwz⟩
  · simp at hcs
    obtain ⟨rfl, rfl, rfl⟩ := hcs
    exact ⟨by omega, 0, 0, fun _ => 0, fun h => by omega, ⟨fun i h => by omega, fun i => by omega⟩⟩
  · simp at hcs
    obtain ⟨rfl, rfl, rfl⟩ := hcs
    refine ⟨by unfold maxLen at hm; omega, ?_⟩
    have hz' : zs.length = cap := by simpa using hz
    have hb : ∀ i, 0 ≤ zs.getD i 0 ∧ zs.getD i 0 ≤ 255 := by
      intro i
      by_cases hi : i < zs.length
      · have := bounds_u8 (hwz zs[i] (List.getElem_mem hi))
        simpa [List.getD, List.getElem?_eq_getElem hi] using this
      · simp [List.getD, List.getElem?_eq_none (by omega : zs.length ≤ i)]
    by_cases h0 : n = 0
    · subst h0
      exact ⟨0, 0, fun _ => 0, fun h => by omega, ⟨fun i h => by omega, fun i => by omega⟩⟩
    · have hsp : ad.spot = none := by
        have := World.cell?_spot (hcell 0 (by omega))
        simpa [Addr.add] using this
      obtain ⟨b, off, spot⟩ := ad
      simp at hsp
      subst hsp
      exact ⟨b, off, fun j => zs.getD j 0, fun _ => rfl, ⟨fun k hk => by have := hcell k (by omega); rwa [addr_add] at this, hb⟩⟩
end

set_option maxRecDepth 100000 in
set_option maxHeartbeats 400000 in
theorem latest_big (w : World) (a ca : Option Addr) (n cap cn ccap : Nat) (key : ByteArray) (mode : Int) (hm : n ≤ 9223372036854775807) (hl : 1024 < n) :
    Calls Ybaf.prog 3 #[.slice a n cap, .slice ca cn ccap, .string key, .int .u8 mode] w fun e w' => e = .returned (.bool true) ∧ Below w.heap.size w w' := by
  go_enter Ybaf.func3, Ybaf.ntmps3
  go_wp2
  go_ret
  exact ⟨rfl, Below.refl _ _⟩

/-! ### One start that fits: the three sentinels as their initialisers lay them -/
abbrev textF : ByteArray := { data := #[110, 111, 100, 101, 58, 32, 116, 104, 101, 32, 99, 104, 101, 99, 107, 32, 110, 101, 101, 100, 115, 32, 109, 111, 114, 101, 32, 111, 102, 32, 116, 104, 101, 32, 108, 111, 103, 32, 116, 104, 97, 110, 32, 105, 116, 115, 32, 102, 114, 111, 110, 116, 105, 101, 114] }
abbrev textC : ByteArray := { data := #[110, 111, 100, 101, 58, 32, 115, 116, 111, 114, 101, 32, 99, 111, 114, 114, 117, 112, 116] }
abbrev textH : ByteArray := { data := #[116, 104, 101, 32, 99, 104, 101, 99, 107, 112, 111, 105, 110, 116, 39, 115, 32, 102, 114, 97, 109, 101, 115, 32, 100, 111, 32, 110, 111, 116, 32, 98, 101, 97, 114, 32, 111, 117, 116, 32, 116, 104, 101, 32, 108, 111, 103] }
noncomputable def low : Nat := (World.holding Ybaf.prog default ⟨#[], #[], []⟩).heap.size
noncomputable def laidWorld (os : Os) : World :=
  let w0 := World.holding Ybaf.prog os ⟨#[.cells #[.string textH] 84, .cells #[.string textF] 84, .cells #[.string textC] 84], #[], []⟩
  { w0 with heap := ((w0.heap.modify 0 fun
      | .cells _ t frozen => .cells #[.iface 82 (.pointer (some ⟨low, 0, none⟩))] t frozen
      | o => o).modify 1 fun
      | .cells _ t frozen => .cells #[.iface 82 (.pointer (some ⟨low + 1, 0, none⟩))] t frozen
      | o => o).modify 2 fun
      | .cells _ t frozen => .cells #[.iface 82 (.pointer (some ⟨low + 2, 0, none⟩))] t frozen
      | o => o }
theorem laid_met (os : Os) (args : Array Value) : laidMet Ybaf.prog Rows.lawS1358BLatestMapRow.laid ((laidWorld os).forCall (fun _ _ => 0) ⟨#[], args, []⟩).memory :=
  laidMet_of_run (ps := [.cell 1 0, .cell (low + 1) 0, .cell 2 0, .cell (low + 2) 0, .cell 0 0, .cell low 0]) 8 (by kernel_rfl) (by kernel_rfl) (by kernel_rfl)

abbrev spec : OpenSpec := OpenSpec.ofChange Rows.lawS1358BLatestMapSpec

set_option maxRecDepth 100000 in
set_option maxHeartbeats 800000 in
theorem lifted (os : Os) (started : os.Started) (H : Type) (enc : TypeId × Value → H) :
    ReturnsInTold none {} Ybaf.checked os 3 .any Input.okWide (spec.preRow enc Ybaf.prog Ybaf.f3 Rows.lawS1358BLatestMapRow.domain false Rows.lawS1358BLatestMapRow.laid) (fun F => (spec.at F).post enc Ybaf.prog Ybaf.f3 false true false false) (aloneAtReturn Ybaf.prog) nothingAlways := by
  refine returnsInTold_of_row (C := Ybaf.checked) (s := spec) (by kernel_rfl) own started (by kernel_rfl) Ybaf.func3
    (OpenSpec.witness_stopped_at (enc := enc) (C := Ybaf.checked) false (laidWorld os) #[.slice none 0 0, .slice none 0 0, .string ⟨#[]⟩, .int .u8 0] rfl (by kernel_rfl) (by kernel_rfl) (by kernel_rfl)
      (OpenSpec.preRow_of_B rfl 8 (by kernel_rfl) (by kernel_rfl) (laid_met os _))) ?_
  intro F W base args ds gs before _ hF hval0 hW _ _ _ hL _
  have hval : ∀ (j : Nat) t v, Ybaf.f3.params[j]? = some t → args[j]? = some v → Value.okWide Ybaf.prog W .any base t v := hval0
  have hW' := hW
  obtain ⟨p, q, hA0, hV0, rfl, hfz, hnd⟩ := hW
  have hA : DataW.TrodAll enc Ybaf.prog W 0 (fun _ => true) true Ybaf.f3.params.toList args.toList ds p := hA0
  have hV : DataW.TrodVars enc Ybaf.prog W (fun _ => true) Rows.lawS1358BLatestMapSpec.vars gs q := hV0
  rw [Ybaf.params3] at hA hval
  obtain ⟨v0, vs0, d0, ds0, p0, q0, hargs, rfl, rfl, h0, r0⟩ := trodAll_cons hA
  obtain ⟨v1, vs1, d1, ds1, p1, q1, rfl, rfl, rfl, h1, r1⟩ := trodAll_cons r0
  obtain ⟨v2, vs2, d2, ds2, p2, q2, rfl, rfl, rfl, h2, r2⟩ := trodAll_cons r1
  obtain ⟨v3, vs3, d3, ds3, p3, q3, rfl, rfl, rfl, h3, r3⟩ := trodAll_cons r2
  obtain ⟨rfl, rfl, rfl⟩ := trodAll_nil r3
  obtain rfl : args = #[v0, v1, v2, v3] := by cases args; simp_all
  obtain ⟨g0, g1, g2, rfl⟩ : ∃ g0 g1 g2, gs = [g0, g1, g2] := by
    match gs, hV with
    | [], h => exact h.elim
    | [_], h => obtain ⟨_, _, _, _, _, _, _, _, _, _, h, _⟩ := h; exact h.elim
    | [_, _], h => obtain ⟨_, _, _, _, _, _, _, _, _, _, h, _⟩ := h; obtain ⟨_, _, _, _, _, _, _, _, _, _, h, _⟩ := h; exact h.elim
    | [a, b, c], _ => exact ⟨a, b, c, rfl⟩
    | _ :: _ :: _ :: _ :: _, h => obtain ⟨_, _, _, _, _, _, _, _, _, _, h, _⟩ := h; obtain ⟨_, _, _, _, _, _, _, _, _, _, h, _⟩ := h; obtain ⟨_, _, _, _, _, _, _, _, _, _, h, _⟩ := h; exact h.elim
  obtain ⟨a0, len0, cap0, rfl⟩ := okWide_slice Ybaf.underlying22 (hval 0 22 v0 rfl rfl)
  obtain ⟨a1, len1, cap1, rfl⟩ := okWide_slice Ybaf.underlying23 (hval 1 23 v1 rfl rfl)
  have k0 := h0
  have k1 := h1
  have lt0 : ∀ x ∈ p0, x.block < W.heap.size := by obtain ⟨m, hm⟩ := k0; exact DataW.trod_lt m _ _ _ hm
  have lt1 : ∀ x ∈ p1, x.block < W.heap.size := by obtain ⟨m, hm⟩ := k1; exact DataW.trod_lt m _ _ _ hm
  obtain ⟨s2, rfl, rfl, rfl, ws2⟩ := open_string Ybaf.underlying9 (hval 2 9 v2 rfl rfl) h2
  obtain ⟨a3, rfl, rfl, rfl, w3⟩ := open_int Ybaf.underlying5 (hval 3 5 v3 rfl rfl) h3
  clear hA0 hval0
  have walk : Calls Ybaf.prog 3 #[.slice a0 len0 cap0, .slice a1 len1 cap1, .string s2, .int .u8 a3] W fun e w' => e = .returned (.bool true) ∧ Below W.heap.size W w' := by
    obtain ⟨fuel, hf⟩ := h0
    have hf' : DataW.trod enc Ybaf.prog W 0 (fun _ => true) true fuel 22 [.slice a0 len0 cap0] = some (d0, p0) := by simpa [Value.cells] using hf
    obtain ⟨hnm, b, off, N, hA, hK⟩ := keys_ok hf'
    obtain ⟨fuel1, hf1⟩ := h1
    have hf1' : DataW.trod enc Ybaf.prog W 0 (fun _ => true) true fuel1 23 [.slice a1 len1 cap1] = some (d1, p1) := by simpa [Value.cells] using hf1
    obtain ⟨hcm, cb, coff, Q, hB, hC⟩ := cnts_ok hf1'
    by_cases hbig : 1024 < len0
    · exact latest_big W a0 a1 len0 cap0 len1 cap1 s2 a3 hnm hbig
    · have w3b := bounds_u8 w3
      exact latest_law W a0 a1 len0 cap0 len1 cap1 b off cb coff N Q s2 a3 (by omega) hcm hA hK hB hC w3b.1 w3b.2
  refine walk.mono fun e W' ⟨he, bel⟩ => ?_
  subst he
  exact ⟨_, rfl, _, _, _, [], _, _, hW', trodAll_mk1 (shut_bool Ybaf.underlying4 _), (trodAll_cons_mk (Below.trod laidOut (by kernel_rfl) (of_decide_eq_true (by kernel_rfl)) k0 bel lt0) (trodAll_cons_mk (Below.trod laidOut (by kernel_rfl) (of_decide_eq_true (by kernel_rfl)) k1 bel lt1) (trodAll_cons_mk (shut_string Ybaf.underlying9 ws2) (trodAll_cons_mk (shut_int Ybaf.underlying5 w3) trodAll_mk0)))), Below.trodVars laidOut bel (by kernel_rfl) hV, bel.frame _, fun h => by cases h⟩

end Go.Proofs.YbulkabcgFmt
