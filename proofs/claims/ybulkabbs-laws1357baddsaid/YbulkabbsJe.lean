import Derived.Test.YbulkabbsJd
import Derived.ProofKit
import Derived.OpenShut
import Derived.ChangeOld
import Derived.Deep.Slices
namespace Go.Proofs.Ybulkabbs
open Go.ChangeShapes Go.WideShapes Go.ChangeAt Go.RowKit Go.Deep
set_option linter.unusedVariables false

theorem own : ownKnob Yba.prog.godebug = none := by kernel_rfl
theorem laidOut : laidOutB Yba.prog = true := by kernel_rfl
theorem cells26 : Yba.prog.cellsOf 26 = 1 := by kernel_rfl
theorem cells24 : Yba.prog.cellsOf 24 = 1 := by kernel_rfl
theorem cells3 : Yba.prog.cellsOf 3 = 1 := by kernel_rfl

section
variable {H : Type} {enc : TypeId × Value → H} {w : World}

theorem opens_ok {fuel : Nat} {cs : List Value} {x : DataW H × List MemPlace} (h : DataW.trod enc Yba.prog w 0 (fun _ => true) true fuel 24 cs = some x) :
    ∃ (A : Option Addr) (L C : Nat) (O : Nat → Int), cs = [.slice A L C] ∧ L ≤ 9223372036854775807 ∧ (0 < L → ∃ bb oo, A = some ⟨bb, oo, none⟩ ∧ ∀ j, j < L → w.cell? ⟨bb, oo + j, none⟩ = some (.int .i64 (O j))) := by
  rcases open_ints Yba.underlying24 Yba.underlying3 cells3 h with ⟨hcs, _⟩ | ⟨ad, l, c, zs, hcs, _, hl, hm, hz, _, hcell, hwz⟩
  · exact ⟨none, 0, 0, fun _ => 0, hcs, by omega, fun h => by omega⟩
  · refine ⟨some ad, l, c, fun j => zs.getD j 0, hcs, by unfold maxLen at hm; omega, fun h0 => ?_⟩
    have hz' : zs.length = c := by simpa using hz
    have hsp : ad.spot = none := by
      have := World.cell?_spot (hcell 0 (by omega))
      simpa [Addr.add] using this
    obtain ⟨b, off, spot⟩ := ad
    simp at hsp
    subst hsp
    refine ⟨b, off, rfl, fun j hj => ?_⟩
    have := hcell j (by omega)
    rwa [addr_add] at this

set_option maxRecDepth 100000 in
theorem reader_ok {fuel : Nat} {cs : List Value} {x : DataW H × List MemPlace} (h : DataW.trod enc Yba.prog w 0 (fun _ => true) true fuel 26 cs = some x) :
    ∃ (A : Option Addr) (L C : Nat) (O : Nat → Int), cs = [.slice A L C] ∧ L ≤ 9223372036854775807 ∧ (0 < L → ∃ bb oo, A = some ⟨bb, oo, none⟩ ∧ ∀ j, j < L → w.cell? ⟨bb, oo + j, none⟩ = some (.int .i64 (O j))) := by
  obtain ⟨xs, m, _, _, hlen, hxl, hf⟩ := DataW.trod_struct Yba.underlying26 h
  rw [cells26] at hlen
  match cs, hlen with
  | [c0], _ =>
    have hx : xs.length = 1 := hxl
    match xs, hx with
    | [x0], _ =>
      have f0 := hf 0 _ rfl
      obtain ⟨A, L, C, O, e0, hr⟩ := opens_ok f0
      simp [cells24] at e0
      subst e0
      exact ⟨A, L, C, O, rfl, hr⟩

theorem readers_ok {fuel : Nat} {a : Option Addr} {n cap : Nat} {x : DataW H × List MemPlace} (h : DataW.trod enc Yba.prog w 0 (fun _ => true) true fuel 22 [.slice a n cap] = some x) :
    n ≤ 9223372036854775807 ∧ ∃ b off A L C O, (0 < n → a = some ⟨b, off, none⟩) ∧ Inp w b off n A L C O := by
  rcases open_slice Yba.underlying22 h with ⟨hcs, _⟩ | ⟨ad, l, c, m, n', Dx, Pl, hcs, _, hl, hm, hmm, _, hx⟩
  · simp at hcs
    obtain ⟨rfl, rfl, rfl⟩ := hcs
    exact ⟨by omega, 0, 0, fun _ => none, fun _ => 0, fun _ => 0, fun _ _ => 0, fun h => by omega, ⟨fun i h => by omega, fun i h => by omega, fun i h => by omega⟩⟩
  · simp at hcs
    obtain ⟨rfl, rfl, rfl⟩ := hcs
    simp at hmm
    subst hmm
    refine ⟨by unfold maxLen at hm; omega, ?_⟩
    have hx' : ∀ i, i < n → ∃ (A : Option Addr) (L C : Nat) (O : Nat → Int), w.cell? (ad.add i) = some (.slice A L C) ∧ L ≤ 9223372036854775807 ∧ (0 < L → ∃ bb oo, A = some ⟨bb, oo, none⟩ ∧ ∀ j, j < L → w.cell? ⟨bb, oo + j, none⟩ = some (.int .i64 (O j))) := by
      intro i hi
      obtain ⟨cs', h1, h2⟩ := hx i (by omega)
      rw [cells26] at h1
      obtain ⟨A, L, C, O, rfl, hr⟩ := reader_ok h2
      obtain ⟨_, _, hc⟩ := World.cells?_some h1
      have h00 := hc 0 (by omega)
      refine ⟨A, L, C, O, ?_, hr⟩
      simpa [Addr.add] using h00
    by_cases h0 : n = 0
    · subst h0
      exact ⟨0, 0, fun _ => none, fun _ => 0, fun _ => 0, fun _ _ => 0, fun h => by omega, ⟨fun i h => by omega, fun i h => by omega, fun i h => by omega⟩⟩
    · have hsp : ad.spot = none := by
        obtain ⟨A, L, C, O, hc, _⟩ := hx' 0 (by omega)
        have := World.cell?_spot hc
        simpa [Addr.add] using this
      obtain ⟨b, off, spot⟩ := ad
      simp at hsp
      subst hsp
      obtain ⟨A, hA⟩ := choose_lt hx'
      obtain ⟨L, hL⟩ := choose_lt hA
      obtain ⟨C, hC⟩ := choose_lt hL
      obtain ⟨O, hO⟩ := choose_lt hC
      exact ⟨b, off, A, L, C, O, fun _ => rfl, ⟨fun k hk => by have := (hO k hk).1; rwa [addr_add] at this, fun k hk => (hO k hk).2.1, fun k hk => (hO k hk).2.2⟩⟩
end

namespace lawS1357BSpec
set_option maxRecDepth 100000 in
theorem lifted (os : Os) (started : os.Started) (H : Type) (enc : TypeId × Value → H) :
    ReturnsInHanded {} Yba.checked os 3 .any (Rows.lawS1357BSpecSpec.pre6 enc Yba.prog Yba.f3 Rows.lawS1357BSpecRow.domain false) (Rows.lawS1357BSpecSpec.post enc Yba.prog Yba.f3 false true false false) := by
  refine returnsInHanded_of_change (C := Yba.checked) own started (by kernel_rfl) Yba.func3
    (ChangeSpec.witness6 (enc := enc) (C := Yba.checked) false ⟨#[], #[.slice none 0 0, .int .i64 0], []⟩ 8 (by kernel_rfl) (by kernel_rfl) (by kernel_rfl) (by kernel_rfl)) ?_
  intro W base args ds gs before hval0 hW hcnd _
  have hval : ∀ (j : Nat) t v, Yba.f3.params[j]? = some t → args[j]? = some v → Value.okWide Yba.prog W .any base t v := hval0
  have hW' := hW
  obtain ⟨p, q, hA0, hV, rfl, hfz, hnd⟩ := hW
  have hA : DataW.TrodAll enc Yba.prog W 0 (fun _ => true) true Yba.f3.params.toList args.toList ds p := hA0
  rw [Yba.params3] at hA hval
  obtain ⟨v0, vs0, d0, ds0, p0, q0, hargs, rfl, rfl, h0, r0⟩ := trodAll_cons hA
  obtain ⟨v1, vs1, d1, ds1, p1, q1, rfl, rfl, rfl, h1, r1⟩ := trodAll_cons r0
  obtain ⟨rfl, rfl, rfl⟩ := trodAll_nil r1
  obtain rfl : args = #[v0, v1] := by cases args; simp_all
  obtain ⟨rfl, rfl⟩ := trodVars_none hV
  obtain ⟨a0, len0, cap0, rfl⟩ := okWide_slice Yba.underlying22 (hval 0 22 v0 rfl rfl)
  have k0 := h0
  have lt0 : ∀ x ∈ p0, x.block < W.heap.size := by obtain ⟨m, hm⟩ := k0; exact DataW.trod_lt m _ _ _ hm
  obtain ⟨a1, rfl, rfl, rfl, w1⟩ := open_int Yba.underlying3 (hval 1 3 v1 rfl rfl) h1
  clear hA0 hval0
  have walk : Calls Yba.prog 3 #[.slice a0 len0 cap0, .int .i64 a1] W fun e w' => e = .returned (.bool true) ∧ Below W.heap.size W w' := by
    obtain ⟨fuel, hf⟩ := h0
    have hf' : DataW.trod enc Yba.prog W 0 (fun _ => true) true fuel 22 [.slice a0 len0 cap0] = some (d0, p0) := by simpa [Value.cells] using hf
    obtain ⟨hnm, b, off, A, L, C, O, hA, hI⟩ := readers_ok hf'
    exact spec_law W a0 len0 cap0 b off A L C O a1 hnm hA hI
  refine walk.mono fun e W' ⟨he, bel⟩ => ?_
  subst he
  exact ⟨_, rfl, _, _, _, [], _, [], hW', trodAll_mk1 (shut_bool Yba.underlying4 _), (trodAll_cons_mk (Below.trod laidOut (by kernel_rfl) (of_decide_eq_true (by kernel_rfl)) k0 bel lt0) (trodAll_cons_mk (shut_int Yba.underlying3 w1) trodAll_mk0)), rfl, bel.frame _, fun h => by cases h⟩

theorem over : Rows.lawS1357BSpecRow.holds Yba.pinned (OpenSpec.ofChange Rows.lawS1357BSpecSpec) :=
  OpenClaim.holds_of_wide 3 Yba.f3 rfl rfl rfl rfl rfl rfl rfl ⟨rfl, rfl, rfl, rfl, rfl⟩ rfl rfl rfl rfl rfl (by kernel_rfl) Yba.func3 (by kernel_rfl)
    (of_decide_eq_true (by kernel_rfl)) (by unfold Func.isWrapper; first | (rw [if_pos (by decide +kernel)]; kernel_rfl) | (rw [if_neg (by decide +kernel)]; exact ⟨rfl, rfl⟩))
    (fun os started H enc _ => lifted os started H enc)

theorem proved : Rows.LawS1357BSpecSaid := over
#print axioms proved
end lawS1357BSpec
end Go.Proofs.Ybulkabbs
