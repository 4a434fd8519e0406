import Derived.Test.YbulkabbeUf
import Derived.ProofKit
import Derived.OpenShut
import Derived.ShutString
import Derived.ChangeOld
import Derived.Deep.Slices
namespace Go.Proofs.Ybulkabbe.lawS1356AScript
open Go.ChangeShapes Go.WideShapes Go.ChangeAt Go.RowKit Go.Deep
set_option linter.unusedVariables false

theorem own : ownKnob Yba.prog.godebug = none := by kernel_rfl
theorem laidOut : laidOutB Yba.prog = true := by kernel_rfl
theorem cells57 : Yba.prog.cellsOf 57 = 3 := by kernel_rfl
theorem cells55 : Yba.prog.cellsOf 55 = 1 := by kernel_rfl
theorem cells5 : Yba.prog.cellsOf 5 = 1 := by kernel_rfl

theorem addr_add (b off k : Nat) : (⟨b, off, none⟩ : Addr).add k = ⟨b, off + k, none⟩ := by unfold Addr.add; split <;> simp_all

section
variable {H : Type} {enc : TypeId × Value → H} {w : World}

set_option maxRecDepth 100000 in
/-- One step that came in. -/
theorem step_ok {fuel : Nat} {cs : List Value} {x : DataW H × List MemPlace} (h : DataW.trod enc Yba.prog w 0 (fun _ => true) true fuel 57 cs = some x) :
    ∃ l a c, cs = [.int .u16 l, .int .u16 a, .int .u8 c] ∧ (0 ≤ l ∧ l ≤ 65535) ∧ (0 ≤ a ∧ a ≤ 65535) ∧ (0 ≤ c ∧ c ≤ 255) := by
  obtain ⟨xs, m, _, _, hlen, hxl, hf⟩ := DataW.trod_struct Yba.underlying57 h
  rw [cells57] at hlen
  match cs, hlen with
  | [c0, c1, c2], _ =>
    have hx : xs.length = 3 := hxl
    match xs, hx with
    | [x0, x1, x2], _ =>
      have f0 := hf 0 _ rfl
      have f1 := hf 1 _ rfl
      have f2 := hf 2 _ rfl
      obtain ⟨k, e0, _, wk⟩ := DataW.trod_int Yba.underlying55 f0
      obtain ⟨k1, e1, _, wk1⟩ := DataW.trod_int Yba.underlying55 f1
      obtain ⟨k2, e2, _, wk2⟩ := DataW.trod_int Yba.underlying5 f2
      simp [cells55, cells5] at e0 e1 e2
      subst e0 e1 e2
      exact ⟨k, k1, k2, rfl, bounds_u16 wk, bounds_u16 wk1, bounds_u8 wk2⟩

theorem steps_ok {fuel : Nat} {a : Option Addr} {len cap : Nat} {x : DataW H × List MemPlace} (h : DataW.trod enc Yba.prog w 0 (fun _ => true) true fuel 22 [.slice a len cap] = some x) :
    ∃ b off Ln Ad Cx, (0 < len → a = some ⟨b, off, none⟩) ∧ Stp w b off len Ln Ad Cx := by
  rcases open_slice Yba.underlying22 h with ⟨hcs, _⟩ | ⟨ad, l, c, m, n, Dx, Pl, hcs, _, hl, hm, hmm, _, hx⟩
  · simp at hcs
    obtain ⟨rfl, rfl, rfl⟩ := hcs
    exact ⟨0, 0, fun _ => 0, fun _ => 0, fun _ => 0, fun h => by omega, ⟨fun i h => by omega, fun i h => by omega, fun i h => by omega, fun i => by omega, fun i => by omega, fun i => by omega⟩⟩
  · simp at hcs
    obtain ⟨rfl, rfl, rfl⟩ := hcs
    simp at hmm
    subst hmm
    have hx' : ∀ i, i < len → ∃ k d e, (∀ j v, [Value.int .u16 k, .int .u16 d, .int .u8 e][j]? = some v → w.cell? ((ad.add (i * 3)).add j) = some v) ∧ (0 ≤ k ∧ k ≤ 65535) ∧ (0 ≤ d ∧ d ≤ 65535) ∧ (0 ≤ e ∧ e ≤ 255) := by
      intro i hi
      obtain ⟨cs', h1, h2⟩ := hx i (by omega)
      rw [cells57] at h1
      obtain ⟨k, d, e, rfl, hk⟩ := step_ok h2
      obtain ⟨_, _, hc⟩ := World.cells?_some h1
      refine ⟨k, d, e, fun j v hj => ?_, hk⟩
      have hj5 : j < 3 := (List.getElem?_eq_some_iff.1 hj).1
      rw [hc j hj5]; exact hj
    by_cases h0 : len = 0
    · subst h0
      exact ⟨0, 0, fun _ => 0, fun _ => 0, fun _ => 0, fun h => by omega, ⟨fun i h => by omega, fun i h => by omega, fun i h => by omega, fun i => by omega, fun i => by omega, fun i => by omega⟩⟩
    · have hsp : ad.spot = none := by
        obtain ⟨k, d, e, hc, _⟩ := hx' 0 (by omega)
        have := World.cell?_spot (hc 0 _ rfl)
        simpa [Addr.add] using this
      obtain ⟨b, off, spot⟩ := ad
      simp at hsp
      subst hsp
      obtain ⟨K, hK⟩ := choose_lt hx'
      obtain ⟨D, hD⟩ := choose_lt hK
      obtain ⟨F, hF⟩ := choose_lt hD
      have hc : ∀ i, i < len → ∀ j v, [Value.int .u16 (K i), .int .u16 (D i), .int .u8 (F i)][j]? = some v → w.cell? ⟨b, off + i * 3 + j, none⟩ = some v := by
        intro i hi j v hj
        have := (hF i hi).1 j v hj
        rw [addr_add, addr_add] at this
        exact this
      refine ⟨b, off, fun i => if i < len then K i else 0, fun i => if i < len then D i else 0, fun i => if i < len then F i else 0, fun _ => rfl, ⟨fun i hi => ?_, fun i hi => ?_, fun i hi => ?_, fun i => ?_, fun i => ?_, fun i => ?_⟩⟩
      · have := hc i hi 0 _ rfl
        simp only [if_pos hi]
        exact this
      · have := hc i hi 1 _ rfl
        simp only [if_pos hi]
        exact this
      · have := hc i hi 2 _ rfl
        simp only [if_pos hi]
        exact this
      · by_cases hi : i < len
        · simp only [if_pos hi]; exact (hF i hi).2.1
        · simp only [if_neg hi]; omega
      · by_cases hi : i < len
        · simp only [if_pos hi]; exact (hF i hi).2.2.1
        · simp only [if_neg hi]; omega
      · by_cases hi : i < len
        · simp only [if_pos hi]; exact (hF i hi).2.2.2
        · simp only [if_neg hi]; omega
end

set_option maxRecDepth 100000 in
set_option maxHeartbeats 400000 in
theorem script_big (w : World) (a : Option Addr) (len cap : Nat) (looks : Int) (hm : len ≤ 9223372036854775807) (hl : 1024 < len) :
    Calls Yba.prog 3 #[.slice a len cap, .int .i64 looks] w fun e w' => e = .returned (.bool true) ∧ Below w.heap.size w w' := by
  go_enter Yba.func3, Yba.ntmps3
  go_wp2
  go_ret
  exact ⟨rfl, Below.refl _ _⟩

set_option maxRecDepth 100000 in
theorem lifted (os : Os) (started : os.Started) (H : Type) (enc : TypeId × Value → H) :
    ReturnsInHanded {} Yba.checked os 3 .any (Rows.lawS1356AScriptSpec.pre6 enc Yba.prog Yba.f3 Rows.lawS1356AScriptRow.domain false) (Rows.lawS1356AScriptSpec.post enc Yba.prog Yba.f3 false true false false) := by
  refine returnsInHanded_of_change (C := Yba.checked) own started (by kernel_rfl) Yba.func3
    (ChangeSpec.witness6 (enc := enc) (C := Yba.checked) false ⟨#[], #[.slice none 0 0, .int .i64 0], []⟩ 8 (by kernel_rfl) (by kernel_rfl) (by kernel_rfl) (by kernel_rfl)) ?_
  intro W base args ds gs before hval0 hW hcnd _
  have hval : ∀ (j : Nat) t v, Yba.f3.params[j]? = some t → args[j]? = some v → Value.okWide Yba.prog W .any base t v := hval0
  have hW' := hW
  obtain ⟨p, q, hA0, hV, rfl, hfz, hnd⟩ := hW
  have hA : DataW.TrodAll enc Yba.prog W 0 (fun _ => true) true Yba.f3.params.toList args.toList ds p := hA0
  rw [Yba.params3] at hA hval
  obtain ⟨v1, vs1, d1, ds1, p1, q1, hargs, rfl, rfl, h1, r1⟩ := trodAll_cons hA
  obtain ⟨v2, vs2, d2, ds2, p2, q2, rfl, rfl, rfl, h2, r2⟩ := trodAll_cons r1
  obtain ⟨rfl, rfl, rfl⟩ := trodAll_nil r2
  obtain rfl : args = #[v1, v2] := by cases args; simp_all
  obtain ⟨rfl, rfl⟩ := trodVars_none hV
  obtain ⟨a1, len1, cap1, rfl⟩ := okWide_slice Yba.underlying22 (hval 0 22 v1 rfl rfl)
  have k1 := h1
  have lt1 : ∀ x ∈ p1, x.block < W.heap.size := by obtain ⟨m, hm⟩ := k1; exact DataW.trod_lt m _ _ _ hm
  obtain ⟨a2, rfl, rfl, rfl, w2⟩ := open_int Yba.underlying3 (hval 1 3 v2 rfl rfl) h2
  clear hA0 hval0
  have walk : Calls Yba.prog 3 #[.slice a1 len1 cap1, .int .i64 a2] W fun e w' => e = .returned (.bool true) ∧ Below W.heap.size W w' := by
    obtain ⟨fuel, hf⟩ := h1
    have hf' : DataW.trod enc Yba.prog W 0 (fun _ => true) true fuel 22 [.slice a1 len1 cap1] = some (d1, p1) := by simpa [Value.cells] using hf
    by_cases hbig : 1024 < len1
    · have hm : len1 ≤ 9223372036854775807 := by
        rcases open_slice Yba.underlying22 hf' with ⟨hcs, _⟩ | ⟨ad, l, c, m, n, Dx, Pl, hcs, _, hl, hm, _⟩
        · simp at hcs; omega
        · simp at hcs; unfold maxLen at hm; omega
      exact script_big W a1 len1 cap1 a2 hm hbig
    · obtain ⟨b, off, Ln, Ad, Cx, hA, hE⟩ := steps_ok hf'
      exact script_law W a1 len1 cap1 b off Ln Ad Cx a2 (by omega) hA hE
  refine walk.mono fun e W' ⟨he, bel⟩ => ?_
  subst he
  exact ⟨_, rfl, _, _, _, [], _, [], hW', trodAll_mk1 (shut_bool Yba.underlying4 _), (trodAll_cons_mk (Below.trod laidOut (by kernel_rfl) (of_decide_eq_true (by kernel_rfl)) k1 bel lt1) (trodAll_cons_mk (shut_int Yba.underlying3 w2) trodAll_mk0)), rfl, bel.frame _, fun h => by cases h⟩

theorem over : Rows.lawS1356AScriptRow.holds Yba.pinned (OpenSpec.ofChange Rows.lawS1356AScriptSpec) :=
  OpenClaim.holds_of_wide 3 Yba.f3 rfl rfl rfl rfl rfl rfl rfl ⟨rfl, rfl, rfl, rfl, rfl⟩ rfl rfl rfl rfl rfl (by kernel_rfl) Yba.func3 (by kernel_rfl)
    (of_decide_eq_true (by kernel_rfl)) (by unfold Func.isWrapper; first | (rw [if_pos (by decide +kernel)]; kernel_rfl) | (rw [if_neg (by decide +kernel)]; exact ⟨rfl, rfl⟩))
    (fun os started H enc _ => lifted os started H enc)

theorem proved : Rows.LawS1356AScriptSaid := over
#print axioms proved
end Go.Proofs.Ybulkabbe.lawS1356AScript
