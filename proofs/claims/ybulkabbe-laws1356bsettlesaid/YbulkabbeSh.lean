import Derived.Test.YbulkabbeSg
import Derived.ProofKit
import Derived.OpenShut
import Derived.ShutString
import Derived.ChangeOld
import Derived.Deep.Slices
namespace Go.Proofs.Ybulkabbe.lawS1356BSettle
open Go.ChangeShapes Go.WideShapes Go.ChangeAt Go.RowKit Go.Deep
set_option linter.unusedVariables false

theorem own : ownKnob Yba.prog.godebug = none := by kernel_rfl
theorem laidOut : laidOutB Yba.prog = true := by kernel_rfl
theorem cells67 : Yba.prog.cellsOf 67 = 2 := by kernel_rfl
theorem cells55 : Yba.prog.cellsOf 55 = 1 := by kernel_rfl
theorem cells4 : Yba.prog.cellsOf 4 = 1 := by kernel_rfl

theorem addr_add (b off k : Nat) : (⟨b, off, none⟩ : Addr).add k = ⟨b, off + k, none⟩ := by unfold Addr.add; split <;> simp_all

section
variable {H : Type} {enc : TypeId × Value → H} {w : World}

set_option maxRecDepth 100000 in
/-- One frame that came in. -/
theorem frame_ok {fuel : Nat} {cs : List Value} {x : DataW H × List MemPlace} (h : DataW.trod enc Yba.prog w 0 (fun _ => true) true fuel 67 cs = some x) :
    ∃ k d, cs = [.int .u16 k, .bool d] ∧ (0 ≤ k ∧ k ≤ 65535) := by
  obtain ⟨xs, m, _, _, hlen, hxl, hf⟩ := DataW.trod_struct Yba.underlying67 h
  rw [cells67] at hlen
  match cs, hlen with
  | [c0, c1], _ =>
    have hx : xs.length = 2 := hxl
    match xs, hx with
    | [x0, x1], _ =>
      have f0 := hf 0 _ rfl
      have f1 := hf 1 _ rfl
      obtain ⟨k, e0, _, wk⟩ := DataW.trod_int Yba.underlying55 f0
      obtain ⟨d, e1, _⟩ := DataW.trod_bool Yba.underlying4 f1
      simp [cells55, cells4] at e0 e1
      subst e0 e1
      exact ⟨k, d, rfl, bounds_u16 wk⟩

theorem frames_ok {fuel : Nat} {a : Option Addr} {len cap : Nat} {x : DataW H × List MemPlace} (h : DataW.trod enc Yba.prog w 0 (fun _ => true) true fuel 65 [.slice a len cap] = some x) :
    ∃ b off Q T, (0 < len → a = some ⟨b, off, none⟩) ∧ Fra w b off len Q T := by
  rcases open_slice Yba.underlying65 h with ⟨hcs, _⟩ | ⟨ad, l, c, m, n, Dx, Pl, hcs, _, hl, hm, hmm, _, hx⟩
  · simp at hcs
    obtain ⟨rfl, rfl, rfl⟩ := hcs
    exact ⟨0, 0, fun _ => 0, fun _ => false, fun h => by omega, ⟨fun i h => by omega, fun i h => by omega, fun i => by omega⟩⟩
  · simp at hcs
    obtain ⟨rfl, rfl, rfl⟩ := hcs
    simp at hmm
    subst hmm
    have hx' : ∀ i, i < len → ∃ k d, (∀ j v, [Value.int .u16 k, .bool d][j]? = some v → w.cell? ((ad.add (i * 2)).add j) = some v) ∧ (0 ≤ k ∧ k ≤ 65535) := by
      intro i hi
      obtain ⟨cs', h1, h2⟩ := hx i (by omega)
      rw [cells67] at h1
      obtain ⟨k, d, rfl, hk⟩ := frame_ok h2
      obtain ⟨_, _, hc⟩ := World.cells?_some h1
      refine ⟨k, d, fun j v hj => ?_, hk⟩
      have hj5 : j < 2 := (List.getElem?_eq_some_iff.1 hj).1
      rw [hc j hj5]; exact hj
    by_cases h0 : len = 0
    · subst h0
      exact ⟨0, 0, fun _ => 0, fun _ => false, fun h => by omega, ⟨fun i h => by omega, fun i h => by omega, fun i => by omega⟩⟩
    · have hsp : ad.spot = none := by
        obtain ⟨k, d, hc, _⟩ := hx' 0 (by omega)
        have := World.cell?_spot (hc 0 _ rfl)
        simpa [Addr.add] using this
      obtain ⟨b, off, spot⟩ := ad
      simp at hsp
      subst hsp
      obtain ⟨K, hK⟩ := choose_lt hx'
      obtain ⟨D, hD⟩ := choose_lt hK
      have hc : ∀ i, i < len → ∀ j v, [Value.int .u16 (K i), .bool (D i)][j]? = some v → w.cell? ⟨b, off + i * 2 + j, none⟩ = some v := by
        intro i hi j v hj
        have := (hD i hi).1 j v hj
        rw [addr_add, addr_add] at this
        exact this
      refine ⟨b, off, fun i => if i < len then K i else 0, D, fun _ => rfl, ⟨fun i hi => ?_, fun i hi => hc i hi 1 _ rfl, fun i => ?_⟩⟩
      · have := hc i hi 0 _ rfl
        simp only [if_pos hi]
        exact this
      · by_cases hi : i < len
        · simp only [if_pos hi]; exact (hD i hi).2
        · simp only [if_neg hi]; omega
end

set_option maxRecDepth 100000 in
set_option maxHeartbeats 400000 in
theorem settle_big (w : World) (a : Option Addr) (len cap : Nat) (n0 pos looks e0 : Int) (hm : len ≤ 9223372036854775807) (hl : 256 < len) :
    Calls Yba.prog 4 #[.int .u16 n0, .slice a len cap, .int .i64 pos, .int .i64 looks, .int .u8 e0] w fun e w' => e = .returned (.bool true) ∧ Below w.heap.size w w' := by
  go_enter Yba.func4, Yba.ntmps4
  go_wp2
  go_ret
  exact ⟨rfl, Below.refl _ _⟩

set_option maxRecDepth 100000 in
theorem lifted (os : Os) (started : os.Started) (H : Type) (enc : TypeId × Value → H) :
    ReturnsInHanded {} Yba.checked os 4 .any (Rows.lawS1356BSettleSpec.pre6 enc Yba.prog Yba.f4 Rows.lawS1356BSettleRow.domain false) (Rows.lawS1356BSettleSpec.post enc Yba.prog Yba.f4 false true false false) := by
  refine returnsInHanded_of_change (C := Yba.checked) own started (by kernel_rfl) Yba.func4
    (ChangeSpec.witness6 (enc := enc) (C := Yba.checked) false ⟨#[], #[.int .u16 0, .slice none 0 0, .int .i64 0, .int .i64 0, .int .u8 0], []⟩ 8 (by kernel_rfl) (by kernel_rfl) (by kernel_rfl) (by kernel_rfl)) ?_
  intro W base args ds gs before hval0 hW hcnd _
  have hval : ∀ (j : Nat) t v, Yba.f4.params[j]? = some t → args[j]? = some v → Value.okWide Yba.prog W .any base t v := hval0
  have hW' := hW
  obtain ⟨p, q, hA0, hV, rfl, hfz, hnd⟩ := hW
  have hA : DataW.TrodAll enc Yba.prog W 0 (fun _ => true) true Yba.f4.params.toList args.toList ds p := hA0
  rw [Yba.params4] at hA hval
  obtain ⟨v0, vs0, d0, ds0, p0, q0, hargs, rfl, rfl, h0, r0⟩ := trodAll_cons hA
  obtain ⟨v1, vs1, d1, ds1, p1, q1, rfl, rfl, rfl, h1, r1⟩ := trodAll_cons r0
  obtain ⟨v2, vs2, d2, ds2, p2, q2, rfl, rfl, rfl, h2, r2⟩ := trodAll_cons r1
  obtain ⟨v3, vs3, d3, ds3, p3, q3, rfl, rfl, rfl, h3, r3⟩ := trodAll_cons r2
  obtain ⟨v4, vs4, d4, ds4, p4, q4, rfl, rfl, rfl, h4, r4⟩ := trodAll_cons r3
  obtain ⟨rfl, rfl, rfl⟩ := trodAll_nil r4
  obtain rfl : args = #[v0, v1, v2, v3, v4] := by cases args; simp_all
  obtain ⟨rfl, rfl⟩ := trodVars_none hV
  obtain ⟨n0, rfl, rfl, rfl, w0⟩ := open_int Yba.underlying55 (hval 0 55 v0 rfl rfl) h0
  obtain ⟨a1, len1, cap1, rfl⟩ := okWide_slice Yba.underlying65 (hval 1 65 v1 rfl rfl)
  have k1 := h1
  have lt1 : ∀ x ∈ p1, x.block < W.heap.size := by obtain ⟨m, hm⟩ := k1; exact DataW.trod_lt m _ _ _ hm
  obtain ⟨a2, rfl, rfl, rfl, w2⟩ := open_int Yba.underlying3 (hval 2 3 v2 rfl rfl) h2
  obtain ⟨a3, rfl, rfl, rfl, w3⟩ := open_int Yba.underlying3 (hval 3 3 v3 rfl rfl) h3
  obtain ⟨a4, rfl, rfl, rfl, w4⟩ := open_int Yba.underlying5 (hval 4 5 v4 rfl rfl) h4
  clear hA0 hval0
  have walk : Calls Yba.prog 4 #[.int .u16 n0, .slice a1 len1 cap1, .int .i64 a2, .int .i64 a3, .int .u8 a4] W fun e w' => e = .returned (.bool true) ∧ Below W.heap.size W w' := by
    obtain ⟨fuel, hf⟩ := h1
    have hf' : DataW.trod enc Yba.prog W 0 (fun _ => true) true fuel 65 [.slice a1 len1 cap1] = some (d1, p1) := by simpa [Value.cells] using hf
    by_cases hbig : 256 < len1
    · have hm : len1 ≤ 9223372036854775807 := by
        rcases open_slice Yba.underlying65 hf' with ⟨hcs, _⟩ | ⟨ad, l, c, m, n, Dx, Pl, hcs, _, hl, hm, _⟩
        · simp at hcs; omega
        · simp at hcs; unfold maxLen at hm; omega
      exact settle_big W a1 len1 cap1 n0 a2 a3 a4 hm hbig
    · obtain ⟨b, off, Q, T, hA, hE⟩ := frames_ok hf'
      have w0b := bounds_u16 w0
      have w4b := bounds_u8 w4
      exact settle_law W a1 len1 cap1 b off Q T n0 a2 a3 a4 (n0 % 1025).toNat (a4 % 4).toNat (by omega) hA hE (by omega) (by omega) w0b.1 w0b.2 w4b.1 w4b.2
  refine walk.mono fun e W' ⟨he, bel⟩ => ?_
  subst he
  exact ⟨_, rfl, _, _, _, [], _, [], hW', trodAll_mk1 (shut_bool Yba.underlying4 _), (trodAll_cons_mk (shut_int Yba.underlying55 w0) (trodAll_cons_mk (Below.trod laidOut (by kernel_rfl) (of_decide_eq_true (by kernel_rfl)) k1 bel lt1) (trodAll_cons_mk (shut_int Yba.underlying3 w2) (trodAll_cons_mk (shut_int Yba.underlying3 w3) (trodAll_cons_mk (shut_int Yba.underlying5 w4) trodAll_mk0))))), rfl, bel.frame _, fun h => by cases h⟩

theorem over : Rows.lawS1356BSettleRow.holds Yba.pinned (OpenSpec.ofChange Rows.lawS1356BSettleSpec) :=
  OpenClaim.holds_of_wide 4 Yba.f4 rfl rfl rfl rfl rfl rfl rfl ⟨rfl, rfl, rfl, rfl, rfl⟩ rfl rfl rfl rfl rfl (by kernel_rfl) Yba.func4 (by kernel_rfl)
    (of_decide_eq_true (by kernel_rfl)) (by unfold Func.isWrapper; first | (rw [if_pos (by decide +kernel)]; kernel_rfl) | (rw [if_neg (by decide +kernel)]; exact ⟨rfl, rfl⟩))
    (fun os started H enc _ => lifted os started H enc)

theorem proved : Rows.LawS1356BSettleSaid := over
#print axioms proved
end Go.Proofs.Ybulkabbe.lawS1356BSettle
