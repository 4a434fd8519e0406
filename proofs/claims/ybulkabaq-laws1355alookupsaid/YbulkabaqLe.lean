import Derived.Test.YbulkabaqLd
import Derived.ProofKit
import Derived.OpenShut
import Derived.ShutString
import Derived.ChangeOld
import Derived.Deep.Slices
namespace Go.Proofs.Ybulkabaq.lawS1355ALookup
open Go.ChangeShapes Go.WideShapes Go.ChangeAt Go.RowKit Go.Deep
open Go.ChangeMaps (open_string shut_string)
set_option linter.unusedVariables false

theorem own : ownKnob Yba.prog.godebug = none := by kernel_rfl
theorem laidOut : laidOutB Yba.prog = true := by kernel_rfl
theorem cells66 : Yba.prog.cellsOf 66 = 5 := by kernel_rfl
theorem cells9 : Yba.prog.cellsOf 9 = 1 := by kernel_rfl
theorem cells4 : Yba.prog.cellsOf 4 = 1 := by kernel_rfl
theorem cells5 : Yba.prog.cellsOf 5 = 1 := by kernel_rfl
theorem cells3 : Yba.prog.cellsOf 3 = 1 := by kernel_rfl
theorem cells26 : Yba.prog.cellsOf 26 = 1 := by kernel_rfl

theorem addr_add (b off k : Nat) : (⟨b, off, none⟩ : Addr).add k = ⟨b, off + k, none⟩ := by unfold Addr.add; split <;> simp_all

section
variable {H : Type} {enc : TypeId × Value → H} {w : World}

theorem data_ok {fuel : Nat} {cs : List Value} {x : DataW H × List MemPlace} (h : DataW.trod enc Yba.prog w 0 (fun _ => true) true fuel 26 cs = some x) : ∃ a n c, cs = [.slice a n c] ∧ DataOk w (.slice a n c) := by
  rcases open_ints Yba.underlying26 Yba.underlying5 cells5 h with ⟨hcs, _⟩ | ⟨ad, l, c, zs, hcs, _, hl, hm, hz, _, hcell, hwz⟩
  · refine ⟨none, 0, 0, hcs, ⟨_, _, _, rfl⟩, ByteArray.empty, fun W _ => ?_⟩
    exact run_convert_bytes_nil (P := Yba.prog) W 26 5 Yba.underlying26 Yba.underlying5 0 0 9 Yba.underlying9
  · refine ⟨some ad, l, c, hcs, ⟨_, _, _, rfl⟩, (zs.take l).foldl (fun r n => r.push (UInt8.ofNat n.toNat)) ByteArray.empty, fun W hB => ?_⟩
    rw [run_convert_bytes_string W 26 9 5 _ l c Yba.underlying26 Yba.underlying5 Yba.underlying9]
    have hz' : zs.length = c := by simpa using hz
    have hlen : ((zs.take l).map (Value.int .u8)).length = l := by simp; omega
    have hld : (loadCells ad l).run Yba.prog W = .ok ((zs.take l).map (Value.int .u8)).toArray W := by
      have := run_loadCells_list (P := Yba.prog) W ad ((zs.take l).map (Value.int .u8)) (fun j v hj => by
        have hjl : j < l := by have := (List.getElem?_eq_some_iff.1 hj).1; omega
        have hc := hcell j (by omega)
        have hlt := World.block_lt_of_cell? _ _ hc
        rw [hB.cell hlt, hc]
        rw [List.getElem?_map, List.getElem?_take, if_pos hjl] at hj
        have : j < zs.length := by omega
        simp [List.getElem?_eq_getElem this] at hj
        simp [List.getD, List.getElem?_eq_getElem this, hj])
      rw [hlen] at this
      exact this
    exact run_bytesToString W ad l c _ hld

set_option maxRecDepth 100000 in
/-- One entry. -/
theorem entry_ok {fuel : Nat} {cs : List Value} {x : DataW H × List MemPlace} (h : DataW.trod enc Yba.prog w 0 (fun _ => true) true fuel 66 cs = some x) :
    ∃ nm d k s a n c, cs = [.string nm, .bool d, .int .u8 k, .int .i64 s, .slice a n c] ∧ (0 ≤ k ∧ k ≤ 255) ∧ DataOk w (.slice a n c) := by
  obtain ⟨xs, m, _, _, hlen, hxl, hf⟩ := DataW.trod_struct Yba.underlying66 h
  rw [cells66] at hlen
  match cs, hlen with
  | [c0, c1, c2, c3, c4], _ =>
    have hx : xs.length = 5 := hxl
    match xs, hx with
    | [x0, x1, x2, x3, x4], _ =>
      have f0 := hf 0 _ rfl
      have f1 := hf 1 _ rfl
      have f2 := hf 2 _ rfl
      have f3 := hf 3 _ rfl
      have f4 := hf 4 _ rfl
      obtain ⟨nm, e0, _, _⟩ := DataW.trod_string Yba.underlying9 f0
      obtain ⟨d, e1, _⟩ := DataW.trod_bool Yba.underlying4 f1
      obtain ⟨k, e2, _, wk⟩ := DataW.trod_int Yba.underlying5 f2
      obtain ⟨s, e3, _, _⟩ := DataW.trod_int Yba.underlying3 f3
      obtain ⟨a, n, c, e4, hd⟩ := data_ok f4
      simp [cells9, cells4, cells5, cells3, cells26] at e0 e1 e2 e3 e4
      subst e0 e1 e2 e3 e4
      exact ⟨nm, d, k, s, a, n, c, rfl, bounds_u8 wk, hd⟩

theorem entries_ok {fuel : Nat} {a : Option Addr} {len cap : Nat} {x : DataW H × List MemPlace} (h : DataW.trod enc Yba.prog w 0 (fun _ => true) true fuel 22 [.slice a len cap] = some x) :
    ∃ b off N D K S A L C, (0 < len → a = some ⟨b, off, none⟩) ∧ Ent w b off len N D K S A L C := by
  rcases open_slice Yba.underlying22 h with ⟨hcs, _⟩ | ⟨ad, l, c, m, n, Dx, Pl, hcs, _, hl, hm, hmm, _, hx⟩
  · simp at hcs
    obtain ⟨rfl, rfl, rfl⟩ := hcs
    exact ⟨0, 0, fun _ => ByteArray.empty, fun _ => false, fun _ => 0, fun _ => 0, fun _ => none, fun _ => 0, fun _ => 0, fun h => by omega, ⟨fun i h => by omega, fun i h => by omega, fun i h => by omega, fun i h => by omega, fun i h => by omega, fun i h => by omega, fun i h => by omega⟩⟩
  · simp at hcs
    obtain ⟨rfl, rfl, rfl⟩ := hcs
    simp at hmm
    subst hmm
    have hx' : ∀ i, i < len → ∃ nm d k s a n c, (∀ j v, [Value.string nm, .bool d, .int .u8 k, .int .i64 s, .slice a n c][j]? = some v → w.cell? ((ad.add (i * 5)).add j) = some v) ∧ (0 ≤ k ∧ k ≤ 255) ∧ DataOk w (.slice a n c) := by
      intro i hi
      obtain ⟨cs', h1, h2⟩ := hx i (by omega)
      rw [cells66] at h1
      obtain ⟨nm, d, k, s, a, n, c, rfl, hk, hd⟩ := entry_ok h2
      obtain ⟨_, _, hc⟩ := World.cells?_some h1
      refine ⟨nm, d, k, s, a, n, c, fun j v hj => ?_, hk, hd⟩
      have hj5 : j < 5 := (List.getElem?_eq_some_iff.1 hj).1
      rw [hc j hj5]; exact hj
    by_cases h0 : len = 0
    · subst h0
      exact ⟨0, 0, fun _ => ByteArray.empty, fun _ => false, fun _ => 0, fun _ => 0, fun _ => none, fun _ => 0, fun _ => 0, fun h => by omega, ⟨fun i h => by omega, fun i h => by omega, fun i h => by omega, fun i h => by omega, fun i h => by omega, fun i h => by omega, fun i h => by omega⟩⟩
    · have hsp : ad.spot = none := by
        obtain ⟨nm, d, k, s, a, n, c, hc, _⟩ := hx' 0 (by omega)
        have := World.cell?_spot (hc 0 _ rfl)
        simpa [Addr.add] using this
      obtain ⟨b, off, spot⟩ := ad
      simp at hsp
      subst hsp
      obtain ⟨N, hN⟩ := choose_lt hx'
      obtain ⟨D, hD⟩ := choose_lt hN
      obtain ⟨K, hK⟩ := choose_lt hD
      obtain ⟨S, hS⟩ := choose_lt hK
      obtain ⟨A, hA⟩ := choose_lt hS
      obtain ⟨L, hL⟩ := choose_lt hA
      obtain ⟨C, hC⟩ := choose_lt hL
      have hc : ∀ i, i < len → ∀ j v, [Value.string (N i), .bool (D i), .int .u8 (K i), .int .i64 (S i), .slice (A i) (L i) (C i)][j]? = some v → w.cell? ⟨b, off + i * 5 + j, none⟩ = some v := by
        intro i hi j v hj
        have := (hC i hi).1 j v hj
        rw [addr_add, addr_add] at this
        exact this
      exact ⟨b, off, N, D, K, S, A, L, C, fun _ => rfl, ⟨fun i hi => hc i hi 0 _ rfl, fun i hi => hc i hi 1 _ rfl, fun i hi => hc i hi 2 _ rfl, fun i hi => hc i hi 3 _ rfl, fun i hi => hc i hi 4 _ rfl, fun i hi => (hC i hi).2.1, fun i hi => (hC i hi).2.2⟩⟩
end

set_option maxRecDepth 100000 in
set_option maxHeartbeats 400000 in
theorem lookup_big (w : World) (a : Option Addr) (len cap : Nat) (q0 : ByteArray) (pk : Bool) (qi qk : Int) (hm : len ≤ 9223372036854775807) (hl : 1024 < len) :
    Calls Yba.prog 3 #[.slice a len cap, .string q0, .bool pk, .int .u8 qi, .int .u8 qk] w fun e w' => e = .returned (.bool true) ∧ Below w.heap.size w w' := by
  go_enter Yba.func3, Yba.ntmps3
  go_wp2
  go_ret
  exact ⟨rfl, Below.refl _ _⟩

set_option maxRecDepth 100000 in
theorem lifted (os : Os) (started : os.Started) (H : Type) (enc : TypeId × Value → H) :
    ReturnsInHanded {} Yba.checked os 3 .any (Rows.lawS1355ALookupSpec.pre6 enc Yba.prog Yba.f3 Rows.lawS1355ALookupRow.domain false) (Rows.lawS1355ALookupSpec.post enc Yba.prog Yba.f3 false true false false) := by
  refine returnsInHanded_of_change (C := Yba.checked) own started (by kernel_rfl) Yba.func3
    (ChangeSpec.witness6 (enc := enc) (C := Yba.checked) false ⟨#[], #[.slice none 0 0, .string ⟨#[]⟩, .bool false, .int .u8 0, .int .u8 0], []⟩ 8 (by kernel_rfl) (by kernel_rfl) (by kernel_rfl) (by kernel_rfl)) ?_
  intro W base args ds gs before hval0 hW hcnd _
  have hval : ∀ (j : Nat) t v, Yba.f3.params[j]? = some t → args[j]? = some v → Value.okWide Yba.prog W .any base t v := hval0
  have hW' := hW
  obtain ⟨p, q, hA0, hV, rfl, hfz, hnd⟩ := hW
  have hA : DataW.TrodAll enc Yba.prog W 0 (fun _ => true) true Yba.f3.params.toList args.toList ds p := hA0
  rw [Yba.params3] at hA hval
  obtain ⟨v0, vs0, d0, ds0, p0, q0, hargs, rfl, rfl, h0, r0⟩ := trodAll_cons hA
  obtain ⟨v1, vs1, d1, ds1, p1, q1, rfl, rfl, rfl, h1, r1⟩ := trodAll_cons r0
  obtain ⟨v2, vs2, d2, ds2, p2, q2, rfl, rfl, rfl, h2, r2⟩ := trodAll_cons r1
  obtain ⟨v3, vs3, d3, ds3, p3, q3, rfl, rfl, rfl, h3, r3⟩ := trodAll_cons r2
  obtain ⟨v4, vs4, d4, ds4, p4, q4, rfl, rfl, rfl, h4, r4⟩ := trodAll_cons r3
  obtain ⟨rfl, rfl, rfl⟩ := trodAll_nil r4
  obtain rfl : args = #[v0, v1, v2, v3, v4] := by cases args; simp_all
  obtain ⟨rfl, rfl⟩ := trodVars_none hV
  obtain ⟨a0, len0, cap0, rfl⟩ := okWide_slice Yba.underlying22 (hval 0 22 v0 rfl rfl)
  have k0 := h0
  have lt0 : ∀ x ∈ p0, x.block < W.heap.size := by obtain ⟨m, hm⟩ := k0; exact DataW.trod_lt m _ _ _ hm
  obtain ⟨s1, rfl, rfl, rfl, ws1⟩ := open_string Yba.underlying9 (hval 1 9 v1 rfl rfl) h1
  obtain ⟨b2, rfl, rfl, rfl⟩ := open_bool Yba.underlying4 (hval 2 4 v2 rfl rfl) h2
  obtain ⟨a3, rfl, rfl, rfl, w3⟩ := open_int Yba.underlying5 (hval 3 5 v3 rfl rfl) h3
  obtain ⟨a4, rfl, rfl, rfl, w4⟩ := open_int Yba.underlying5 (hval 4 5 v4 rfl rfl) h4
  clear hA0 hval0
  have walk : Calls Yba.prog 3 #[.slice a0 len0 cap0, .string s1, .bool b2, .int .u8 a3, .int .u8 a4] W fun e w' => e = .returned (.bool true) ∧ Below W.heap.size W w' := by
    obtain ⟨fuel, hf⟩ := h0
    have hf' : DataW.trod enc Yba.prog W 0 (fun _ => true) true fuel 22 [.slice a0 len0 cap0] = some (d0, p0) := by simpa [Value.cells] using hf
    by_cases hbig : 1024 < len0
    · have hm : len0 ≤ 9223372036854775807 := by
        rcases open_slice Yba.underlying22 hf' with ⟨hcs, _⟩ | ⟨ad, l, c, m, n, Dx, Pl, hcs, _, hl, hm, _⟩
        · simp at hcs; omega
        · simp at hcs; unfold maxLen at hm; omega
      exact lookup_big W a0 len0 cap0 s1 b2 a3 a4 hm hbig
    · obtain ⟨b, off, N, D, K, S, A, L, C, hA, hE⟩ := entries_ok hf'
      have w3b := bounds_u8 w3
      have w4b := bounds_u8 w4
      exact lookup_law W a0 len0 cap0 b off N D K S A L C s1 b2 a3 a4 (by omega) hA hE w3b.1 w3b.2 w4b.1 w4b.2
  refine walk.mono fun e W' ⟨he, bel⟩ => ?_
  subst he
  exact ⟨_, rfl, _, _, _, [], _, [], hW', trodAll_mk1 (shut_bool Yba.underlying4 _), (trodAll_cons_mk (Below.trod laidOut (by kernel_rfl) (of_decide_eq_true (by kernel_rfl)) k0 bel lt0) (trodAll_cons_mk (shut_string Yba.underlying9 ws1) (trodAll_cons_mk (shut_bool Yba.underlying4 b2) (trodAll_cons_mk (shut_int Yba.underlying5 w3) (trodAll_cons_mk (shut_int Yba.underlying5 w4) trodAll_mk0))))), rfl, bel.frame _, fun h => by cases h⟩

theorem over : Rows.lawS1355ALookupRow.holds Yba.pinned (OpenSpec.ofChange Rows.lawS1355ALookupSpec) :=
  OpenClaim.holds_of_wide 3 Yba.f3 rfl rfl rfl rfl rfl rfl rfl ⟨rfl, rfl, rfl, rfl, rfl⟩ rfl rfl rfl rfl rfl (by kernel_rfl) Yba.func3 (by kernel_rfl)
    (of_decide_eq_true (by kernel_rfl)) (by unfold Func.isWrapper; first | (rw [if_pos (by decide +kernel)]; kernel_rfl) | (rw [if_neg (by decide +kernel)]; exact ⟨rfl, rfl⟩))
    (fun os started H enc _ => lifted os started H enc)

theorem proved : Rows.LawS1355ALookupSaid := over
#print axioms proved
end Go.Proofs.Ybulkabaq.lawS1355ALookup
