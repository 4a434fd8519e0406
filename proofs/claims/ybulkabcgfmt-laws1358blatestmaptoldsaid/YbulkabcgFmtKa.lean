import Derived.Test.YbulkabcgFmtRows
import Derived.Test.YbulkabcgFmtFr
import Derived.Test.YbulkabcgFmtMp
import Derived.BigQuiet
import Derived.Deep.QuietTactic
import Derived.Deep.RegionWith
import Derived.Deep.RegionHeld3
import Derived.Deep.DrawnRows
import Derived.Deep.DeepCutAuto
import Derived.Lib.ConvBytes
import Derived.Carry
/- newNode, errors.New, readsPast, latestOf. -/
namespace Go.Proofs.YbulkabcgFmt
open Go.RowKit Go.MapKept
set_option linter.unusedVariables false

/-- What the walk knows of the node. -/
def NodeOk (w : World) (NB MB : Nat) (fr : Bool) (ld : Value) : Prop :=
  ∃ c, w.heap[NB]? = some (.cells c 69 (0, 0)) ∧ c[7]? = some (.map (some MB)) ∧ c[12]? = some (.bool fr) ∧ c[14]? = some ld

def NewPost (w : World) (e : Ending) (w' : World) : Prop :=
  ∃ NB MB, e = .returned (.pointer (some ⟨NB, 0, none⟩)) ∧ w.heap.size ≤ NB ∧ w.heap.size ≤ MB ∧ NodeOk w' NB MB false .nilIface ∧ w'.heap[MB]? = some (.map #[] 0) ∧ Fr (fun _ => False) w w'

theorem wpList_built {P : Program} {w : World} {ops : Array Oper} {rest : List Oper} {o : Oper} {a : Act} {Q : Exit → Act → World → Prop} (hgd : o.guard = none) (t : TypeId) (parts : Array (Nat × Operand)) (ho : o.op = .build t parts) (c : Array Value) (vs : List (Nat × Value))
    (hv : (parts.map fun (i, x) => (i, a.eval x)).toList = vs) (hf : P.built t vs = some c) (h : wpList P ops Q rest (a.put o.dst (.agg c)) w) : wpList P ops Q (o :: rest) a w := by
  refine wpList_build hgd t parts ho (by rw [hv, hf]; rfl) ?_
  rw [hv, hf]
  exact h

theorem built69 (m1 m2 m3 m4 m5 m6 m7 m8 m9 : Nat) : ∃ c : Array Value, Ybaf.prog.built 69 [(0, .pointer none), (1, .nilIface), (4, .map (some m1)), (5, .map (some m2)), (6, .map (some m3)), (17, .map (some m4)), (18, .map (some m5)), (19, .map (some m6)), (20, .agg #[.bool false, .map none, .map none, .bool false, .slice none 0 0, .bool false, .int .u8 0, .int .u8 0, .int .u8 0, .int .u8 0, .int .u8 0, .int .u8 0, .int .u8 0, .int .u8 0, .int .u8 0, .int .u8 0, .int .u8 0, .int .u8 0, .int .u8 0, .int .u8 0, .int .u8 0, .int .u8 0, .int .u8 0, .int .u8 0, .int .u8 0, .int .u8 0, .int .u8 0, .int .u8 0, .int .u8 0, .int .u8 0, .int .u8 0, .int .u8 0, .int .u8 0, .int .u8 0, .int .u8 0, .int .u8 0, .int .u8 0, .int .u8 0, .map (some m7)]), (28, .map (some m8)), (30, .map (some m9))] = some c ∧ c[7]? = some (.map (some m3)) ∧ c[12]? = some (.bool false) ∧ c[14]? = some .nilIface ∧ c.size = 77 :=
  ⟨(Ybaf.prog.built 69 [(0, .pointer none), (1, .nilIface), (4, .map (some m1)), (5, .map (some m2)), (6, .map (some m3)), (17, .map (some m4)), (18, .map (some m5)), (19, .map (some m6)), (20, .agg #[.bool false, .map none, .map none, .bool false, .slice none 0 0, .bool false, .int .u8 0, .int .u8 0, .int .u8 0, .int .u8 0, .int .u8 0, .int .u8 0, .int .u8 0, .int .u8 0, .int .u8 0, .int .u8 0, .int .u8 0, .int .u8 0, .int .u8 0, .int .u8 0, .int .u8 0, .int .u8 0, .int .u8 0, .int .u8 0, .int .u8 0, .int .u8 0, .int .u8 0, .int .u8 0, .int .u8 0, .int .u8 0, .int .u8 0, .int .u8 0, .int .u8 0, .int .u8 0, .int .u8 0, .int .u8 0, .int .u8 0, .int .u8 0, .map (some m7)]), (28, .map (some m8)), (30, .map (some m9))]).getD #[], by kernel_rfl, by kernel_rfl, by kernel_rfl, by kernel_rfl, by kernel_rfl⟩

theorem new_end {w : World} {c : Array Value} {v : Value} (h : c[7]? = some (.map (some (w.heap.size + 1 + 1))) ∧ c[12]? = some (.bool false) ∧ c[14]? = some .nilIface) :
    NewPost w (.returned (.pointer (some ⟨w.heap.size + 1 + 1 + 1 + 1 + 1 + 1 + 1 + 1 + 1, 0, none⟩))) ((((((((((w.alloc (.map #[] 0)).alloc (.map #[] 0)).alloc (.map #[] 0)).alloc (.map #[] 0)).alloc (.map #[] 0)).alloc (.map #[] 0)).alloc (.map #[] 0)).alloc (.map #[] 0)).alloc (.map #[] 0)).alloc (.cells (c.setIfInBounds 68 v) 69)) := by
  refine ⟨_, w.heap.size + 1 + 1, rfl, by omega, by omega, ⟨c.setIfInBounds 68 v, ?_, ?_, ?_, ?_⟩, ?_, ((((((((((Fr.refl _ w).alloc _).alloc _).alloc _).alloc _).alloc _).alloc _).alloc _).alloc _).alloc _).alloc _⟩
  · have h := heap_alloc_new (((((((((w.alloc (.map #[] 0)).alloc (.map #[] 0)).alloc (.map #[] 0)).alloc (.map #[] 0)).alloc (.map #[] 0)).alloc (.map #[] 0)).alloc (.map #[] 0)).alloc (.map #[] 0)).alloc (.map #[] 0)) (.cells (c.setIfInBounds 68 v) 69)
    simpa only [World.size_alloc] using h
  · rw [Array.getElem?_setIfInBounds, if_neg (by omega)]; exact h.1
  · rw [Array.getElem?_setIfInBounds, if_neg (by omega)]; exact h.2.1
  · rw [Array.getElem?_setIfInBounds, if_neg (by omega)]; exact h.2.2
  · have h := heap_alloc_new ((w.alloc (.map #[] 0)).alloc (.map #[] 0)) (.map #[] 0)
    simp only [World.size_alloc] at h
    rw [Below.heap_alloc _ _ _ (by simp), Below.heap_alloc _ _ _ (by simp), Below.heap_alloc _ _ _ (by simp), Below.heap_alloc _ _ _ (by simp), Below.heap_alloc _ _ _ (by simp), Below.heap_alloc _ _ _ (by simp), Below.heap_alloc _ _ _ (by simp)]
    exact h

set_option maxRecDepth 100000 in
set_option maxHeartbeats 1600000 in
theorem newNode_any (w : World) : Calls Ybaf.prog 4 #[.pointer none, .nilIface] w fun e w' => NewPost w e w' := by
  have hmm := @run_makeMap Ybaf.prog
  go_enter Ybaf.func4, Ybaf.ntmps4
  obtain ⟨c69, hc69, b7, b12, b14, bs⟩ := built69 w.heap.size (w.heap.size + 1) (w.heap.size + 1 + 1) (w.heap.size + 1 + 1 + 1) (w.heap.size + 1 + 1 + 1 + 1) (w.heap.size + 1 + 1 + 1 + 1 + 1) (w.heap.size + 1 + 1 + 1 + 1 + 1 + 1) (w.heap.size + 1 + 1 + 1 + 1 + 1 + 1 + 1) (w.heap.size + 1 + 1 + 1 + 1 + 1 + 1 + 1 + 1)
  have HC := hid hc69
  have HB := hid (And.intro b7 (And.intro b12 b14))
  clear hc69 b7 b12 b14
  go_wp2_with (refine wpList_built (o := { dst := some 18, op := _, type := _, pos := _, after := _, guard := none }) rfl 69 #[(0, .tmp 6), (1, .tmp 7), (4, .tmp 8), (5, .tmp 9), (6, .tmp 10), (17, .tmp 11), (18, .tmp 12), (19, .tmp 13), (20, .tmp 15), (28, .tmp 16), (30, .tmp 17)] rfl c69 _ (by simp [Act.eval]) HC.out ?_)
  go_ret
  exact new_end HB.out

/-- []byte(key), read back as key. -/
def KeyOk (w : World) (kb l cap : Nat) (s : ByteArray) : Prop := ∀ W : World, W.heap = w.heap → (convert 23 9 (.slice (some ⟨kb, 0, none⟩) l cap)).run Ybaf.prog W = .ok (.string s) W

set_option maxRecDepth 100000 in
set_option maxHeartbeats 1600000 in
theorem latestOf_any (w : World) (NB MB kb l cap clock : Nat) (fr : Bool) (ld : Value) (s : ByteArray) (es : Array MapEntry) (hN : NodeOk w NB MB fr ld) (hm : w.heap[MB]? = some (.map es clock)) (hk : SKeys es) (hK : KeyOk w kb l cap s)
    (hfl : (fr = false ∧ ld = .nilIface) ∨ (∃ t p, ld = .iface t p)) :
    Calls Ybaf.prog 6 #[.pointer (some ⟨NB, 0, none⟩), .slice (some ⟨kb, 0, none⟩) l cap] w fun e w' => e = .returned (.tuple #[(sfind s es.toList).getD (.slice none 0 0), .nilIface]) ∧ ∃ q, w' = w.drewN q := by
  obtain ⟨c, h0, h7, h12, h14⟩ := hN
  have r7 := (cellOf h0 7).trans h7
  have r12 := (cellOf h0 12).trans h12
  have r14 := (cellOf h0 14).trans h14
  have hcv : ∀ q, (convert 23 9 (.slice (some ⟨kb, 0, none⟩) l cap)).run Ybaf.prog (w.drewN q) = .ok (.string s) (w.drewN q) := fun q => hK _ rfl
  have hlk : ∀ q, (Instr.lookup 38 (.map (some MB)) (.string s) false).run Ybaf.prog (w.drewN q) = .ok ((sfind s es.toList).getD (.slice none 0 0)) (w.drewN q) := fun q => run_lookup_s (w := w.drewN q) (z := .slice none 0 0) Ybaf.underlying38 Ybaf.underlying9 hm hk (by simp [go_sem]) s
  generalize (sfind s es.toList).getD (.slice none 0 0) = found at hlk ⊢
  clear hK h0 h7 h12 h14 hm hk
  have hfl' : (fr = false ∧ ld = .nilIface) ∨ (fr = false ∧ ∃ t p, ld = .iface t p) ∨ (fr = true ∧ ∃ t p, ld = .iface t p) := by
    rcases hfl with h | h
    · exact .inl h
    · cases fr
      · exact .inr (.inl ⟨rfl, h⟩)
      · exact .inr (.inr ⟨rfl, h⟩)
  rcases hfl' with ⟨rfl, rfl⟩ | ⟨rfl, t, p, rfl⟩ | ⟨rfl, t, p, rfl⟩
  all_goals
    go_enter Ybaf.func6, Ybaf.ntmps6
    go_wp2
    go_quiet (fail)
    go_wp2
    exact bodyPost_ret (v := .tuple #[found, .nilIface]) (by simp [results, Ybaf.results6, go_sem]) rfl ⟨rfl, _, rfl⟩

end Go.Proofs.YbulkabcgFmt
