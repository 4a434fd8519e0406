import Derived.Test.YbulkabcgFmtKa
import Derived.Laws.IdiomStrings
import Derived.LaidEqlPtr
/- The law's walk. -/
namespace Go.Proofs.YbulkabcgFmt
open Go.RowKit Go.MapKept
set_option linter.unusedVariables false

theorem Ybaf.info39 : (Ybaf.prog.info? 39).map (fun i => (i.zero, i.size, i.bytes)) = some (some (.slice none 0 0), 1, 24) := by kernel_rfl
theorem Ybaf.info72 : (Ybaf.prog.info? 72).map (fun i => (i.zero, i.size, i.bytes)) = some (some (.pointer none), 1, 8) := by kernel_rfl

def z71 (n : Nat) : Array Value := Array.replicate n (.slice none 0 0)
theorem made1 (v : Value) (hv : v.cells = #[v]) (n : Nat) : madeCells v.cells n = Array.replicate n v := by
  rw [hv]
  apply Array.ext
  · simp [size_madeCells]
  · intro i h1 h2
    simp [madeCells, Nat.mod_one]
theorem make71 (W : World) (n : Nat) (hn : n ≤ 1024) : (Instr.makeSlice 71 (.int .i64 (n : Int)) (.int .i64 (n : Int))).run Ybaf.prog W = .ok (.slice (some ⟨W.heap.size, 0, none⟩) n n) (W.alloc (.cells (z71 n) 39)) := by
  obtain ⟨i9, hj, hy0, hy1, hy2⟩ := info_parts Ybaf.info39
  have h := run_make (P := Ybaf.prog) W 71 39 i9 _ Ybaf.underlying71 hj hy0 .i64 .i64 n n (by omega) (by omega) (by rw [hy2]; omega) (by omega)
  rw [h, hy1]
  simp only [Int.toNat_natCast, Nat.mul_one]
  rw [made1 _ rfl]
  rfl

/-- The keys that came in. -/
structure Keys (w : World) (b off n : Nat) (N : Nat → ByteArray) : Prop where
  s : ∀ k, k < n → w.cell? ⟨b, off + k, none⟩ = some (.string (N k))
/-- The counts that came in. -/
structure Cnts (w : World) (b off n : Nat) (Q : Nat → Int) : Prop where
  s : ∀ k, k < n → w.cell? ⟨b, off + k, none⟩ = some (.int .u8 (Q k))
  b : ∀ k, 0 ≤ Q k ∧ Q k ≤ 255

/-- What a look-up of s finds behind k rounds. -/
def last (N : Nat → ByteArray) (G : Nat → Value) (s : ByteArray) : Nat → Option Value
  | 0 => none
  | k + 1 => if s = N k then some (G k) else last N G s k

/-- A row of heads: at most three pointers. -/
def Hs (w : World) (base : Nat) (v : Value) : Prop := ∃ t xs, w.ownsRow base 72 1 v t xs ∧ t ≤ 3 ∧ (∀ x ∈ xs, ∃ p, x = .pointer (some p))

theorem last_congr {N : Nat → ByteArray} {G G' : Nat → Value} (s : ByteArray) : ∀ k, (∀ j, j < k → G j = G' j) → last N G s k = last N G' s k
  | 0, _ => rfl
  | k + 1, h => by rw [last, last, h k (by omega), last_congr s k (fun j hj => h j (by omega))]

theorem Hs.fr {S : Nat → Prop} {w w' : World} {base : Nat} {v : Value} (h : Hs w base v) (F : Fr S w w') (hS : ∀ k c f, S k → w.heap[k]? = some (.cells c 72 f) → False) : Hs w' base v := by
  obtain ⟨t, xs, h1, h2⟩ := h
  exact ⟨t, xs, owns_fr h1 F (fun k hk hs => by obtain ⟨c, hc, _⟩ := owns_form h1 hk; exact hS k c _ hs hc), h2⟩

/-- How matters stand behind k rounds. -/
structure St (w wr : World) (NB MB BB n k : Nat) (N : Nat → ByteArray) (G : Nat → Value) : Prop where
  node : ∃ fr ld, NodeOk wr NB MB fr ld ∧ ((fr = false ∧ ld = .nilIface) ∨ ∃ t p, ld = .iface t p)
  map : ∃ es clock, wr.heap[MB]? = some (.map es clock) ∧ SKeys es ∧ ∀ s, sfind s es.toList = last N G s k
  built : ∃ bc, wr.heap[BB]? = some (.cells bc 39 (0, 0)) ∧ bc.size = n ∧ ∀ j, j < k → bc[j]? = some (G j)
  hs : ∀ j, j < k → Hs wr w.heap.size (G j)
  fr : Fr (fun _ => False) w wr

theorem St.keep {w wr wq : World} {NB MB BB n k : Nat} {N : Nat → ByteArray} {G : Nat → Value} (h : St w wr NB MB BB n k N G) (F : Fr (fun _ => False) wr wq) : St w wq NB MB BB n k N G := by
  obtain ⟨⟨fr, ld, ⟨c, n0, n1⟩, hfl⟩, ⟨es, clock, m1, m2⟩, ⟨bc, b1, b2⟩, hs, hF⟩ := h
  exact ⟨⟨fr, ld, ⟨c, F.obj n0 (fun h => h), n1⟩, hfl⟩, ⟨es, clock, F.obj m1 (fun h => h), m2⟩, ⟨bc, F.obj b1 (fun h => h), b2⟩, fun j hj => (hs j hj).fr F (fun _ _ _ h _ => h), hF.trans F⟩

/-- Start, no switch taken. -/
theorem st0 {w w1 : World} {NB MB n : Nat} {N : Nat → ByteArray} {fr : Bool} {ld : Value} (hN : NodeOk w1 NB MB fr ld) (hfl : (fr = false ∧ ld = .nilIface) ∨ ∃ t p, ld = .iface t p) (hM : w1.heap[MB]? = some (.map #[] 0)) (hF : Fr (fun _ => False) w w1) :
    St w (w1.alloc (.cells (z71 n) 39)) NB MB w1.heap.size n 0 N (fun _ => .nilIface) := by
  have F : Fr (fun _ => False) w1 (w1.alloc (.cells (z71 n) 39)) := (Fr.refl _ w1).alloc _
  obtain ⟨c, n0, n1⟩ := hN
  exact ⟨⟨fr, ld, ⟨c, F.obj n0 (fun h => h), n1⟩, hfl⟩, ⟨#[], 0, F.obj hM (fun h => h), by intro x hx; simp at hx, fun s => rfl⟩, ⟨z71 n, heap_alloc_new w1 _, by simp [z71], fun j h => by omega⟩, fun j h => by omega, hF.trans F⟩

theorem node_set {w1 : World} {NB MB : Nat} {fr : Bool} {ld v : Value} (hN : NodeOk w1 NB MB fr ld) : NodeOk (w1.setCell ⟨NB, 14, none⟩ v) NB MB fr v := by
  obtain ⟨c, n0, n7, n12, n14⟩ := hN
  have hs := (Array.getElem?_eq_some_iff.1 n14).1
  refine ⟨_, heap_setCell n0 14 v, ?_, ?_, ?_⟩
  · rw [Array.getElem?_setIfInBounds, if_neg (by omega)]; exact n7
  · rw [Array.getElem?_setIfInBounds, if_neg (by omega)]; exact n12
  · rw [Array.getElem?_setIfInBounds, if_pos rfl, if_pos hs]
theorem node_set12 {w1 : World} {NB MB : Nat} {fr b : Bool} {ld : Value} (hN : NodeOk w1 NB MB fr ld) : NodeOk (w1.setCell ⟨NB, 12, none⟩ (.bool b)) NB MB b ld := by
  obtain ⟨c, n0, n7, n12, n14⟩ := hN
  have hs := (Array.getElem?_eq_some_iff.1 n12).1
  refine ⟨_, heap_setCell n0 12 _, ?_, ?_, ?_⟩
  · rw [Array.getElem?_setIfInBounds, if_neg (by omega)]; exact n7
  · rw [Array.getElem?_setIfInBounds, if_pos rfl, if_pos hs]
  · rw [Array.getElem?_setIfInBounds, if_neg (by omega)]; exact n14
theorem node_alloc {w1 : World} {NB MB : Nat} {fr : Bool} {ld : Value} (hN : NodeOk w1 NB MB fr ld) (o : Obj) : NodeOk (w1.alloc o) NB MB fr ld := by
  obtain ⟨c, n0, n1⟩ := hN
  exact ⟨c, ((Fr.refl (fun _ => False) w1).alloc o).obj n0 (fun h => h), n1⟩

theorem st2 {w w1 : World} {NB MB n : Nat} {N : Nat → ByteArray} {t : TypeId} {p : Value} {o : Obj} (hNB : w.heap.size ≤ NB) (hN : NodeOk w1 NB MB false .nilIface) (hM : w1.heap[MB]? = some (.map #[] 0)) (hF : Fr (fun _ => False) w w1) :
    St w (((w1.setCell ⟨NB, 14, none⟩ (.iface t p)).alloc o).alloc (.cells (z71 n) 39)) NB MB (w1.heap.size + 1) n 0 N (fun _ => .nilIface) := by
  have hne : ¬ MB = NB := fun e => by obtain ⟨c, n0, _⟩ := hN; rw [← e, hM] at n0; cases n0
  have F : Fr (· = NB) w1 ((w1.setCell ⟨NB, 14, none⟩ (.iface t p)).alloc o) := ((Fr.refl (· = NB) w1).setCell (p := ⟨NB, 14, none⟩) (.inl rfl) _).alloc o
  have h := st0 (w := w) (w1 := (w1.setCell ⟨NB, 14, none⟩ (.iface t p)).alloc o) (n := n) (N := N) (node_alloc (node_set hN) o) (.inr ⟨t, p, rfl⟩) (F.obj hM hne) (hF.trans' F (fun i hi e => by omega))
  simpa using h
theorem st1 {w w1 : World} {NB MB n : Nat} {N : Nat → ByteArray} {t : TypeId} {p : Value} {o : Obj} (hNB : w.heap.size ≤ NB) (hN : NodeOk w1 NB MB false .nilIface) (hM : w1.heap[MB]? = some (.map #[] 0)) (hF : Fr (fun _ => False) w w1) :
    St w ((((w1.setCell ⟨NB, 12, none⟩ (.bool true)).setCell ⟨NB, 14, none⟩ (.iface t p)).alloc o).alloc (.cells (z71 n) 39)) NB MB (w1.heap.size + 1) n 0 N (fun _ => .nilIface) := by
  have hne : ¬ MB = NB := fun e => by obtain ⟨c, n0, _⟩ := hN; rw [← e, hM] at n0; cases n0
  have F : Fr (· = NB) w1 (((w1.setCell ⟨NB, 12, none⟩ (.bool true)).setCell ⟨NB, 14, none⟩ (.iface t p)).alloc o) := (((Fr.refl (· = NB) w1).setCell (p := ⟨NB, 12, none⟩) (.inl rfl) _).setCell (p := ⟨NB, 14, none⟩) (.inl rfl) _).alloc o
  have h := st0 (w := w) (w1 := ((w1.setCell ⟨NB, 12, none⟩ (.bool true)).setCell ⟨NB, 14, none⟩ (.iface t p)).alloc o) (n := n) (N := N) (node_alloc (node_set (node_set12 hN)) o) (.inr ⟨t, p, rfl⟩) (F.obj hM hne) (hF.trans' F (fun i hi e => by omega))
  simpa using h

/-- One round's end: the row laid in built, and in the map. -/
theorem St.step {w wq : World} {NB MB BB n k : Nat} {N : Nat → ByteArray} {G : Nat → Value} {v : Value} (h : St w wq NB MB BB n k N G) (hk : k < n) (hb : w.heap.size ≤ BB) (hMB : w.heap.size ≤ MB) (hv : Hs wq w.heap.size v) :
    ∃ es' clock', (∀ W : World, W.heap = (wq.setCell ⟨BB, k, none⟩ v).heap → (Instr.mapUpdate 38 (.map (some MB)) (.string (N k)) v).run Ybaf.prog W = .ok () (setMap W MB es' clock')) ∧
      St w (setMap (wq.setCell ⟨BB, k, none⟩ v).drew MB es' clock') NB MB BB n (k + 1) N (fun j => if j = k then v else G j) := by
  obtain ⟨⟨fr, ld, ⟨c, n0, n1⟩, hfl⟩, ⟨es, clock, m1, m2, m3⟩, ⟨bc, b1, b2, b3⟩, hs, hF⟩ := h
  obtain ⟨es', clock', k1, k2, k3⟩ := run_update_s (P := Ybaf.prog) (mt := 38) Ybaf.underlying38 Ybaf.underlying9 (es := es) (clock := clock) m2 (N k) v
  have e1 : ¬ MB = BB := fun e => by rw [e, b1] at m1; cases m1
  have e2 : ¬ NB = BB := fun e => by rw [e, b1] at n0; simp at n0
  have e3 : ¬ NB = MB := fun e => by rw [e, m1] at n0; cases n0
  have FB : Fr (· = BB) wq (wq.setCell ⟨BB, k, none⟩ v) := Fr.setCell (S := (· = BB)) (p := ⟨BB, k, none⟩) (Fr.refl _ wq) (.inl rfl) v
  have hm1 := FB.obj m1 e1
  refine ⟨es', clock', fun W hW => k3 W MB (by rw [hW]; exact hm1), ?_⟩
  have FM := setMap_fr (wq.setCell ⟨BB, k, none⟩ v).drew MB es' clock'
  have F : Fr (fun i => i = BB ∨ i = MB) wq (setMap (wq.setCell ⟨BB, k, none⟩ v).drew MB es' clock') := ((FB.mono (fun _ _ h => .inl h)).drew).trans (FM.mono (fun _ _ h => .inr h))
  have hS : ∀ i c f, (i = BB ∨ i = MB) → wq.heap[i]? = some (.cells c 72 f) → False := by
    rintro i c f (rfl | rfl) h'
    · rw [b1] at h'; simp at h'
    · rw [m1] at h'; cases h'
  refine ⟨⟨fr, ld, ⟨c, F.obj n0 (by rintro (h | h); exact e2 h; exact e3 h), n1⟩, hfl⟩, ⟨es', clock', setMap_heap (w := (wq.setCell ⟨BB, k, none⟩ v).drew) hm1 es' clock', k1, fun s => ?_⟩, ⟨bc.setIfInBounds k v, ?_, by simp [b2], fun j hj => ?_⟩, fun j hj => ?_, hF.trans' F (fun i hi h => by omega)⟩
  · rw [k2 s, last]
    simp only [if_true]
    rw [m3 s, last_congr (G' := fun j => if j = k then v else G j) s k (fun j hj => by simp [show ¬ j = k by omega])]
  · have := heap_setCell b1 k v
    exact FM.obj (w := (wq.setCell ⟨BB, k, none⟩ v).drew) this (fun e => e1 e.symm)
  · rw [Array.getElem?_setIfInBounds]
    by_cases e : k = j
    · subst e; simp [b2, hk]
    · rw [if_neg e]; simp only [if_neg (Ne.symm e)]; exact b3 j (by omega)
  · by_cases e : j = k
    · subst e; simp only [if_true]; exact hv.fr F hS
    · simp only [if_neg e]; exact (hs j (by omega)).fr F hS

theorem owns_base {w : World} {base base' : Nat} {e : TypeId} {size : Nat} {v : Value} {n : Nat} {xs : List Value} (h : w.ownsRow base e size v n xs) (hb : base' ≤ base) : w.ownsRow base' e size v n xs := by
  refine ⟨h.1, ?_⟩
  rcases h.2 with hn | ⟨g, cap, cur, rfl, h1, rest⟩
  · exact .inl hn
  · exact .inr ⟨g, cap, cur, rfl, by omega, rest⟩

theorem toList_ne {a b : ByteArray} (h : ¬ a = b) : (a.toList == b.toList) = false := by
  rw [← beq_toListBytes]
  cases hh : a == b with
  | false => rfl
  | true => exact absurd ((Go.MapKept.bytes_beq a b).1 hh) h

theorem Ybaf.has77 : (Ybaf.prog.info? 77).isSome = true := by kernel_rfl
theorem neq72 (w : World) (a : Addr) : (binOp .neq 72 (.pointer (some a)) (.pointer (some a))).run Ybaf.prog w = .ok (.bool false) w := by
  obtain ⟨i, hi⟩ := Option.isSome_iff_exists.1 Ybaf.has77
  have h : ∀ d : Nat, (Op.equalIn (d + 1) 72 (.pointer (some a)) (.pointer (some a))).run Ybaf.prog w = .ok true w := fun d => by
    simp [Op.equalIn, run_underlying Ybaf.underlying72, sizeOf, typeInfo, hi, run_sameAddr_same]
  simp only [binOp]
  simp [Op.equal, Op.maxDepth, h 9999]

attribute [local go_sem] neq72

theorem bytes_fr (w : World) (s : ByteArray) : Fr (fun _ => False) w (Lib.bytesWorld w 5 s) := by
  refine ⟨?_, ?_, ?_, by rw [Lib.bytesWorld_size]; omega, fun k hk _ => Lib.bytesWorld_at_old w 5 s k hk⟩
  all_goals
    unfold Lib.bytesWorld World.freeze
    split <;> rfl

theorem bytes_key (w : World) (s : ByteArray) (cap : Nat) : KeyOk (Lib.bytesWorld w 5 s) w.heap.size s.size cap s := by
  intro W hW
  have hl : s.data.toList.length = s.size := rfl
  have h := run_convert_bytes_back (P := Ybaf.prog) W 23 9 5 ⟨w.heap.size, 0, none⟩ cap s.data.toList Ybaf.underlying23 Ybaf.underlying5 Ybaf.underlying9 (fun j hj => by
    have hadd : (⟨w.heap.size, 0, none⟩ : Addr).add j = ⟨w.heap.size, j, none⟩ := by unfold Addr.add; split <;> simp_all
    rw [hadd]
    have hc := Lib.bytesWorld_cell w 5 s j (by omega)
    have : W.cell? ⟨w.heap.size, j, none⟩ = (Lib.bytesWorld w 5 s).cell? ⟨w.heap.size, j, none⟩ := by simp [World.cell?, hW]
    rw [this, hc]
    simp [List.getD, List.getElem?_eq_getElem hj])
  rw [hl] at h
  rw [h]

/-- What a look-up finds: nothing, or a row of pointers. -/
def FoundOk (wr : World) (v : Value) : Prop := ∃ fa fl fc, v = .slice fa fl fc ∧ fl ≤ 3 ∧ ∀ j, j < fl → ∃ g p, fa = some ⟨g, 0, none⟩ ∧ wr.cell? ⟨g, j, none⟩ = some (.pointer (some p))
theorem Hs.found {w : World} {base : Nat} {v : Value} (h : Hs w base v) : FoundOk w v := by
  obtain ⟨t, xs, ho, ht, hp⟩ := h
  rcases ho.2 with ⟨rfl, h0⟩ | ⟨g, cap, cur, rfl, _, hg, _, _, _, htake⟩
  · exact ⟨none, 0, 0, rfl, by omega, fun j hj => by omega⟩
  · refine ⟨_, t, cap, rfl, ht, fun j hj => ?_⟩
    have hl : j < xs.length := by rw [ho.1]; omega
    obtain ⟨p, hpx⟩ := hp _ (List.getElem_mem hl)
    have hc := ho.cells (g := g) rfl j _ (by rw [List.getElem?_eq_getElem hl])
    have hadd : (⟨g, 0, none⟩ : Addr).add j = ⟨g, j, none⟩ := by unfold Addr.add; split <;> simp_all
    rw [hadd, hpx] at hc
    exact ⟨g, p, rfl, hc⟩
theorem last_found {w wr : World} {N : Nat → ByteArray} {G : Nat → Value} (s : ByteArray) : ∀ k, (∀ j, j < k → Hs wr w.heap.size (G j)) → FoundOk wr ((last N G s k).getD (.slice none 0 0))
  | 0, _ => ⟨none, 0, 0, rfl, by omega, fun j hj => by omega⟩
  | k + 1, h => by
    rw [last]
    by_cases e : s = N k
    · rw [if_pos e]; exact (h k (by omega)).found
    · rw [if_neg e]; exact last_found s k (fun j hj => h j (by omega))

theorem owns_slice {w : World} {base : Nat} {e : TypeId} {size : Nat} {v : Value} {n : Nat} {xs : List Value} (h : w.ownsRow base e size v n xs) : ∃ sa sl sc, v = .slice sa sl sc := by
  rcases h.2 with ⟨rfl, _⟩ | ⟨g, cap, cur, rfl, _⟩
  · exact ⟨_, _, _, rfl⟩
  · exact ⟨_, _, _, rfl⟩

theorem hs_step {wr wq w3 : World} {v : Value} {t g' cap' : Nat} {xs : List Value} {o1 o2 : Obj} (hF : Fr (fun _ => False) wr wq) (hown : wq.ownsRow wr.heap.size 72 1 v t xs)
    (hcase : (v = .slice (some ⟨g', 0, none⟩) t cap' ∧ t + 1 ≤ cap' ∧ Fr (· = g') ((wq.alloc o1).alloc o2) w3) ∨ (g' = ((wq.alloc o1).alloc o2).heap.size ∧ w3.heap.size = ((wq.alloc o1).alloc o2).heap.size + 1 ∧ Fr (fun _ => False) ((wq.alloc o1).alloc o2) w3)) : Fr (fun _ => False) wr w3 := by
  have F := (hF.alloc o1).alloc o2
  rcases hcase with ⟨rfl, _, h⟩ | ⟨_, _, h⟩
  · obtain ⟨_, _, hb⟩ := owns_form hown (k := g') rfl
    exact F.trans' h (fun i hi e => by omega)
  · exact F.trans h

theorem built77 (x : Int) : ∃ c : Array Value, Ybaf.prog.built 77 [(8, .int .i64 x)] = some c ∧ c.size = 75 :=
  ⟨(Ybaf.prog.built 77 [(8, .int .i64 x)]).getD #[], by kernel_rfl, by kernel_rfl⟩

set_option maxRecDepth 100000 in
set_option maxHeartbeats 2000000 in
theorem latest_law (w : World) (a ca : Option Addr) (n cap cn ccap b off cb coff : Nat) (N : Nat → ByteArray) (Q : Nat → Int) (key : ByteArray) (mode : Int) (hn : n ≤ 1024) (hcn : cn ≤ 9223372036854775807)
    (hA : 0 < n → a = some ⟨b, off, none⟩) (hK : Keys w b off n N) (hB : 0 < cn → ca = some ⟨cb, coff, none⟩) (hC : Cnts w cb coff cn Q) (m0 : 0 ≤ mode) (m1 : mode ≤ 255) :
    Calls Ybaf.prog 3 #[.slice a n cap, .slice ca cn ccap, .string key, .int .u8 mode] w fun e w' => e = .returned (.bool true) ∧ Below w.heap.size w w' := by
  have HK := hid (And.intro hA (And.intro hK (And.intro hB hC)))
  clear hA hK hB hC
  have hmk : ∀ W : World, (Instr.makeSlice 71 (.int .i64 (n : Int)) (.int .i64 (n : Int))).run Ybaf.prog W = .ok (.slice (some ⟨W.heap.size, 0, none⟩) n n) (W.alloc (.cells (z71 n) 39)) := fun W => make71 W n hn
  go_enter Ybaf.func3, Ybaf.ntmps3
  go_wp2_with fail
  refine (newNode_any w).mono ?_
  rintro e w1 ⟨NB, MB, rfl, hNB, hMB, hN, hM, hF⟩
  have HX := hid (And.intro hN (And.intro hM hF))
  clear hN hM hF
  obtain ⟨nc, n0, n7, n12, n14⟩ := HX.out.1
  have r12 := (cellOf n0 12).trans n12
  have r14 := (cellOf n0 14).trans n14
  have f12 := freeOf n0 12
  have f14 := freeOf n0 14
  have hNl := obj_lt n0
  clear n0 n7 n12 n14
  have hms : mode % 3 = 1 ∨ mode % 3 = 2 ∨ mode % 3 = 0 := by omega
  obtain ⟨i72, hi, hz0, hz1, hz2⟩ := info_parts Ybaf.info72
  rcases hms with hms | hms | hms
  · go_wp2
    have hst := st1 (t := 82) (p := .pointer (some ⟨w1.heap.size, 0, none⟩)) (o := .cells #[.string { data := #[122, 122, 32, 108, 111, 97, 100, 32, 102, 97, 105, 108, 101, 100] }] 84) (n := n) (N := N) hNB HX.out.1 HX.out.2.1 HX.out.2.2
    have hBB : w.heap.size ≤ w1.heap.size + 1 := by have := HX.out.2.2.size; omega
    clear HX hNl r12 r14 f12 f14 hms m0 m1 hmk
    generalize (((w1.setCell ⟨NB, 12, none⟩ (.bool true)).setCell ⟨NB, 14, none⟩ (.iface 82 (.pointer (some ⟨w1.heap.size, 0, none⟩)))).alloc (.cells #[.string { data := #[122, 122, 32, 108, 111, 97, 100, 32, 102, 97, 105, 108, 101, 100] }] 84)).alloc (.cells (z71 n) 39) = w2 at hst ⊢
    generalize w1.heap.size + 1 = BB at hst hBB ⊢
    have Hst := hid hst
    clear hst
    go_loopg [46] n (fun m s46 wr => ∃ (k : Nat) (G : Nat → Value), k ≤ n ∧ m = n - k ∧ s46 = .int .i64 k ∧ St w wr NB MB BB n k N G)
    case atStart => exact ⟨0, _, by omega, by omega, rfl, Hst.out⟩
    case round =>
      obtain ⟨k, G, hk, hm, rfl, hst⟩ := hrel
      have HS := hid hst
      by_cases hkn : k < n
      · obtain rfl := HK.out.1 (by omega)
        have c0 := hst.fr.cell (HK.out.2.1.s k hkn) (fun h => h)
        clear hst
        have hBs := HK.out.2.2.1
        have hCs := HK.out.2.2.2
        have HCs := hid (And.intro hBs hCs)
        clear hBs hCs
        go_upto_if 52 with (fail)
        go_cut [12] (fun s12 wc => (∃ c : Nat, s12 = .int .i64 (c : Int) ∧ c ≤ 3) ∧ wr = wc)
        case first =>
          by_cases hkc : k < cn
          · obtain rfl := HCs.out.1 (by omega)
            have d0 := HS.out.fr.cell (HCs.out.2.s k hkc) (fun h => h)
            have hQ := HCs.out.2.b k
            have hkc' : (k : Int) < (cn : Int) := by omega
            go_wp2
            go_meet
            case rel => exact ⟨⟨(Q k % 4).toNat, by rw [Int.toNat_of_nonneg (by omega)], by omega⟩, rfl⟩
          · have hkc' : ¬ (k : Int) < (cn : Int) := by omega
            go_wp2
            go_meet
            case rel => exact ⟨⟨2, rfl, by omega⟩, rfl⟩
        case rest =>
          obtain ⟨⟨c, rfl, hc3⟩, rfl⟩ := hcut
          go_wp2
          go_loopg [13, 14] c (fun m s13 s14 wq => ∃ (t : Nat) (xs : List Value), t ≤ c ∧ m = c - t ∧ s14 = .int .i64 (t : Int) ∧ wq.ownsRow wr.heap.size 72 1 s13 t xs ∧ (∀ x ∈ xs, ∃ p, x = .pointer (some p)) ∧ Fr (fun _ => False) wr wq)
          case atStart => exact ⟨0, [], by omega, by omega, rfl, ⟨rfl, .inl ⟨rfl, rfl⟩⟩, by simp, Fr.refl _ _⟩
          case round =>
            rename World => wq
            obtain ⟨t, xs, ht, hm2, rfl, hown, hp, hF⟩ := hrel
            by_cases htc : t < c
            · obtain ⟨c77, hc77, hs77⟩ := built77 ((k : Int) * 4 + (t : Int))
              have HC := hid hc77
              have HP := hid hp
              have HF := hid hF
              have hwz : wr.heap.size ≤ wq.heap.size := hF.size
              have htc' : (t : Int) < (c : Int) := by omega
              clear hc77 hp hF
              go_wp2_with (first | (refine wpList_built (o := { dst := some 69, op := _, type := _, pos := _, after := _, guard := none }) rfl 77 #[(8, .tmp 68)] rfl c77 _ (by simp [Act.eval]) HC.out ?_) | (at_builtin; refine wpList_append_fr _ rfl (.tmp 64) (.tmp 71) 39 rfl wr.heap.size 72 i72 _ 1 8 Ybaf.underlying39 hi hz0 hz1 hz2 rfl u13 t xs (by rfl) ((hown.alloc _).alloc _) ⟨wq.heap.size + 1, 0, none⟩ 1 1 [.pointer (some ⟨wq.heap.size, 0, none⟩)] (by rfl) rfl (cell_one_at (by simp)) (by simp [Value.oneCell']) (by omega) (by unfold maxLen; omega) (by omega) (by simp; omega) ?_; intro g' cap' w3 how hcase))
              have hF' := hid (hs_step HF.out hown hcase)
              clear hcase
              go_roundg (c - (t + 1))
              case measure => omega
              case rel => exact ⟨t + 1, _, by omega, rfl, by go_num, how, fun x hx => by rcases List.mem_append.1 hx with h | h; exact HP.out x h; exact ⟨_, by simpa using h⟩, hF'.out⟩
            · obtain ⟨sa, sl, sc, rfl⟩ := owns_slice hown
              have hws : w.heap.size ≤ wr.heap.size := HS.out.fr.size
              have hSq := HS.out.keep hF
              obtain ⟨es', clock', hrun, hst'⟩ := hSq.step hkn hBB hMB ⟨t, xs, owns_base hown hws, by omega, hp⟩
              obtain ⟨⟨fr, ld, ⟨nc, n0, n7, _⟩, _⟩, _, ⟨bc, b1, b2, b3⟩, _, _⟩ := hSq
              have e2 : ¬ NB = BB := fun e => by rw [e, b1] at n0; simp at n0
              have hbl := World.block_lt_of_cell? _ _ (HK.out.2.1.s k hkn)
              obtain ⟨ov, x0⟩ : ∃ ov, wq.cell? ⟨BB, k, none⟩ = some ov := ⟨bc[k]'(by omega), (cellOf b1 k).trans (Array.getElem?_eq_getElem _)⟩
              have x1 := freeOf b1 k
              have FB : ∀ v, Fr (· = BB) wq (wq.setCell ⟨BB, k, none⟩ v) := fun v => Fr.setCell (S := (· = BB)) (p := ⟨BB, k, none⟩) (Fr.refl _ wq) (.inl rfl) v
              have y7 : (wq.setCell ⟨BB, k, none⟩ (.slice sa sl sc)).cell? ⟨NB, 7, none⟩ = some (.map (some MB)) := (FB _).cell ((cellOf n0 7).trans n7) e2
              have yk : (wq.setCell ⟨BB, k, none⟩ (.slice sa sl sc)).cell? ⟨b, off + k, none⟩ = some (.string (N k)) := (FB _).cell (hF.cell c0 (fun h => h)) (by simp at hbl ⊢; omega)
              have htc' : ¬ (t : Int) < (c : Int) := by omega
              have Hy := hid (And.intro y7 (And.intro yk (And.intro hrun hst')))
              clear hown hp hF FB b1 b2 b3 n0 n7 y7 yk hrun hst'
              go_upto_region 23 with (fail)
              generalize wq.setCell ⟨BB, k, none⟩ (.slice sa sl sc) = wz at Hy ⊢
              obtain ⟨y7, yk, hrun, hst'⟩ := Hy.out
              clear Hy
              have hrun1 := hrun wz.drew rfl
              have hrun0 := hrun wz rfl
              have Hst' := hid hst'
              clear hrun hst' x0 x1
              go_big_region
              all_goals
                go_wp2
                go_roundg (n - (k + 1))
                case measure => omega
                case rel => exact ⟨k + 1, _, by omega, rfl, by go_num, Hst'.out⟩
      · obtain rfl : k = n := by omega
        clear hst
        go_wp2
        go_loopg [15, 89] k (fun m s15 s89 wq => ∃ t : Nat, t ≤ k ∧ m = k - t ∧ s89 = .int .i64 (t : Int) ∧ s15 = (last N G key t).getD (.slice none 0 0) ∧ wr = wq)
        case atStart => exact ⟨0, by omega, by omega, rfl, rfl, rfl⟩
        case round =>
          rename World => wq
          obtain ⟨t, ht, hm2, rfl, rfl, rfl⟩ := hrel
          by_cases htk : t < k
          · obtain rfl := HK.out.1 (by omega)
            have c0 := HS.out.fr.cell (HK.out.2.1.s t htk) (fun h => h)
            obtain ⟨bc, b1, b2, b3⟩ := HS.out.built
            have x0 := (cellOf b1 t).trans (b3 t htk)
            clear b1 b2 b3
            by_cases hkey : key = N t
            · have hl : Hid (last N G key (t + 1) = some (G t)) := by unfold Hid; rw [last, if_pos hkey]
              have hb : ((N t).toList == key.toList) = true := by rw [hkey]; simp
              clear hkey
              go_wp2
              go_roundg (k - (t + 1))
              case measure => omega
              case rel => exact ⟨t + 1, by omega, rfl, by go_num, by rw [hl.out]; rfl, rfl⟩
            · have hl : Hid (last N G key (t + 1) = last N G key t) := by unfold Hid; rw [last, if_neg hkey]
              have hb : ((N t).toList == key.toList) = false := toList_ne (fun e => hkey e.symm)
              clear hkey
              go_wp2
              go_roundg (k - (t + 1))
              case measure => omega
              case rel => exact ⟨t + 1, by omega, rfl, by go_num, by rw [hl.out], rfl⟩
          · obtain rfl : t = k := by omega
            obtain ⟨fa, fl, fc, hfe, hfl3, hcells⟩ := last_found (N := N) key t HS.out.hs
            have HCl := hid hcells
            rw [hfe]
            have hcv : ∀ W : World, (convert 9 23 (.string key)).run Ybaf.prog W = .ok (.slice (some ⟨W.heap.size, 0, none⟩) key.size (grownCap W key.size 0 5)) (Lib.bytesWorld W 5 key) := fun W => Lib.run_convert_string_bytes W 9 23 5 key Ybaf.underlying9 Ybaf.underlying23 Ybaf.underlying5
            have HFE := hid hfe
            clear hcells hfe
            go_wp2_with fail
            obtain ⟨⟨fr, ld, hN, hfl⟩, ⟨es, clock, hM, hk', hsf⟩, _, _, hFb⟩ := HS.out.keep (bytes_fr wr key)
            refine (latestOf_any _ NB MB wr.heap.size key.size _ clock fr ld key es hN hM hk' (bytes_key wr key _) hfl).mono ?_
            rw [hsf key, HFE.out]
            rintro e w4 ⟨rfl, q, rfl⟩
            have HFb := hid hFb
            have HFa := hid (bytes_fr wr key)
            clear hN hfl hM hk' hsf hFb hcv
            generalize Lib.bytesWorld wr 5 key = wb at HFb HFa ⊢
            go_wp2
            go_loopg [121] fl (fun m s121 wq => ∃ u q' : Nat, u ≤ fl ∧ m = fl - u ∧ s121 = .int .i64 (u : Int) ∧ wq = wb.drewN q')
            case atStart => exact ⟨0, q, by omega, by omega, rfl, rfl⟩
            case round =>
              clear q
              obtain ⟨u, q, hu, hm3, rfl, rfl⟩ := hrel
              by_cases hul : u < fl
              · obtain ⟨g, p, rfl, hc⟩ := HCl.out u hul
                have hc' := HFa.out.cell hc (fun h => h)
                clear hc
                go_wp2
                go_quiet (fail)
                go_wp2
                go_roundg (fl - (u + 1))
                case measure => omega
                case rel => exact ⟨u + 1, _, by omega, rfl, by go_num, rfl⟩
              · obtain rfl : u = fl := by omega
                go_wp2
                go_ret
                exact ⟨rfl, (HFb.out.below (Nat.le_refl _) (fun _ _ h => h)).trans ⟨rfl, rfl, rfl, Nat.le_refl _, fun _ _ => rfl⟩⟩
  · go_wp2
    have hst := st2 (t := 82) (p := .pointer (some ⟨w1.heap.size, 0, none⟩)) (o := .cells #[.string { data := #[122, 122, 32, 108, 111, 97, 100, 32, 102, 97, 105, 108, 101, 100] }] 84) (n := n) (N := N) hNB HX.out.1 HX.out.2.1 HX.out.2.2
    have hBB : w.heap.size ≤ w1.heap.size + 1 := by have := HX.out.2.2.size; omega
    clear HX hNl r12 r14 f12 f14 hms m0 m1 hmk
    generalize ((w1.setCell ⟨NB, 14, none⟩ (.iface 82 (.pointer (some ⟨w1.heap.size, 0, none⟩)))).alloc (.cells #[.string { data := #[122, 122, 32, 108, 111, 97, 100, 32, 102, 97, 105, 108, 101, 100] }] 84)).alloc (.cells (z71 n) 39) = w2 at hst ⊢
    generalize w1.heap.size + 1 = BB at hst hBB ⊢
    have Hst := hid hst
    clear hst
    go_loopg [46] n (fun m s46 wr => ∃ (k : Nat) (G : Nat → Value), k ≤ n ∧ m = n - k ∧ s46 = .int .i64 k ∧ St w wr NB MB BB n k N G)
    case atStart => exact ⟨0, _, by omega, by omega, rfl, Hst.out⟩
    case round =>
      obtain ⟨k, G, hk, hm, rfl, hst⟩ := hrel
      have HS := hid hst
      by_cases hkn : k < n
      · obtain rfl := HK.out.1 (by omega)
        have c0 := hst.fr.cell (HK.out.2.1.s k hkn) (fun h => h)
        clear hst
        have hBs := HK.out.2.2.1
        have hCs := HK.out.2.2.2
        have HCs := hid (And.intro hBs hCs)
        clear hBs hCs
        go_upto_if 52 with (fail)
        go_cut [12] (fun s12 wc => (∃ c : Nat, s12 = .int .i64 (c : Int) ∧ c ≤ 3) ∧ wr = wc)
        case first =>
          by_cases hkc : k < cn
          · obtain rfl := HCs.out.1 (by omega)
            have d0 := HS.out.fr.cell (HCs.out.2.s k hkc) (fun h => h)
            have hQ := HCs.out.2.b k
            have hkc' : (k : Int) < (cn : Int) := by omega
            go_wp2
            go_meet
            case rel => exact ⟨⟨(Q k % 4).toNat, by rw [Int.toNat_of_nonneg (by omega)], by omega⟩, rfl⟩
          · have hkc' : ¬ (k : Int) < (cn : Int) := by omega
            go_wp2
            go_meet
            case rel => exact ⟨⟨2, rfl, by omega⟩, rfl⟩
        case rest =>
          obtain ⟨⟨c, rfl, hc3⟩, rfl⟩ := hcut
          go_wp2
          go_loopg [13, 14] c (fun m s13 s14 wq => ∃ (t : Nat) (xs : List Value), t ≤ c ∧ m = c - t ∧ s14 = .int .i64 (t : Int) ∧ wq.ownsRow wr.heap.size 72 1 s13 t xs ∧ (∀ x ∈ xs, ∃ p, x = .pointer (some p)) ∧ Fr (fun _ => False) wr wq)
          case atStart => exact ⟨0, [], by omega, by omega, rfl, ⟨rfl, .inl ⟨rfl, rfl⟩⟩, by simp, Fr.refl _ _⟩
          case round =>
            rename World => wq
            obtain ⟨t, xs, ht, hm2, rfl, hown, hp, hF⟩ := hrel
            by_cases htc : t < c
            · obtain ⟨c77, hc77, hs77⟩ := built77 ((k : Int) * 4 + (t : Int))
              have HC := hid hc77
              have HP := hid hp
              have HF := hid hF
              have hwz : wr.heap.size ≤ wq.heap.size := hF.size
              have htc' : (t : Int) < (c : Int) := by omega
              clear hc77 hp hF
              go_wp2_with (first | (refine wpList_built (o := { dst := some 69, op := _, type := _, pos := _, after := _, guard := none }) rfl 77 #[(8, .tmp 68)] rfl c77 _ (by simp [Act.eval]) HC.out ?_) | (at_builtin; refine wpList_append_fr _ rfl (.tmp 64) (.tmp 71) 39 rfl wr.heap.size 72 i72 _ 1 8 Ybaf.underlying39 hi hz0 hz1 hz2 rfl u13 t xs (by rfl) ((hown.alloc _).alloc _) ⟨wq.heap.size + 1, 0, none⟩ 1 1 [.pointer (some ⟨wq.heap.size, 0, none⟩)] (by rfl) rfl (cell_one_at (by simp)) (by simp [Value.oneCell']) (by omega) (by unfold maxLen; omega) (by omega) (by simp; omega) ?_; intro g' cap' w3 how hcase))
              have hF' := hid (hs_step HF.out hown hcase)
              clear hcase
              go_roundg (c - (t + 1))
              case measure => omega
              case rel => exact ⟨t + 1, _, by omega, rfl, by go_num, how, fun x hx => by rcases List.mem_append.1 hx with h | h; exact HP.out x h; exact ⟨_, by simpa using h⟩, hF'.out⟩
            · obtain ⟨sa, sl, sc, rfl⟩ := owns_slice hown
              have hws : w.heap.size ≤ wr.heap.size := HS.out.fr.size
              have hSq := HS.out.keep hF
              obtain ⟨es', clock', hrun, hst'⟩ := hSq.step hkn hBB hMB ⟨t, xs, owns_base hown hws, by omega, hp⟩
              obtain ⟨⟨fr, ld, ⟨nc, n0, n7, _⟩, _⟩, _, ⟨bc, b1, b2, b3⟩, _, _⟩ := hSq
              have e2 : ¬ NB = BB := fun e => by rw [e, b1] at n0; simp at n0
              have hbl := World.block_lt_of_cell? _ _ (HK.out.2.1.s k hkn)
              obtain ⟨ov, x0⟩ : ∃ ov, wq.cell? ⟨BB, k, none⟩ = some ov := ⟨bc[k]'(by omega), (cellOf b1 k).trans (Array.getElem?_eq_getElem _)⟩
              have x1 := freeOf b1 k
              have FB : ∀ v, Fr (· = BB) wq (wq.setCell ⟨BB, k, none⟩ v) := fun v => Fr.setCell (S := (· = BB)) (p := ⟨BB, k, none⟩) (Fr.refl _ wq) (.inl rfl) v
              have y7 : (wq.setCell ⟨BB, k, none⟩ (.slice sa sl sc)).cell? ⟨NB, 7, none⟩ = some (.map (some MB)) := (FB _).cell ((cellOf n0 7).trans n7) e2
              have yk : (wq.setCell ⟨BB, k, none⟩ (.slice sa sl sc)).cell? ⟨b, off + k, none⟩ = some (.string (N k)) := (FB _).cell (hF.cell c0 (fun h => h)) (by simp at hbl ⊢; omega)
              have htc' : ¬ (t : Int) < (c : Int) := by omega
              have Hy := hid (And.intro y7 (And.intro yk (And.intro hrun hst')))
              clear hown hp hF FB b1 b2 b3 n0 n7 y7 yk hrun hst'
              go_upto_region 23 with (fail)
              generalize wq.setCell ⟨BB, k, none⟩ (.slice sa sl sc) = wz at Hy ⊢
              obtain ⟨y7, yk, hrun, hst'⟩ := Hy.out
              clear Hy
              have hrun1 := hrun wz.drew rfl
              have hrun0 := hrun wz rfl
              have Hst' := hid hst'
              clear hrun hst' x0 x1
              go_big_region
              all_goals
                go_wp2
                go_roundg (n - (k + 1))
                case measure => omega
                case rel => exact ⟨k + 1, _, by omega, rfl, by go_num, Hst'.out⟩
      · obtain rfl : k = n := by omega
        clear hst
        go_wp2
        go_loopg [15, 89] k (fun m s15 s89 wq => ∃ t : Nat, t ≤ k ∧ m = k - t ∧ s89 = .int .i64 (t : Int) ∧ s15 = (last N G key t).getD (.slice none 0 0) ∧ wr = wq)
        case atStart => exact ⟨0, by omega, by omega, rfl, rfl, rfl⟩
        case round =>
          rename World => wq
          obtain ⟨t, ht, hm2, rfl, rfl, rfl⟩ := hrel
          by_cases htk : t < k
          · obtain rfl := HK.out.1 (by omega)
            have c0 := HS.out.fr.cell (HK.out.2.1.s t htk) (fun h => h)
            obtain ⟨bc, b1, b2, b3⟩ := HS.out.built
            have x0 := (cellOf b1 t).trans (b3 t htk)
            clear b1 b2 b3
            by_cases hkey : key = N t
            · have hl : Hid (last N G key (t + 1) = some (G t)) := by unfold Hid; rw [last, if_pos hkey]
              have hb : ((N t).toList == key.toList) = true := by rw [hkey]; simp
              clear hkey
              go_wp2
              go_roundg (k - (t + 1))
              case measure => omega
              case rel => exact ⟨t + 1, by omega, rfl, by go_num, by rw [hl.out]; rfl, rfl⟩
            · have hl : Hid (last N G key (t + 1) = last N G key t) := by unfold Hid; rw [last, if_neg hkey]
              have hb : ((N t).toList == key.toList) = false := toList_ne (fun e => hkey e.symm)
              clear hkey
              go_wp2
              go_roundg (k - (t + 1))
              case measure => omega
              case rel => exact ⟨t + 1, by omega, rfl, by go_num, by rw [hl.out], rfl⟩
          · obtain rfl : t = k := by omega
            obtain ⟨fa, fl, fc, hfe, hfl3, hcells⟩ := last_found (N := N) key t HS.out.hs
            have HCl := hid hcells
            rw [hfe]
            have hcv : ∀ W : World, (convert 9 23 (.string key)).run Ybaf.prog W = .ok (.slice (some ⟨W.heap.size, 0, none⟩) key.size (grownCap W key.size 0 5)) (Lib.bytesWorld W 5 key) := fun W => Lib.run_convert_string_bytes W 9 23 5 key Ybaf.underlying9 Ybaf.underlying23 Ybaf.underlying5
            have HFE := hid hfe
            clear hcells hfe
            go_wp2_with fail
            obtain ⟨⟨fr, ld, hN, hfl⟩, ⟨es, clock, hM, hk', hsf⟩, _, _, hFb⟩ := HS.out.keep (bytes_fr wr key)
            refine (latestOf_any _ NB MB wr.heap.size key.size _ clock fr ld key es hN hM hk' (bytes_key wr key _) hfl).mono ?_
            rw [hsf key, HFE.out]
            rintro e w4 ⟨rfl, q, rfl⟩
            have HFb := hid hFb
            have HFa := hid (bytes_fr wr key)
            clear hN hfl hM hk' hsf hFb hcv
            generalize Lib.bytesWorld wr 5 key = wb at HFb HFa ⊢
            go_wp2
            go_loopg [121] fl (fun m s121 wq => ∃ u q' : Nat, u ≤ fl ∧ m = fl - u ∧ s121 = .int .i64 (u : Int) ∧ wq = wb.drewN q')
            case atStart => exact ⟨0, q, by omega, by omega, rfl, rfl⟩
            case round =>
              clear q
              obtain ⟨u, q, hu, hm3, rfl, rfl⟩ := hrel
              by_cases hul : u < fl
              · obtain ⟨g, p, rfl, hc⟩ := HCl.out u hul
                have hc' := HFa.out.cell hc (fun h => h)
                clear hc
                go_wp2
                go_quiet (fail)
                go_wp2
                go_roundg (fl - (u + 1))
                case measure => omega
                case rel => exact ⟨u + 1, _, by omega, rfl, by go_num, rfl⟩
              · obtain rfl : u = fl := by omega
                go_wp2
                go_ret
                exact ⟨rfl, (HFb.out.below (Nat.le_refl _) (fun _ _ h => h)).trans ⟨rfl, rfl, rfl, Nat.le_refl _, fun _ _ => rfl⟩⟩
  · go_wp2
    have hst := st0 (n := n) (N := N) HX.out.1 (.inl ⟨rfl, rfl⟩) HX.out.2.1 HX.out.2.2
    have hBB : w.heap.size ≤ w1.heap.size := HX.out.2.2.size
    clear HX hNl r12 r14 f12 f14 hms m0 m1 hmk
    generalize w1.alloc (.cells (z71 n) 39) = w2 at hst ⊢
    generalize w1.heap.size = BB at hst hBB ⊢
    have Hst := hid hst
    clear hst
    go_loopg [46] n (fun m s46 wr => ∃ (k : Nat) (G : Nat → Value), k ≤ n ∧ m = n - k ∧ s46 = .int .i64 k ∧ St w wr NB MB BB n k N G)
    case atStart => exact ⟨0, _, by omega, by omega, rfl, Hst.out⟩
    case round =>
      obtain ⟨k, G, hk, hm, rfl, hst⟩ := hrel
      have HS := hid hst
      by_cases hkn : k < n
      · obtain rfl := HK.out.1 (by omega)
        have c0 := hst.fr.cell (HK.out.2.1.s k hkn) (fun h => h)
        clear hst
        have hBs := HK.out.2.2.1
        have hCs := HK.out.2.2.2
        have HCs := hid (And.intro hBs hCs)
        clear hBs hCs
        go_upto_if 52 with (fail)
        go_cut [12] (fun s12 wc => (∃ c : Nat, s12 = .int .i64 (c : Int) ∧ c ≤ 3) ∧ wr = wc)
        case first =>
          by_cases hkc : k < cn
          · obtain rfl := HCs.out.1 (by omega)
            have d0 := HS.out.fr.cell (HCs.out.2.s k hkc) (fun h => h)
            have hQ := HCs.out.2.b k
            have hkc' : (k : Int) < (cn : Int) := by omega
            go_wp2
            go_meet
            case rel => exact ⟨⟨(Q k % 4).toNat, by rw [Int.toNat_of_nonneg (by omega)], by omega⟩, rfl⟩
          · have hkc' : ¬ (k : Int) < (cn : Int) := by omega
            go_wp2
            go_meet
            case rel => exact ⟨⟨2, rfl, by omega⟩, rfl⟩
        case rest =>
          obtain ⟨⟨c, rfl, hc3⟩, rfl⟩ := hcut
          go_wp2
          go_loopg [13, 14] c (fun m s13 s14 wq => ∃ (t : Nat) (xs : List Value), t ≤ c ∧ m = c - t ∧ s14 = .int .i64 (t : Int) ∧ wq.ownsRow wr.heap.size 72 1 s13 t xs ∧ (∀ x ∈ xs, ∃ p, x = .pointer (some p)) ∧ Fr (fun _ => False) wr wq)
          case atStart => exact ⟨0, [], by omega, by omega, rfl, ⟨rfl, .inl ⟨rfl, rfl⟩⟩, by simp, Fr.refl _ _⟩
          case round =>
            rename World => wq
            obtain ⟨t, xs, ht, hm2, rfl, hown, hp, hF⟩ := hrel
            by_cases htc : t < c
            · obtain ⟨c77, hc77, hs77⟩ := built77 ((k : Int) * 4 + (t : Int))
              have HC := hid hc77
              have HP := hid hp
              have HF := hid hF
              have hwz : wr.heap.size ≤ wq.heap.size := hF.size
              have htc' : (t : Int) < (c : Int) := by omega
              clear hc77 hp hF
              go_wp2_with (first | (refine wpList_built (o := { dst := some 69, op := _, type := _, pos := _, after := _, guard := none }) rfl 77 #[(8, .tmp 68)] rfl c77 _ (by simp [Act.eval]) HC.out ?_) | (at_builtin; refine wpList_append_fr _ rfl (.tmp 64) (.tmp 71) 39 rfl wr.heap.size 72 i72 _ 1 8 Ybaf.underlying39 hi hz0 hz1 hz2 rfl u13 t xs (by rfl) ((hown.alloc _).alloc _) ⟨wq.heap.size + 1, 0, none⟩ 1 1 [.pointer (some ⟨wq.heap.size, 0, none⟩)] (by rfl) rfl (cell_one_at (by simp)) (by simp [Value.oneCell']) (by omega) (by unfold maxLen; omega) (by omega) (by simp; omega) ?_; intro g' cap' w3 how hcase))
              have hF' := hid (hs_step HF.out hown hcase)
              clear hcase
              go_roundg (c - (t + 1))
              case measure => omega
              case rel => exact ⟨t + 1, _, by omega, rfl, by go_num, how, fun x hx => by rcases List.mem_append.1 hx with h | h; exact HP.out x h; exact ⟨_, by simpa using h⟩, hF'.out⟩
            · obtain ⟨sa, sl, sc, rfl⟩ := owns_slice hown
              have hws : w.heap.size ≤ wr.heap.size := HS.out.fr.size
              have hSq := HS.out.keep hF
              obtain ⟨es', clock', hrun, hst'⟩ := hSq.step hkn hBB hMB ⟨t, xs, owns_base hown hws, by omega, hp⟩
              obtain ⟨⟨fr, ld, ⟨nc, n0, n7, _⟩, _⟩, _, ⟨bc, b1, b2, b3⟩, _, _⟩ := hSq
              have e2 : ¬ NB = BB := fun e => by rw [e, b1] at n0; simp at n0
              have hbl := World.block_lt_of_cell? _ _ (HK.out.2.1.s k hkn)
              obtain ⟨ov, x0⟩ : ∃ ov, wq.cell? ⟨BB, k, none⟩ = some ov := ⟨bc[k]'(by omega), (cellOf b1 k).trans (Array.getElem?_eq_getElem _)⟩
              have x1 := freeOf b1 k
              have FB : ∀ v, Fr (· = BB) wq (wq.setCell ⟨BB, k, none⟩ v) := fun v => Fr.setCell (S := (· = BB)) (p := ⟨BB, k, none⟩) (Fr.refl _ wq) (.inl rfl) v
              have y7 : (wq.setCell ⟨BB, k, none⟩ (.slice sa sl sc)).cell? ⟨NB, 7, none⟩ = some (.map (some MB)) := (FB _).cell ((cellOf n0 7).trans n7) e2
              have yk : (wq.setCell ⟨BB, k, none⟩ (.slice sa sl sc)).cell? ⟨b, off + k, none⟩ = some (.string (N k)) := (FB _).cell (hF.cell c0 (fun h => h)) (by simp at hbl ⊢; omega)
              have htc' : ¬ (t : Int) < (c : Int) := by omega
              have Hy := hid (And.intro y7 (And.intro yk (And.intro hrun hst')))
              clear hown hp hF FB b1 b2 b3 n0 n7 y7 yk hrun hst'
              go_upto_region 23 with (fail)
              generalize wq.setCell ⟨BB, k, none⟩ (.slice sa sl sc) = wz at Hy ⊢
              obtain ⟨y7, yk, hrun, hst'⟩ := Hy.out
              clear Hy
              have hrun1 := hrun wz.drew rfl
              have hrun0 := hrun wz rfl
              have Hst' := hid hst'
              clear hrun hst' x0 x1
              go_big_region
              all_goals
                go_wp2
                go_roundg (n - (k + 1))
                case measure => omega
                case rel => exact ⟨k + 1, _, by omega, rfl, by go_num, Hst'.out⟩
      · obtain rfl : k = n := by omega
        clear hst
        go_wp2
        go_loopg [15, 89] k (fun m s15 s89 wq => ∃ t : Nat, t ≤ k ∧ m = k - t ∧ s89 = .int .i64 (t : Int) ∧ s15 = (last N G key t).getD (.slice none 0 0) ∧ wr = wq)
        case atStart => exact ⟨0, by omega, by omega, rfl, rfl, rfl⟩
        case round =>
          rename World => wq
          obtain ⟨t, ht, hm2, rfl, rfl, rfl⟩ := hrel
          by_cases htk : t < k
          · obtain rfl := HK.out.1 (by omega)
            have c0 := HS.out.fr.cell (HK.out.2.1.s t htk) (fun h => h)
            obtain ⟨bc, b1, b2, b3⟩ := HS.out.built
            have x0 := (cellOf b1 t).trans (b3 t htk)
            clear b1 b2 b3
            by_cases hkey : key = N t
            · have hl : Hid (last N G key (t + 1) = some (G t)) := by unfold Hid; rw [last, if_pos hkey]
              have hb : ((N t).toList == key.toList) = true := by rw [hkey]; simp
              clear hkey
              go_wp2
              go_roundg (k - (t + 1))
              case measure => omega
              case rel => exact ⟨t + 1, by omega, rfl, by go_num, by rw [hl.out]; rfl, rfl⟩
            · have hl : Hid (last N G key (t + 1) = last N G key t) := by unfold Hid; rw [last, if_neg hkey]
              have hb : ((N t).toList == key.toList) = false := toList_ne (fun e => hkey e.symm)
              clear hkey
              go_wp2
              go_roundg (k - (t + 1))
              case measure => omega
              case rel => exact ⟨t + 1, by omega, rfl, by go_num, by rw [hl.out], rfl⟩
          · obtain rfl : t = k := by omega
            obtain ⟨fa, fl, fc, hfe, hfl3, hcells⟩ := last_found (N := N) key t HS.out.hs
            have HCl := hid hcells
            rw [hfe]
            have hcv : ∀ W : World, (convert 9 23 (.string key)).run Ybaf.prog W = .ok (.slice (some ⟨W.heap.size, 0, none⟩) key.size (grownCap W key.size 0 5)) (Lib.bytesWorld W 5 key) := fun W => Lib.run_convert_string_bytes W 9 23 5 key Ybaf.underlying9 Ybaf.underlying23 Ybaf.underlying5
            have HFE := hid hfe
            clear hcells hfe
            go_wp2_with fail
            obtain ⟨⟨fr, ld, hN, hfl⟩, ⟨es, clock, hM, hk', hsf⟩, _, _, hFb⟩ := HS.out.keep (bytes_fr wr key)
            refine (latestOf_any _ NB MB wr.heap.size key.size _ clock fr ld key es hN hM hk' (bytes_key wr key _) hfl).mono ?_
            rw [hsf key, HFE.out]
            rintro e w4 ⟨rfl, q, rfl⟩
            have HFb := hid hFb
            have HFa := hid (bytes_fr wr key)
            clear hN hfl hM hk' hsf hFb hcv
            generalize Lib.bytesWorld wr 5 key = wb at HFb HFa ⊢
            go_wp2
            go_loopg [121] fl (fun m s121 wq => ∃ u q' : Nat, u ≤ fl ∧ m = fl - u ∧ s121 = .int .i64 (u : Int) ∧ wq = wb.drewN q')
            case atStart => exact ⟨0, q, by omega, by omega, rfl, rfl⟩
            case round =>
              clear q
              obtain ⟨u, q, hu, hm3, rfl, rfl⟩ := hrel
              by_cases hul : u < fl
              · obtain ⟨g, p, rfl, hc⟩ := HCl.out u hul
                have hc' := HFa.out.cell hc (fun h => h)
                clear hc
                go_wp2
                go_quiet (fail)
                go_wp2
                go_roundg (fl - (u + 1))
                case measure => omega
                case rel => exact ⟨u + 1, _, by omega, rfl, by go_num, rfl⟩
              · obtain rfl : u = fl := by omega
                go_wp2
                go_ret
                exact ⟨rfl, (HFb.out.below (Nat.le_refl _) (fun _ _ h => h)).trans ⟨rfl, rfl, rfl, Nat.le_refl _, fun _ _ => rfl⟩⟩

end Go.Proofs.YbulkabcgFmt
