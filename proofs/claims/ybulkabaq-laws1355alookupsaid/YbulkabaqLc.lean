import Derived.Test.YbulkabaqLb
import Derived.Deep.DeepCutAuto
import Derived.BigQuiet
import Derived.Deep.QuietTactic
import Derived.Deep.RegionWith
import Derived.Deep.RegionHeld3
import Derived.Deep.DrawnRows
namespace Go.Proofs.Ybulkabaq
open Go.RowKit
set_option linter.unusedVariables false

/-- The bytes of v can be read, the same in every world that has grown out of w. -/
def DataOk (w : World) (v : Value) : Prop := (∃ a n c, v = .slice a n c) ∧ ∃ s : ByteArray, ∀ W, Below w.heap.size w W → (convert 26 9 v).run Yba.prog W = .ok (.string s) W

set_option maxHeartbeats 400000 in
theorem equal_same (w : World) (a : Option Addr) (n c : Nat) (s : ByteArray) (h : (convert 26 9 (.slice a n c)).run Yba.prog w = .ok (.string s) w) :
    Calls Yba.prog 9 #[.slice a n c, .slice a n c] w fun e w' => e = .returned (.bool true) ∧ w' = w := by
  go_enter Yba.func9, Yba.ntmps9
  go_wp2
  go_ret
  exact ⟨rfl, rfl⟩

/-- What the walk is told of the entries. -/
structure Ent (w : World) (b off len : Nat) (N : Nat → ByteArray) (D : Nat → Bool) (K S : Nat → Int) (A : Nat → Option Addr) (L C : Nat → Nat) : Prop where
  n : ∀ i, i < len → w.cell? ⟨b, off + i * 5, none⟩ = some (.string (N i))
  d : ∀ i, i < len → w.cell? ⟨b, off + i * 5 + 1, none⟩ = some (.bool (D i))
  k : ∀ i, i < len → w.cell? ⟨b, off + i * 5 + 2, none⟩ = some (.int .u8 (K i))
  s : ∀ i, i < len → w.cell? ⟨b, off + i * 5 + 3, none⟩ = some (.int .i64 (S i))
  v : ∀ i, i < len → w.cell? ⟨b, off + i * 5 + 4, none⟩ = some (.slice (A i) (L i) (C i))
  kb : ∀ i, i < len → 0 ≤ K i ∧ K i ≤ 255
  vo : ∀ i, i < len → DataOk w (.slice (A i) (L i) (C i))

/-- The instance of entry j. -/
def InstOk (w : World) (N : Nat → ByteArray) (D : Nat → Bool) (K S : Nat → Int) (A : Nat → Option Addr) (L C : Nat → Nat) (v : Value) (j : Nat) : Prop :=
  ∃ bb, v = .pointer (some ⟨bb, 0, none⟩) ∧ w.heap[bb]? = some (.cells (instCells (N j) (kindS (K j)) (D j) (.slice (A j) (L j) (C j)) (S j)) 80 (0, 0))

theorem InstOk.fr {Sx : Nat → Prop} {w w' : World} {N : Nat → ByteArray} {D : Nat → Bool} {K S : Nat → Int} {A : Nat → Option Addr} {L C : Nat → Nat} {v : Value} {j : Nat} (h : InstOk w N D K S A L C v j) (F : Fr Sx w w') (hS : ∀ k c t f, Sx k → w.heap[k]? = some (.cells c t f) → t ≠ 80) : InstOk w' N D K S A L C v j := by
  obtain ⟨bb, hv, hh⟩ := h
  exact ⟨bb, hv, F.obj hh (fun h => hS _ _ _ _ h hh rfl)⟩

/-- The map behind i entries. -/
def MapOk (w : World) (ib i : Nat) (N : Nat → ByteArray) (D : Nat → Bool) (K S : Nat → Int) (A : Nat → Option Addr) (L C : Nat → Nat) : Prop :=
  ∃ es clock, w.heap[ib]? = some (.map es clock) ∧ SKeys es ∧ ∀ s,
    (sfind s es.toList = none ∧ ∀ j, j < i → N j ≠ s) ∨ ∃ v j, sfind s es.toList = some v ∧ j < i ∧ N j = s ∧ (∀ j', j < j' → j' < i → N j' ≠ s) ∧ InstOk w N D K S A L C v j

theorem MapOk.fr {Sx : Nat → Prop} {w w' : World} {ib i : Nat} {N : Nat → ByteArray} {D : Nat → Bool} {K S : Nat → Int} {A : Nat → Option Addr} {L C : Nat → Nat} (h : MapOk w ib i N D K S A L C) (F : Fr Sx w w') (hib : ¬ Sx ib) (hS : ∀ k c t f, Sx k → w.heap[k]? = some (.cells c t f) → t ≠ 80) : MapOk w' ib i N D K S A L C := by
  obtain ⟨es, clock, h1, h2, h3⟩ := h
  refine ⟨es, clock, F.obj h1 hib, h2, fun s => ?_⟩
  rcases h3 s with h | ⟨v, j, h4, h5, h6, h7, h8⟩
  · exact .inl h
  · exact .inr ⟨v, j, h4, h5, h6, h7, h8.fr F hS⟩

theorem setMap_cell {w : World} {b : Nat} {es : Array MapEntry} {clock : Nat} (h : w.heap[b]? = some (.map es clock)) (es' : Array MapEntry) (clock' : Nat) (a : Addr) : (setMap w.drew b es' clock').cell? a = w.cell? a := by
  by_cases e : a.block = b
  · have h1 : (setMap w.drew b es' clock').heap[a.block]? = some (.map es' clock') := by rw [e]; exact setMap_heap (w := w.drew) h es' clock'
    have h2 : w.heap[a.block]? = some (.map es clock) := by rw [e]; exact h
    simp [World.cell?, h1, h2]
  · have h1 : (setMap w.drew b es' clock').heap[a.block]? = w.heap[a.block]? := by simp [setMap, Ne.symm e]; rfl
    simp [World.cell?, h1]

/-- What a store of entry i's instance leaves: for the walk, the run of the store; and the map behind it. -/
theorem MapOk.put {w : World} {ib i : Nat} {N : Nat → ByteArray} {D : Nat → Bool} {K S : Nat → Int} {A : Nat → Option Addr} {L C : Nat → Nat} (h : MapOk w ib i N D K S A L C) :
    ∃ es' clock', (∀ o1 o2, (Instr.mapUpdate 24 (.map (some ib)) (.string (N i)) (.pointer (some ⟨w.heap.size + 1, 0, none⟩))).run Yba.prog ((w.alloc o1).alloc o2) = .ok () (setMap ((w.alloc o1).alloc o2) ib es' clock')) ∧
      (∀ o1 o2, (Instr.mapUpdate 24 (.map (some ib)) (.string (N i)) (.pointer (some ⟨w.heap.size + 1, 0, none⟩))).run Yba.prog ((w.alloc o1).alloc o2).drew = .ok () (setMap ((w.alloc o1).alloc o2).drew ib es' clock')) ∧
      (∀ o1 o2 a, (setMap ((w.alloc o1).alloc o2).drew ib es' clock').cell? a = ((w.alloc o1).alloc o2).cell? a) ∧
      ∀ o1, MapOk (setMap ((w.alloc o1).alloc (.cells (instCells (N i) (kindS (K i)) (D i) (.slice (A i) (L i) (C i)) (S i)) 80)).drew ib es' clock') ib (i + 1) N D K S A L C ∧ Fr (· = ib) w (setMap ((w.alloc o1).alloc (.cells (instCells (N i) (kindS (K i)) (D i) (.slice (A i) (L i) (C i)) (S i)) 80)).drew ib es' clock') := by
  obtain ⟨es, clock, h1, h2, h3⟩ := h
  obtain ⟨es', clock', k1, k2, k3⟩ := run_update_s (P := Yba.prog) (mt := 24) Yba.underlying24 Yba.underlying9 (es := es) (clock := clock) h2 (N i) (.pointer (some ⟨w.heap.size + 1, 0, none⟩))
  have hh : ∀ o1 o2, ((w.alloc o1).alloc o2).heap[ib]? = some (.map es clock) := fun o1 o2 => by
    have F : Fr (fun _ => False) w ((w.alloc o1).alloc o2) := ((Fr.refl _ w).alloc o1).alloc o2
    exact F.obj h1 (fun h => h)
  refine ⟨es', clock', fun o1 o2 => k3 _ ib (hh o1 o2), fun o1 o2 => k3 _ ib (hh o1 o2), fun o1 o2 a => setMap_cell (hh o1 o2) _ _ a, fun o1 => ?_⟩
  have F : Fr (fun _ => False) w ((w.alloc o1).alloc (.cells (instCells (N i) (kindS (K i)) (D i) (.slice (A i) (L i) (C i)) (S i)) 80)).drew := (((Fr.refl _ w).alloc _).alloc _).drew
  have FM := setMap_fr ((w.alloc o1).alloc (.cells (instCells (N i) (kindS (K i)) (D i) (.slice (A i) (L i) (C i)) (S i)) 80)).drew ib es' clock'
  have hx : ((w.alloc o1).alloc (.cells (instCells (N i) (kindS (K i)) (D i) (.slice (A i) (L i) (C i)) (S i)) 80)).drew.heap[ib]? = some (.map es clock) := hh o1 _
  have typ : ∀ k c t f, k = ib → ((w.alloc o1).alloc (.cells (instCells (N i) (kindS (K i)) (D i) (.slice (A i) (L i) (C i)) (S i)) 80)).drew.heap[k]? = some (.cells c t f) → t ≠ 80 := by
    intro k c t f hk h'; subst hk; rw [hx] at h'; cases h'
  have hnew : ((w.alloc o1).alloc (.cells (instCells (N i) (kindS (K i)) (D i) (.slice (A i) (L i) (C i)) (S i)) 80)).drew.heap[w.heap.size + 1]? = some (.cells (instCells (N i) (kindS (K i)) (D i) (.slice (A i) (L i) (C i)) (S i)) 80 (0, 0)) := by
    have h := heap_alloc_new (w.alloc o1) (.cells (instCells (N i) (kindS (K i)) (D i) (.slice (A i) (L i) (C i)) (S i)) 80)
    rw [World.size_alloc] at h
    exact h
  refine ⟨⟨es', clock', setMap_heap hx es' clock', k1, fun s => ?_⟩, (F.mono (fun _ _ h => h.elim)).trans FM⟩
  rw [k2 s]
  by_cases hs : s = N i
  · subst hs
    refine .inr ⟨_, i, by rw [if_pos rfl], by omega, rfl, fun j' h1 h2 => by omega, ?_⟩
    exact InstOk.fr ⟨_, rfl, hnew⟩ FM typ
  · rw [if_neg hs]
    rcases h3 s with ⟨h4, h5⟩ | ⟨v, j, h4, h5, h6, h7, h8⟩
    · refine .inl ⟨h4, fun j hj => ?_⟩
      by_cases e : j = i
      · subst e; exact fun h => hs h.symm
      · exact h5 j (by omega)
    · refine .inr ⟨v, j, h4, by omega, h6, fun j' h1 h2 => ?_, (h8.fr F (fun _ _ _ _ h => h.elim)).fr FM typ⟩
      by_cases e : j' = i
      · subst e; exact fun h => hs h.symm
      · exact h7 j' h1 (by omega)

/-- The member that the law makes: its lock free, its map at ib. -/
def MemL (w : World) (mb ib : Nat) : Prop := ∃ mc, w.heap[mb]? = some (.cells mc 64 (0, 0)) ∧ mc[17]? = some (.int .i32 0) ∧ mc[19]? = some (.map (some ib))
theorem MemL.fr {Sx : Nat → Prop} {w w' : World} {mb ib : Nat} (h : MemL w mb ib) (F : Fr Sx w w') (hn : ¬ Sx mb) : MemL w' mb ib := by
  obtain ⟨mc, h1, h2⟩ := h; exact ⟨mc, F.obj h1 hn, h2⟩

/-- The last entry under the name, as the law reckons it. -/
def lastI (N : Nat → ByteArray) (q : ByteArray) : Nat → Int
  | 0 => -1
  | i + 1 => if N i == q then (i : Int) else lastI N q i

theorem lastI_hit {N : Nat → ByteArray} {q : ByteArray} {i : Nat} (h : N i = q) : lastI N q (i + 1) = i := by
  rw [lastI, if_pos ((Go.MapKept.bytes_beq _ _).2 h)]
theorem lastI_miss {N : Nat → ByteArray} {q : ByteArray} {i : Nat} (h : ¬ N i = q) : lastI N q (i + 1) = lastI N q i := by
  rw [lastI, if_neg (fun h' => h ((Go.MapKept.bytes_beq _ _).1 h'))]
theorem lastI_none {N : Nat → ByteArray} {q : ByteArray} : ∀ {i : Nat}, (∀ j, j < i → N j ≠ q) → lastI N q i = -1
  | 0, _ => rfl
  | i + 1, h => by rw [lastI_miss (h i (by omega))]; exact lastI_none (fun j hj => h j (by omega))
theorem lastI_some {N : Nat → ByteArray} {q : ByteArray} {j : Nat} : ∀ {i : Nat}, j < i → N j = q → (∀ j', j < j' → j' < i → N j' ≠ q) → lastI N q i = j
  | 0, h, _, _ => by omega
  | i + 1, h, hj, hl => by
    by_cases e : j = i
    · subst e; exact lastI_hit hj
    · rw [lastI_miss (hl i (by omega) (by omega))]; exact lastI_some (by omega) hj (fun j' h1 h2 => hl j' h1 (by omega))
theorem lastI_range (N : Nat → ByteArray) (q : ByteArray) : ∀ i : Nat, -1 ≤ lastI N q i ∧ lastI N q i < i
  | 0 => by simp [lastI]
  | i + 1 => by
    have := lastI_range N q i
    rw [lastI]; split <;> omega

end Go.Proofs.Ybulkabaq
