import Derived.Test.YbulkabaqBc
/- The state that the voter, the closure's captured variables and the parties are in between two rounds of Enter. -/
namespace Go.Proofs.Ybulkabaq
open Go.RowKit
set_option linter.unusedVariables false

structure St (base V m C N M P0 L : Nat) (R : Int) (s0 p2 s5 : Value) (ps ms : List Value) (rv cv mv : Value) (w : World) : Prop where
  hV : w.heap[V]? = some (.cells #[s0, .pointer (some ⟨m, 0, none⟩), p2, rv, .func (.func 11) #[] #[.pointer (some ⟨C, 0, none⟩), .pointer (some ⟨N, 0, none⟩), .pointer (some ⟨M, 0, none⟩)], s5] 137 (0, 0))
  hm : ∃ mc, w.heap[m]? = some (.cells mc 106 (0, 0)) ∧ mc[0]? = some (.int .i64 0) ∧ mc[1]? = some (.int .i64 0) ∧ mc[2]? = some (.slice none 0 0) ∧ mc[3]? = some (.slice none 0 0) ∧ mc[4]? = some (.int .i64 0) ∧ mc[17]? = some (.int .i64 R)
  hC : w.heap[C]? = some (.cells #[cv] 37 (0, 0))
  hM : w.heap[M]? = some (.cells #[mv] 108 (0, 0))
  hN : w.heap[N]? = some (.cells #[.bool true] 4 (0, 0))
  hP : w.heap[P0]? = some (.cells ps.toArray 109 (0, 0))
  orow : w.ownsRow base 109 1 rv (L + ms.length) (ps ++ ms)
  oc : w.ownsRow base 3 1 cv ms.length (List.replicate ms.length (.int .i64 R))
  om : w.ownsRow base 109 1 mv ms.length ms
  good : ∀ p ∈ ps ++ ms, GoodParty w p
  d1 : ∀ k, rv.ownBlock = some k → ¬ mv.ownBlock = some k
  d2 : ¬ mv.ownBlock = some P0
  d3 : rv = .slice (some ⟨P0, 0, none⟩) L L ∨ ¬ rv.ownBlock = some P0
  bases : base ≤ V ∧ base ≤ C ∧ base ≤ M ∧ base ≤ w.heap.size
  pl : ps.length = L
  lims : L ≤ 300 ∧ ms.length ≤ 300

section
variable {base V m C N M P0 L : Nat} {R : Int} {s0 p2 s5 : Value} {ps ms : List Value} {rv cv mv : Value} {w W w3 w4 : World} {p cv' mv' : Value}

theorem good_fr {S : Nat → Prop} {w w' : World} {l : List Value} (h : ∀ p ∈ l, GoodParty w p) (hf : Fr S w w') (hS : ∀ k c t f, S k → w.heap[k]? = some (.cells c t f) → t ≠ 132 ∧ t ≠ 122) : ∀ p ∈ l, GoodParty w' p :=
  fun p hp => (h p hp).fr hf hS

theorem St.fr (s : St base V m C N M P0 L R s0 p2 s5 ps ms rv cv mv w) (F : Fr (fun _ => False) w W) : St base V m C N M P0 L R s0 p2 s5 ps ms rv cv mv W :=
  { hV := F.obj s.hV (fun h => h), hC := F.obj s.hC (fun h => h), hM := F.obj s.hM (fun h => h), hN := F.obj s.hN (fun h => h), hP := F.obj s.hP (fun h => h)
    hm := by obtain ⟨mc, h, r⟩ := s.hm; exact ⟨mc, F.obj h (fun h => h), r⟩
    orow := owns_fr s.orow F (fun _ _ h => h), oc := owns_fr s.oc F (fun _ _ h => h), om := owns_fr s.om F (fun _ _ h => h)
    good := good_fr s.good F (fun _ _ _ _ h => h.elim), d1 := s.d1, d2 := s.d2, d3 := s.d3
    bases := ⟨s.bases.1, s.bases.2.1, s.bases.2.2.1, Nat.le_trans s.bases.2.2.2 F.size⟩, pl := s.pl, lims := s.lims }

/-- What stands behind the closure's call, ahead of the append. -/
structure Mid (base V m C N M P0 L : Nat) (R : Int) (s0 p2 s5 : Value) (ps ms : List Value) (rv cv mv p : Value) (w : World) : Prop where
  hV : w.heap[V]? = some (.cells #[s0, .pointer (some ⟨m, 0, none⟩), p2, rv, .func (.func 11) #[] #[.pointer (some ⟨C, 0, none⟩), .pointer (some ⟨N, 0, none⟩), .pointer (some ⟨M, 0, none⟩)], s5] 137 (0, 0))
  hm : ∃ mc, w.heap[m]? = some (.cells mc 106 (0, 0)) ∧ mc[0]? = some (.int .i64 0) ∧ mc[1]? = some (.int .i64 0) ∧ mc[2]? = some (.slice none 0 0) ∧ mc[3]? = some (.slice none 0 0) ∧ mc[4]? = some (.int .i64 0) ∧ mc[17]? = some (.int .i64 R)
  hC : w.heap[C]? = some (.cells #[cv] 37 (0, 0))
  hM : w.heap[M]? = some (.cells #[mv] 108 (0, 0))
  hN : w.heap[N]? = some (.cells #[.bool true] 4 (0, 0))
  hP : w.heap[P0]? = some (.cells ps.toArray 109 (0, 0))
  orow : w.ownsRow base 109 1 rv (L + ms.length) (ps ++ ms)
  oc : w.ownsRow base 3 1 cv (ms.length + 1) (List.replicate (ms.length + 1) (.int .i64 R))
  om : w.ownsRow base 109 1 mv (ms.length + 1) (ms ++ [p])
  good : ∀ q ∈ ps ++ ms ++ [p], GoodParty w q
  d1 : ∀ k, rv.ownBlock = some k → ¬ mv.ownBlock = some k
  d2 : ¬ mv.ownBlock = some P0
  d3 : rv = .slice (some ⟨P0, 0, none⟩) L L ∨ ¬ rv.ownBlock = some P0
  bases : base ≤ V ∧ base ≤ C ∧ base ≤ M ∧ base ≤ w.heap.size
  pl : ps.length = L
  lims : L ≤ 300 ∧ ms.length ≤ 300

theorem St.mid (s : St base V m C N M P0 L R s0 p2 s5 ps ms rv cv mv W)
    (r1 : w3.heap[C]? = some (.cells #[cv'] 37 (0, 0))) (r2 : w3.heap[M]? = some (.cells #[mv'] 108 (0, 0)))
    (r3 : w3.ownsRow base 3 1 cv' (ms.length + 1) (List.replicate (ms.length + 1) (.int .i64 R))) (r4 : w3.ownsRow base 109 1 mv' (ms.length + 1) (ms ++ [p])) (r5 : GoodParty w3 p)
    (r6 : mv'.ownBlock = mv.ownBlock ∨ ∃ j, mv'.ownBlock = some j ∧ W.heap.size ≤ j) (F : Fr (fun k => k = C ∨ k = M ∨ cv.ownBlock = some k ∨ mv.ownBlock = some k) W w3) :
    Mid base V m C N M P0 L R s0 p2 s5 ps ms rv cv' mv' p w3 := by
  have key : ∀ k c t f, (k = C ∨ k = M ∨ cv.ownBlock = some k ∨ mv.ownBlock = some k) → W.heap[k]? = some (.cells c t f) → t = 37 ∨ t = 108 ∨ t = 3 ∨ (t = 109 ∧ mv.ownBlock = some k) := by
    intro k c t f hk hh
    rcases hk with rfl | rfl | hk | hk
    · rw [s.hC] at hh; cases hh; exact .inl rfl
    · rw [s.hM] at hh; cases hh; exact .inr (.inl rfl)
    · obtain ⟨c', h', _⟩ := owns_form s.oc hk
      rw [h'] at hh; cases hh; exact .inr (.inr (.inl rfl))
    · obtain ⟨c', h', _⟩ := owns_form s.om hk
      rw [h'] at hh; cases hh; exact .inr (.inr (.inr ⟨rfl, hk⟩))
  have keep : ∀ {k : Nat} {c : Array Value} {t : TypeId} {f : Nat × Nat}, W.heap[k]? = some (.cells c t f) → t ≠ 37 → t ≠ 108 → t ≠ 3 → t ≠ 109 → w3.heap[k]? = some (.cells c t f) := by
    intro k c t f hh h1 h2 h3 h4
    refine F.obj hh (fun hk => ?_)
    rcases key k c t f hk hh with e | e | e | e
    · exact h1 e
    · exact h2 e
    · exact h3 e
    · exact h4 e.1
  have keep9 : ∀ {k : Nat} {c : Array Value}, W.heap[k]? = some (.cells c 109 (0, 0)) → ¬ mv.ownBlock = some k → w3.heap[k]? = some (.cells c 109 (0, 0)) := by
    intro k c hh hn
    refine F.obj hh (fun hk => ?_)
    rcases key k c 109 _ hk hh with e | e | e | e
    · exact absurd e (by decide)
    · exact absurd e (by decide)
    · exact absurd e (by decide)
    · exact hn e.2
  have hP0 := obj_lt s.hP
  have hrvlt : ∀ k, rv.ownBlock = some k → k < W.heap.size := fun k hk => by obtain ⟨c, h, _⟩ := owns_form s.orow hk; exact obj_lt h
  refine { hV := keep s.hV (by decide) (by decide) (by decide) (by decide), hm := ?_, hC := r1, hM := r2, hN := keep s.hN (by decide) (by decide) (by decide) (by decide), hP := keep9 s.hP s.d2, orow := ?_, oc := r3, om := r4, good := ?_, d1 := ?_, d2 := ?_, d3 := s.d3, bases := ⟨s.bases.1, s.bases.2.1, s.bases.2.2.1, Nat.le_trans s.bases.2.2.2 F.size⟩, pl := s.pl, lims := s.lims }
  · obtain ⟨mc, h, r⟩ := s.hm
    exact ⟨mc, keep h (by decide) (by decide) (by decide) (by decide), r⟩
  · refine owns_fr s.orow F (fun k hk hk' => ?_)
    obtain ⟨c, h, _⟩ := owns_form s.orow hk
    rcases key k c 109 _ hk' h with e | e | e | e
    · exact absurd e (by decide)
    · exact absurd e (by decide)
    · exact absurd e (by decide)
    · exact s.d1 k hk e.2
  · intro q hq
    rcases List.mem_append.1 hq with hq | hq
    · refine (s.good q hq).fr F (fun k c t f hk hh => ?_)
      rcases key k c t f hk hh with e | e | e | e
      · subst e; decide
      · subst e; decide
      · subst e; decide
      · rw [e.1]; decide
    · simp at hq; subst hq; exact r5
  · intro k hk hk'
    rcases r6 with e | ⟨j, e, hj⟩
    · exact s.d1 k hk (e ▸ hk')
    · rw [e] at hk'; cases hk'
      have := hrvlt _ hk
      omega
  · intro hk
    rcases r6 with e | ⟨j, e, hj⟩
    · exact s.d2 (e ▸ hk)
    · rw [e] at hk; cases hk
      omega

/-- Behind the append and the store into the voter. -/
theorem Mid.next (s : Mid base V m C N M P0 L R s0 p2 s5 ps ms rv cv mv p w3) (hl : ms.length + 1 ≤ 300) {o : Obj} {g cap : Nat}
    (how : w4.ownsRow base 109 1 (.slice (some ⟨g, 0, none⟩) (L + ms.length + 1) cap) (L + ms.length + 1) (ps ++ ms ++ [p]))
    (hc : (rv = .slice (some ⟨g, 0, none⟩) (L + ms.length) cap ∧ L + ms.length + 1 ≤ cap ∧ Fr (· = g) (w3.alloc o) w4) ∨ (g = (w3.alloc o).heap.size ∧ w4.heap.size = (w3.alloc o).heap.size + 1 ∧ Fr (fun _ => False) (w3.alloc o) w4)) :
    (w4.cell? ⟨V, 3, none⟩ = some rv ∧ w4.frozen? ⟨V, 3, none⟩ = false) ∧
    Hid (St base V m C N M P0 L R s0 p2 s5 ps (ms ++ [p]) (.slice (some ⟨g, 0, none⟩) (L + ms.length + 1) cap) cv mv (w4.setCell ⟨V, 3, none⟩ (.slice (some ⟨g, 0, none⟩) (L + ms.length + 1) cap))) := by
  have F0 : Fr (fun k => rv.ownBlock = some k ∧ k = g) w3 w4 := by
    rcases hc with ⟨rfl, _, h⟩ | ⟨rfl, _, h⟩
    · exact ((Fr.refl _ w3).alloc o).trans' h (fun i _ e => ⟨by simp [Value.ownBlock, e], e⟩)
    · exact ((Fr.refl _ w3).alloc o).trans' h (fun i _ e => e.elim)
  have hg : (rv.ownBlock = some g ∧ g ≠ P0) ∨ w3.heap.size < g := by
    rcases hc with ⟨rfl, hcap, h⟩ | ⟨rfl, _, h⟩
    · refine .inl ⟨rfl, fun e => ?_⟩
      rcases s.d3 with h3 | h3
      · simp only [Value.slice.injEq] at h3; omega
      · exact h3 (by rw [← e]; rfl)
    · exact .inr (by rw [World.size_alloc]; omega)
  have sz : w3.heap.size ≤ w4.heap.size := F0.size
  have typ : ∀ k c t f, (rv.ownBlock = some k ∧ k = g) → w3.heap[k]? = some (.cells c t f) → t = 109 := by
    intro k c t f hk hh
    obtain ⟨c', h', _⟩ := owns_form s.orow hk.1
    rw [h'] at hh; cases hh; rfl
  have keep : ∀ {k : Nat} {c : Array Value} {t : TypeId} {f : Nat × Nat}, w3.heap[k]? = some (.cells c t f) → t ≠ 109 → w4.heap[k]? = some (.cells c t f) := fun hh ht => F0.obj hh (fun hk => ht (typ _ _ _ _ hk hh))
  have hV4 := keep s.hV (by decide)
  have FV : Fr (· = V) w4 (w4.setCell ⟨V, 3, none⟩ (.slice (some ⟨g, 0, none⟩) (L + ms.length + 1) cap)) := Fr.setCell (S := (· = V)) (p := ⟨V, 3, none⟩) (Fr.refl _ w4) (.inl rfl) _
  have keepV : ∀ {k : Nat} {c : Array Value} {t : TypeId} {f : Nat × Nat}, w4.heap[k]? = some (.cells c t f) → t ≠ 137 → (w4.setCell ⟨V, 3, none⟩ (.slice (some ⟨g, 0, none⟩) (L + ms.length + 1) cap)).heap[k]? = some (.cells c t f) :=
    fun hh ht => FV.obj hh (fun hk => ht (by subst hk; rw [hV4] at hh; cases hh; rfl))
  have ownV : ∀ {e : TypeId} {n : Nat} {v : Value} {xs : List Value}, e ≠ 137 → w4.ownsRow base e 1 v n xs → (w4.setCell ⟨V, 3, none⟩ (.slice (some ⟨g, 0, none⟩) (L + ms.length + 1) cap)).ownsRow base e 1 v n xs :=
    fun he h => owns_fr h FV (fun k hk e => own_ne h (e ▸ hV4) (Ne.symm he) hk)
  have hgm : ¬ mv.ownBlock = some g := by
    intro hk
    rcases hg with ⟨h, _⟩ | h
    · exact s.d1 g h hk
    · obtain ⟨c, h', _⟩ := owns_form s.om hk
      have := obj_lt h'; omega
  have hlen : (ms ++ [p]).length = ms.length + 1 := by simp
  refine ⟨⟨cellOf hV4 3, freeOf hV4 3⟩, ?_⟩
  refine show St _ _ _ _ _ _ _ _ _ _ _ _ _ _ _ _ _ _ from { hV := ?_, hm := ?_, hC := keepV (keep s.hC (by decide)) (by decide), hM := keepV (keep s.hM (by decide)) (by decide), hN := keepV (keep s.hN (by decide)) (by decide), hP := ?_, orow := ?_, oc := ?_, om := ?_, good := ?_, d1 := ?_, d2 := s.d2, d3 := ?_, bases := ⟨s.bases.1, s.bases.2.1, s.bases.2.2.1, by rw [World.size_setCell]; exact Nat.le_trans s.bases.2.2.2 sz⟩, pl := s.pl, lims := ⟨s.lims.1, by rw [hlen]; exact hl⟩ }
  · simpa using heap_setCell hV4 3 (.slice (some ⟨g, 0, none⟩) (L + ms.length + 1) cap)
  · obtain ⟨mc, h, r⟩ := s.hm
    exact ⟨mc, keepV (keep h (by decide)) (by decide), r⟩
  · refine keepV (F0.obj s.hP (fun hk => ?_)) (by decide)
    rcases hg with ⟨_, h⟩ | h
    · exact h hk.2.symm
    · have := obj_lt s.hP; omega
  · rw [hlen, ← List.append_assoc]; exact ownV (by decide) how
  · rw [hlen]
    exact ownV (by decide) (owns_fr s.oc F0 (fun k hk hk' => by
      obtain ⟨c, h, _⟩ := owns_form s.oc hk
      exact absurd (typ _ _ _ _ hk' h) (by decide)))
  · rw [hlen]
    exact ownV (by decide) (owns_fr s.om F0 (fun k hk hk' => hgm (hk'.2 ▸ hk)))
  · intro q hq
    have h1 := (s.good q (by simpa using hq)).fr F0 (fun k c t f hk hh => by rw [typ k c t f hk hh]; decide)
    exact h1.fr FV (fun k c t f hk hh => by subst hk; rw [hV4] at hh; cases hh; decide)
  · intro k hk
    have : g = k := by simpa [Value.ownBlock] using hk
    subst this; exact hgm
  · refine .inr (fun hk => ?_)
    have e : g = P0 := by simpa [Value.ownBlock] using hk
    rcases hg with ⟨_, h⟩ | h
    · exact h e
    · have := obj_lt s.hP; omega
end

end Go.Proofs.Ybulkabaq
