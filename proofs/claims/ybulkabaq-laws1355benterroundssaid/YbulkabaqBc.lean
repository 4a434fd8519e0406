import Derived.Test.YbulkabaqBb
namespace Go.Proofs.Ybulkabaq
open Go.RowKit
set_option linter.unusedVariables false
attribute [local go_sem] eql26 neq26

theorem Yba.info3 : (Yba.prog.info? 3).map (fun i => (i.zero, i.size, i.bytes)) = some (some (.int .i64 0), 1, 8) := by kernel_rfl
theorem Yba.info109 : (Yba.prog.info? 109).map (fun i => (i.zero, i.size, i.bytes)) = some (some (.pointer none), 1, 8) := by kernel_rfl

theorem z152 : Yba.zeroCells122[152]? = some (.bool false) := by kernel_rfl
theorem z153 : Yba.zeroCells122[153]? = some (.slice none 0 0) := by kernel_rfl
theorem z154 : Yba.zeroCells122[154]? = some (.int .i64 0) := by kernel_rfl

/-- A party as the law makes it: a pointer to a block of a Party, whose member is a zero multi.Member. -/
def GoodParty (w : World) (v : Value) : Prop := ∃ (b mb : Nat) (pc z : Array Value), v = .pointer (some ⟨b, 0, none⟩) ∧ w.heap[b]? = some (.cells pc 132 (0, 0)) ∧ pc[9]? = some (.pointer (some ⟨mb, 0, none⟩)) ∧
  w.heap[mb]? = some (.cells z 122 (0, 0)) ∧ z[152]? = some (.bool false) ∧ z[153]? = some (.slice none 0 0) ∧ z[154]? = some (.int .i64 0)

theorem GoodParty.fr {S : Nat → Prop} {w w' : World} {v : Value} (h : GoodParty w v) (hf : Fr S w w') (hS : ∀ k c t f, S k → w.heap[k]? = some (.cells c t f) → t ≠ 132 ∧ t ≠ 122) : GoodParty w' v := by
  obtain ⟨b, mb, pc, z, rfl, h1, h2, h3, h4⟩ := h
  exact ⟨b, mb, pc, z, rfl, hf.obj h1 (fun h => (hS _ _ _ _ h h1).1 rfl), h2, hf.obj h3 (fun h => (hS _ _ _ _ h h3).2 rfl), h4⟩


theorem own_ne {w : World} {base : Nat} {e t : TypeId} {size : Nat} {v : Value} {n : Nat} {xs : List Value} {k : Nat} {c : Array Value} {f : Nat × Nat} (h : w.ownsRow base e size v n xs) (hk : w.heap[k]? = some (.cells c t f)) (ht : t ≠ e) : ¬ v.ownBlock = some k := by
  intro e
  obtain ⟨c', h', _⟩ := owns_form h e
  rw [h'] at hk
  cases hk
  exact ht rfl

/-- Behind the first append of the closure. -/
theorem new_mid {w w1 : World} {base C M n : Nat} {cv mv : Value} {xs ms : List Value} (hC : w.heap[C]? = some (.cells #[cv] 37 (0, 0))) (hM : w.heap[M]? = some (.cells #[mv] 108 (0, 0)))
    (hoc : w.ownsRow base 3 1 cv n xs) (hom : w.ownsRow base 109 1 mv n ms) (F1 : Fr (fun k => cv.ownBlock = some k) w w1) :
    w1.heap[C]? = some (.cells #[cv] 37 (0, 0)) ∧ w1.heap[M]? = some (.cells #[mv] 108 (0, 0)) ∧ w1.ownsRow base 109 1 mv n ms ∧ w1.cell? ⟨C, 0, none⟩ = some cv ∧ w1.frozen? ⟨C, 0, none⟩ = false ∧
    (∀ v o1 o2, (((w1.setCell ⟨C, 0, none⟩ v).alloc o1).alloc o2).cell? ⟨M, 0, none⟩ = some mv) ∧
    (∀ v o1 o2 o3, ((((w1.setCell ⟨C, 0, none⟩ v).alloc o1).alloc o2).alloc o3).ownsRow base 109 1 mv n ms) := by
  have hC1 := F1.obj hC (own_ne hoc hC (by decide))
  have hM1 := F1.obj hM (own_ne hoc hM (by decide))
  have hne : M ≠ C := fun e => by rw [e, hC1] at hM1; cases hM1
  have how : w1.ownsRow base 109 1 mv n ms := owns_fr hom F1 (fun k hk hk' => by
    obtain ⟨c1, h1, _⟩ := owns_form hom hk
    exact own_ne hoc h1 (by decide) hk')
  refine ⟨hC1, hM1, how, cellOf hC1 0, freeOf hC1 0, fun v o1 o2 => ?_, fun v o1 o2 o3 => ?_⟩
  · have F : Fr (· = C) w1 (((w1.setCell ⟨C, 0, none⟩ v).alloc o1).alloc o2) := ((Fr.setCell (S := (· = C)) (p := ⟨C, 0, none⟩) (Fr.refl _ w1) (.inl rfl) v).alloc o1).alloc o2
    exact cellOf (F.obj hM1 hne) 0
  · have F : Fr (· = C) w1 ((((w1.setCell ⟨C, 0, none⟩ v).alloc o1).alloc o2).alloc o3) := (((Fr.setCell (S := (· = C)) (p := ⟨C, 0, none⟩) (Fr.refl _ w1) (.inl rfl) v).alloc o1).alloc o2).alloc o3
    exact owns_fr how F (fun k hk e => own_ne how (e ▸ hC1) (by decide) hk)


/-- Behind the second append: its store's facts, and all that the contract says of the world behind the store. -/
theorem new_fin {w w1 w2 : World} {base C M n g1 cap1 g2 cap2 : Nat} {cv mv : Value} {R : Int} {ms : List Value} {pc : Array Value} (hbase : base ≤ w.heap.size) (sz1 : w.heap.size < w1.heap.size)
    (X : w1.heap[C]? = some (.cells #[cv] 37 (0, 0)) ∧ w1.heap[M]? = some (.cells #[mv] 108 (0, 0)) ∧ (cv.ownBlock = some g1 ∨ (w.heap.size < g1 ∧ Fr (fun _ => False) w w1)) ∧ Fr (fun k => cv.ownBlock = some k) w w1)
    (hoc : w.ownsRow base 3 1 cv n (List.replicate n (.int .i64 R))) (hom : w.ownsRow base 109 1 mv n ms) (hom1 : w1.ownsRow base 109 1 mv n ms)
    (hC : w.heap[C]? = some (.cells #[cv] 37 (0, 0))) (hM : w.heap[M]? = some (.cells #[mv] 108 (0, 0)))
    (how1 : w1.ownsRow base 3 1 (.slice (some ⟨g1, 0, none⟩) (n + 1) cap1) (n + 1) (List.replicate n (.int .i64 R) ++ [.int .i64 R]))
    (hpc : pc[9]? = some (.pointer (some ⟨w1.heap.size, 0, none⟩)))
    (F2 : Fr (fun k => mv.ownBlock = some k) (((w1.setCell ⟨C, 0, none⟩ (.slice (some ⟨g1, 0, none⟩) (n + 1) cap1)).alloc (.cells Yba.zeroCells122 122)).alloc (.cells pc 132)) w2)
    (sz2 : (((w1.setCell ⟨C, 0, none⟩ (.slice (some ⟨g1, 0, none⟩) (n + 1) cap1)).alloc (.cells Yba.zeroCells122 122)).alloc (.cells pc 132)).heap.size < w2.heap.size)
    (lie2 : mv.ownBlock = some g2 ∨ ((((w1.setCell ⟨C, 0, none⟩ (.slice (some ⟨g1, 0, none⟩) (n + 1) cap1)).alloc (.cells Yba.zeroCells122 122)).alloc (.cells pc 132)).heap.size < g2 ∧ Fr (fun _ => False) (((w1.setCell ⟨C, 0, none⟩ (.slice (some ⟨g1, 0, none⟩) (n + 1) cap1)).alloc (.cells Yba.zeroCells122 122)).alloc (.cells pc 132)) w2))
    (how2 : w2.ownsRow base 109 1 (.slice (some ⟨g2, 0, none⟩) (n + 1) cap2) (n + 1) (ms ++ [.pointer (some ⟨w1.heap.size + 1, 0, none⟩)])) :
    (w2.cell? ⟨M, 0, none⟩ = some mv ∧ w2.frozen? ⟨M, 0, none⟩ = false) ∧
    Hid (∃ cv' mv', (w2.setCell ⟨M, 0, none⟩ (.slice (some ⟨g2, 0, none⟩) (n + 1) cap2)).heap[C]? = some (.cells #[cv'] 37 (0, 0)) ∧ (w2.setCell ⟨M, 0, none⟩ (.slice (some ⟨g2, 0, none⟩) (n + 1) cap2)).heap[M]? = some (.cells #[mv'] 108 (0, 0)) ∧
        (w2.setCell ⟨M, 0, none⟩ (.slice (some ⟨g2, 0, none⟩) (n + 1) cap2)).ownsRow base 3 1 cv' (n + 1) (List.replicate (n + 1) (.int .i64 R)) ∧ (w2.setCell ⟨M, 0, none⟩ (.slice (some ⟨g2, 0, none⟩) (n + 1) cap2)).ownsRow base 109 1 mv' (n + 1) (ms ++ [.pointer (some ⟨w1.heap.size + 1, 0, none⟩)]) ∧
        GoodParty (w2.setCell ⟨M, 0, none⟩ (.slice (some ⟨g2, 0, none⟩) (n + 1) cap2)) (.pointer (some ⟨w1.heap.size + 1, 0, none⟩)) ∧
        (mv'.ownBlock = mv.ownBlock ∨ ∃ j, mv'.ownBlock = some j ∧ w.heap.size ≤ j) ∧ Fr (fun k => k = C ∨ k = M ∨ cv.ownBlock = some k ∨ mv.ownBlock = some k) w (w2.setCell ⟨M, 0, none⟩ (.slice (some ⟨g2, 0, none⟩) (n + 1) cap2))) := by
  obtain ⟨hC1, hM1, lie1, F1⟩ := X
  generalize hW : ((w1.setCell ⟨C, 0, none⟩ (.slice (some ⟨g1, 0, none⟩) (n + 1) cap1)).alloc (.cells Yba.zeroCells122 122)).alloc (.cells pc 132) = W at *
  have hne : M ≠ C := fun e => by rw [e, hC1] at hM1; cases hM1
  have FW : Fr (· = C) w1 W := by rw [← hW]; exact ((Fr.setCell (S := (· = C)) (p := ⟨C, 0, none⟩) (Fr.refl _ w1) (.inl rfl) _).alloc _).alloc _
  have sW : W.heap.size = w1.heap.size + 2 := by rw [← hW]; simp
  have hMW := FW.obj hM1 hne
  have homW : W.ownsRow base 109 1 mv n ms := owns_fr hom1 FW (fun k hk e => own_ne hom1 (e ▸ hC1) (by decide) hk)
  have hM2 := F2.obj hMW (own_ne homW hMW (by decide))
  have hCW : W.heap[C]? = some (.cells #[.slice (some ⟨g1, 0, none⟩) (n + 1) cap1] 37 (0, 0)) := by
    have h := heap_setCell hC1 0 (.slice (some ⟨g1, 0, none⟩) (n + 1) cap1)
    rw [← hW, Below.heap_alloc _ _ _ (by have := obj_lt hC1; simp; omega), Below.heap_alloc _ _ _ (by have := obj_lt hC1; simp; omega)]
    simpa using h
  have hC2 := F2.obj hCW (own_ne homW hCW (by decide))
  have hp1 : W.heap[w1.heap.size + 1]? = some (.cells pc 132 (0, 0)) := by
    rw [← hW]; exact (by simpa using heap_alloc_new ((w1.setCell ⟨C, 0, none⟩ (.slice (some ⟨g1, 0, none⟩) (n + 1) cap1)).alloc (.cells Yba.zeroCells122 122)) (.cells pc 132))
  have hp0 : W.heap[w1.heap.size]? = some (.cells Yba.zeroCells122 122 (0, 0)) := by
    rw [← hW, Below.heap_alloc _ _ _ (by simp)]; exact (by simpa using heap_alloc_new (w1.setCell ⟨C, 0, none⟩ (.slice (some ⟨g1, 0, none⟩) (n + 1) cap1)) (.cells Yba.zeroCells122 122))
  have hgW : GoodParty W (.pointer (some ⟨w1.heap.size + 1, 0, none⟩)) := ⟨_, _, pc, _, rfl, hp1, hpc, hp0, z152, z153, z154⟩
  have FM : Fr (· = M) w2 (w2.setCell ⟨M, 0, none⟩ (.slice (some ⟨g2, 0, none⟩) (n + 1) cap2)) := Fr.setCell (S := (· = M)) (p := ⟨M, 0, none⟩) (Fr.refl _ w2) (.inl rfl) _
  have hg2 : GoodParty w2 (.pointer (some ⟨w1.heap.size + 1, 0, none⟩)) := hgW.fr F2 (fun k c t f hk hh => by
    have := fun ht => own_ne homW hh ht hk
    exact ⟨fun e => this (by subst e; decide), fun e => this (by subst e; decide)⟩)
  refine ⟨⟨cellOf hM2 0, freeOf hM2 0⟩, .slice (some ⟨g1, 0, none⟩) (n + 1) cap1, .slice (some ⟨g2, 0, none⟩) (n + 1) cap2, FM.obj hC2 (Ne.symm hne), ?_, ?_, ?_, ?_, ?_, ?_⟩
  · simpa using heap_setCell hM2 0 (.slice (some ⟨g2, 0, none⟩) (n + 1) cap2)
  · have h1 : W.ownsRow base 3 1 (.slice (some ⟨g1, 0, none⟩) (n + 1) cap1) (n + 1) (List.replicate (n + 1) (.int .i64 R)) := by
      rw [List.replicate_succ']
      exact owns_fr how1 FW (fun k hk e => own_ne how1 (e ▸ hC1) (by decide) hk)
    have h2 := owns_fr h1 F2 (fun k hk hk' => by
      obtain ⟨c1, h1', _⟩ := owns_form h1 hk
      exact own_ne homW h1' (by decide) hk')
    exact owns_fr h2 FM (fun k hk e => own_ne h2 (e ▸ hM2) (by decide) hk)
  · exact owns_fr how2 FM (fun k hk e => own_ne how2 (e ▸ hM2) (by decide) hk)
  · exact hg2.fr FM (fun k c t f hk hh => by
      subst hk; rw [hM2] at hh; cases hh; decide)
  · rcases lie2 with h | ⟨h, _⟩
    · exact .inl h.symm
    · exact .inr ⟨g2, rfl, by omega⟩
  · have F12 : Fr (fun k => k = C ∨ k = M ∨ cv.ownBlock = some k ∨ mv.ownBlock = some k) w W := (F1.mono (fun i _ h => .inr (.inr (.inl h)))).trans' FW (fun i _ h => .inl h)
    exact (F12.trans' F2 (fun i _ h => .inr (.inr (.inr h)))).trans' FM (fun i _ h => .inr (.inl h))

set_option maxRecDepth 100000 in
set_option maxHeartbeats 400000 in
theorem new_any (w : World) (base C N M : Nat) (R : Int) (n : Nat) (hn : n ≤ 300) (cv mv : Value) (ms : List Value)
    (hC : w.heap[C]? = some (.cells #[cv] 37 (0, 0))) (hM : w.heap[M]? = some (.cells #[mv] 108 (0, 0)))
    (hoc : w.ownsRow base 3 1 cv n (List.replicate n (.int .i64 R))) (hom : w.ownsRow base 109 1 mv n ms) (hbase : base ≤ w.heap.size) :
    Calls Yba.prog 11 #[.int .i64 R, .slice none 0 0, .pointer (some ⟨C, 0, none⟩), .pointer (some ⟨N, 0, none⟩), .pointer (some ⟨M, 0, none⟩)] w fun e w' =>
      ∃ p cv' mv', e = .returned (.tuple #[p, .nilIface]) ∧ w'.heap[C]? = some (.cells #[cv'] 37 (0, 0)) ∧ w'.heap[M]? = some (.cells #[mv'] 108 (0, 0)) ∧
        w'.ownsRow base 3 1 cv' (n + 1) (List.replicate (n + 1) (.int .i64 R)) ∧ w'.ownsRow base 109 1 mv' (n + 1) (ms ++ [p]) ∧ GoodParty w' p ∧
        (mv'.ownBlock = mv.ownBlock ∨ ∃ j, mv'.ownBlock = some j ∧ w.heap.size ≤ j) ∧ Fr (fun k => k = C ∨ k = M ∨ cv.ownBlock = some k ∨ mv.ownBlock = some k) w w' := by
  obtain ⟨i3, hi, hz0, hz1, hz2⟩ := info_parts Yba.info3
  obtain ⟨i9, hj, hy0, hy1, hy2⟩ := info_parts Yba.info109
  have c0 : w.cell? ⟨C, 0, none⟩ = some cv := cellOf hC 0
  have HC : Hid (C < w.heap.size) := obj_lt hC
  have c0' : ∀ o, (w.alloc o).cell? ⟨C, 0, none⟩ = some cv := fun o => (World.cell?_alloc_lt _ _ _ HC.out).trans c0
  have HoC := hid hC
  have HoM := hid hM
  clear hC hM
  go_enter Yba.func11, Yba.ntmps11
  go_wp2_with (first
    | (at_builtin; refine wpList_append_fr _ rfl (.tmp 10) (.tmp 12) 37 rfl base 3 i3 (.int .i64 0) 1 8 Yba.underlying37 hi hz0 hz1 hz2 rfl cv n (List.replicate n (.int .i64 R)) (by rfl) (hoc.alloc _) ⟨w.heap.size, 0, none⟩ 1 1 [.int .i64 R] (by rfl) rfl (cell_one_new _ _ _) (by simp [Value.oneCell']) (by omega) (by unfold maxLen; omega) (by omega) (by simp; omega) ?_; intro g1 cap1 w1 how1 hcase1; obtain ⟨F1, sz1, lie1⟩ := app_case hcase1; obtain ⟨hC1, hM1, hom1, a1, a2, a3, a4⟩ := new_mid HoC.out HoM.out hoc hom F1; have X1 := hid (And.intro hC1 (And.intro hM1 (And.intro lie1 F1))); clear lie1 hcase1 hC1 hM1 F1)
    | (at_builtin; refine wpList_append_fr _ rfl (.tmp 20) (.tmp 22) 108 rfl base 109 i9 (.pointer none) 1 8 Yba.underlying108 hj hy0 hy1 hy2 rfl mv n ms (by rfl) (a4 _ _ _ _) ⟨w1.heap.size + 1 + 1, 0, none⟩ 1 1 [.pointer (some ⟨w1.heap.size + 1, 0, none⟩)] (by rfl) rfl (cell_one_at (by simp)) (by simp [Value.oneCell']) (by omega) (by unfold maxLen; omega) (by omega) (by simp; omega) ?_; intro g2 cap2 w2 how2 hcase2; obtain ⟨F2, sz2, lie2⟩ := app_case hcase2; obtain ⟨⟨b1, b2⟩, X2⟩ := new_fin hbase sz1 X1.out hoc hom hom1 HoC.out HoM.out how1 rfl F2 sz2 lie2 how2; clear lie2 hcase2 F2))
  go_ret2
  obtain ⟨cv', mv', r⟩ := X2.out
  exact ⟨_, cv', mv', rfl, r⟩

end Go.Proofs.Ybulkabaq
