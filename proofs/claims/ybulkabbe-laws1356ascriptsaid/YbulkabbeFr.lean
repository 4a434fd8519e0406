import Derived.WalkKit
import Derived.WalkSpells
import Derived.Deep.LoopGhost
/- A frame: from w to w' only blocks in S (and new ones) may have turned. And append told with that frame. No program in sight. -/
namespace Go.Proofs.Ybulkabbe
open Go.RowKit

theorem hid {p : Prop} (h : p) : Hid p := h

structure Fr (S : Nat → Prop) (w w' : World) : Prop where
  os : w'.os = w.os
  tape : w'.tape = w.tape
  output : w'.output = w.output
  size : w.heap.size ≤ w'.heap.size
  block : ∀ k, k < w.heap.size → ¬ S k → w'.heap[k]? = w.heap[k]?

theorem Fr.refl (S : Nat → Prop) (w : World) : Fr S w w := ⟨rfl, rfl, rfl, Nat.le_refl _, fun _ _ _ => rfl⟩
theorem Fr.trans {S : Nat → Prop} {a b c : World} (h : Fr S a b) (k : Fr S b c) : Fr S a c :=
  ⟨k.os.trans h.os, k.tape.trans h.tape, k.output.trans h.output, Nat.le_trans h.size k.size, fun i hi hn => (k.block i (Nat.lt_of_lt_of_le hi h.size) hn).trans (h.block i hi hn)⟩
/-- The second step may also turn what the first one made. -/
theorem Fr.trans' {S S' : Nat → Prop} {a b c : World} (h : Fr S a b) (k : Fr S' b c) (hS : ∀ i, i < a.heap.size → S' i → S i) : Fr S a c :=
  ⟨k.os.trans h.os, k.tape.trans h.tape, k.output.trans h.output, Nat.le_trans h.size k.size, fun i hi hn => (k.block i (Nat.lt_of_lt_of_le hi h.size) (fun h' => hn (hS i hi h'))).trans (h.block i hi hn)⟩
theorem Fr.mono {S S' : Nat → Prop} {a b : World} (h : Fr S a b) (hS : ∀ i, i < a.heap.size → S i → S' i) : Fr S' a b :=
  ⟨h.os, h.tape, h.output, h.size, fun i hi hn => h.block i hi (fun h' => hn (hS i hi h'))⟩
theorem Fr.drew {S : Nat → Prop} {a w : World} (h : Fr S a w) : Fr S a w.drew := ⟨h.os, h.tape, h.output, h.size, h.block⟩
theorem Fr.alloc {S : Nat → Prop} {a w : World} (h : Fr S a w) (o : Obj) : Fr S a (w.alloc o) :=
  h.trans ⟨rfl, rfl, rfl, by simp, fun k hk _ => Below.heap_alloc _ _ _ hk⟩
theorem Fr.setCell {S : Nat → Prop} {a w : World} (h : Fr S a w) {p : Addr} (hp : S p.block ∨ a.heap.size ≤ p.block) (u : Value) : Fr S a (w.setCell p u) :=
  ⟨h.os, h.tape, h.output, by rw [World.size_setCell]; exact h.size, fun k hk hn => by
    rw [Below.heap_setCell _ _ _ _ (fun e => by rcases hp with hp | hp; exact hn (e ▸ hp); omega)]; exact h.block k hk hn⟩
theorem Fr.cell {S : Nat → Prop} {w w' : World} (h : Fr S w w') {p : Addr} {v : Value} (hv : w.cell? p = some v) (hn : ¬ S p.block) : w'.cell? p = some v :=
  (World.cell?_of_block (h.block p.block (World.block_lt_of_cell? _ _ hv) hn)).trans hv
theorem Fr.obj {S : Nat → Prop} {w w' : World} (h : Fr S w w') {k : Nat} {o : Obj} (hv : w.heap[k]? = some o) (hn : ¬ S k) : w'.heap[k]? = some o :=
  (h.block k (Array.getElem?_eq_some_iff.1 hv).1 hn).trans hv
theorem Fr.below {S : Nat → Prop} {B : Nat} {w w' : World} (h : Fr S w w') (hB : B ≤ w.heap.size) (hS : ∀ k, k < B → ¬ S k) : Below B w w' :=
  ⟨h.os, h.tape, h.output, h.size, fun k hk => h.block k (Nat.lt_of_lt_of_le hk hB) (hS k hk)⟩
theorem Fr.ofGrown {w w' : World} {row : Option Nat} {S : Nat → Prop} (h : w.grownBy w' row) (hS : ∀ k, row = some k → S k) : Fr S w w' :=
  ⟨h.os, h.tape, h.output, h.size, fun k hk hn => h.block k hk (fun e => hn (hS k e.symm))⟩
theorem obj_lt {w : World} {k : Nat} {o : Obj} (h : w.heap[k]? = some o) : k < w.heap.size := (Array.getElem?_eq_some_iff.1 h).1

theorem cellOf {w : World} {b : Nat} {c : Array Value} {t : TypeId} {f : Nat × Nat} (h : w.heap[b]? = some (.cells c t f)) (o : Nat) : w.cell? ⟨b, o, none⟩ = c[o]? := by
  simp [World.cell?, h]
theorem freeOf {w : World} {b : Nat} {c : Array Value} {t : TypeId} (h : w.heap[b]? = some (.cells c t (0, 0))) (o : Nat) : w.frozen? ⟨b, o, none⟩ = false := by
  simp [World.frozen?, h]
theorem heap_setCell {w : World} {b : Nat} {c : Array Value} {t : TypeId} {f : Nat × Nat} (h : w.heap[b]? = some (.cells c t f)) (o : Nat) (v : Value) :
    (w.setCell ⟨b, o, none⟩ v).heap[b]? = some (.cells (c.setIfInBounds o v) t f) := by
  simp [World.setCell, Array.getElem?_modify, h]
theorem heap_setCell_ne {w : World} {b k : Nat} {o : Nat} {v : Value} (h : k ≠ b) : (w.setCell ⟨b, o, none⟩ v).heap[k]? = w.heap[k]? := Below.heap_setCell _ _ _ _ h

/-- An owned row stays owned where its block is as it was. -/
theorem owns_fr {S : Nat → Prop} {w w' : World} {base : Nat} {e : TypeId} {size : Nat} {v : Value} {n : Nat} {xs : List Value} (h : w.ownsRow base e size v n xs) (hf : Fr S w w') (hn : ∀ k, v.ownBlock = some k → ¬ S k) : w'.ownsRow base e size v n xs := by
  refine ⟨h.1, ?_⟩
  rcases h.2 with hn' | ⟨g, cap, cur, rfl, hb, hgg, rest⟩
  · exact .inl hn'
  · exact .inr ⟨g, cap, cur, rfl, hb, hf.obj hgg (hn g rfl), rest⟩

theorem take_two {α : Type} (a b c : List α) : List.take (a.length + b.length) (a ++ (b ++ c)) = a ++ b := by
  rw [← List.append_assoc, ← List.length_append]; exact List.take_left

section
variable {P : Program} (w : World)

/-- append, whatever of two: there was room in the old row (and no other old block has turned), or a new block was made (and no old block has turned). -/
theorem run_append_fr (t ty : TypeId) (base : Nat) (e : TypeId) (i : TypeInfo) (z : Value) (size bytes : Nat) (ht : P.underlying t = some (.slice e)) (hi : P.info? e = some i) (hz : i.zero = some z)
    (hsize : i.size = size) (hby : i.bytes = bytes) (hzs : z.cells.size = size)
    (v : Value) (n : Nat) (xs : List Value) (hown : w.ownsRow base e size v n xs)
    (ad : Addr) (m c : Nat) (news : List Value) (hl : news.length = m * size) (hnews : ∀ j u, news[j]? = some u → w.cell? (ad.add j) = some u) (h1 : ∀ u ∈ news, u.oneCell' = true)
    (hm : 0 < m) (h63 : n + m ≤ maxLen) (hbytes : (n + m) * bytes ≤ 140737488355328) (hbase : base ≤ w.heap.size) :
    ∃ g cap w', (Builtin.append_ #[t, t] ty #[v, .slice (some ad) m c]).run P w = .ok (.slice (some ⟨g, 0, none⟩) (n + m) cap) w' ∧
      w'.ownsRow base e size (.slice (some ⟨g, 0, none⟩) (n + m) cap) (n + m) (xs ++ news) ∧
      ((v = .slice (some ⟨g, 0, none⟩) n cap ∧ n + m ≤ cap ∧ Fr (· = g) w w') ∨ (g = w.heap.size ∧ w'.heap.size = w.heap.size + 1 ∧ Fr (fun _ => False) w w')) := by
  subst hsize
  subst hby
  have hlen : (xs ++ news).length = (n + m) * i.size := by rw [List.length_append, hown.1, hl, Nat.add_mul]
  have h63' : n + m ≤ 9223372036854775807 := by simp only [maxLen] at h63; omega
  have grown : ∀ old, (w.drew.alloc (.cells (xs.toArray ++ news.toArray ++ Builtin.zeroCells z.cells (grownCap w (n + m) old e - (n + m))) e)).ownsRow base e i.size
        (.slice (some ⟨w.heap.size, 0, none⟩) (n + m) (grownCap w (n + m) old e)) (n + m) (xs ++ news) := by
    intro old
    have hge := grownCap_ge w (n + m) old e
    refine ⟨hlen, .inr ⟨w.heap.size, _, _, rfl, hbase, heap_alloc_new w.drew _, hge, grownCap_le_maxLen w (n + m) old e h63, ?_, ?_⟩⟩
    · rw [Array.size_append, Array.size_append, size_zeroCells, hzs]
      simp only [List.size_toArray]
      rw [hown.1, hl, ← Nat.add_mul, ← Nat.add_mul]
      congr 1; omega
    · rw [← hlen]; simp [take_two]
  have hfr : ∀ o, Fr (fun _ => False) w (w.drew.alloc o) := fun o => (Fr.refl _ w).drew.alloc o
  rcases hown.2 with ⟨rfl, rfl⟩ | ⟨g, cap, cur, rfl, hbg, hg, hnc, hcm, hcs, htake⟩
  · have hx : xs = [] := List.eq_nil_of_length_eq_zero (by simpa using hown.1)
    subst hx
    have hr := run_append_nil (P := P) w t ty e i z ht hi hz ad m c news hl hnews hm (by omega) (by simp only [Nat.zero_add] at hbytes; omega)
    have hg := grown 0
    simp only [Nat.zero_add, List.nil_append, Array.empty_append] at hg ⊢
    exact ⟨_, _, _, hr, hg, .inr ⟨rfl, by simp, hfr _⟩⟩
  · by_cases hroom : n + m ≤ cap
    · have hfit : n * i.size + news.length ≤ cur.size := by rw [hl, hcs, ← Nat.add_mul]; exact Nat.mul_le_mul_right _ hroom
      have hr := run_append_room (P := P) w t ty e i ht hi g n cap cur hg ad m c news hl hnews h1 hroom hfit
      refine ⟨g, cap, _, hr, ⟨hlen, .inr ⟨g, cap, _, rfl, hbg, setRow_heap w g cur _ e _ hg, hroom, hcm, ?_, ?_⟩⟩, .inl ⟨rfl, hroom, ⟨rfl, rfl, rfl, by simp, fun k _ hk => setRow_other w g k _ hk⟩⟩⟩
      · simp only [List.size_toArray, List.length_append, List.length_take, List.length_drop, Array.length_toList]
        omega
      · rw [htake, ← hlen]; simp [take_two]
    · have holds := hown.cells (g := g) rfl
      have hr := run_append_grow (P := P) w t ty e i z ht hi hz ⟨g, 0, none⟩ n cap xs hown.1 holds ad m c news hl hnews (by omega) (by omega) (growslice_fits (by omega) hbytes)
      exact ⟨_, _, _, hr, grown cap, .inr ⟨rfl, by simp, hfr _⟩⟩

theorem wp_append_fr {o : Oper} {a : Act} {K : Act → World → Prop} {Q : Exit → Act → World → Prop} (s x : Operand) (t : TypeId)
    (ho : o.op = .call { callee := .builtin .append, args := #[s, x], argTypes := #[t, t] })
    (base : Nat) (e : TypeId) (i : TypeInfo) (z : Value) (size bytes : Nat) (ht : P.underlying t = some (.slice e)) (hi : P.info? e = some i) (hz : i.zero = some z)
    (hsize : i.size = size) (hby : i.bytes = bytes) (hzs : z.cells.size = size)
    (v : Value) (n : Nat) (xs : List Value) (hs : a.eval s = v) (hown : w.ownsRow base e size v n xs)
    (ad : Addr) (m c : Nat) (news : List Value) (hx : a.eval x = .slice (some ad) m c) (hl : news.length = m * size) (hnews : ∀ j u, news[j]? = some u → w.cell? (ad.add j) = some u) (h1 : ∀ u ∈ news, u.oneCell' = true)
    (hm : 0 < m) (h63 : n + m ≤ maxLen) (hbytes : (n + m) * bytes ≤ 140737488355328) (hbase : base ≤ w.heap.size)
    (h : ∀ g cap w', w'.ownsRow base e size (.slice (some ⟨g, 0, none⟩) (n + m) cap) (n + m) (xs ++ news) →
      ((v = .slice (some ⟨g, 0, none⟩) n cap ∧ n + m ≤ cap ∧ Fr (· = g) w w') ∨ (g = w.heap.size ∧ w'.heap.size = w.heap.size + 1 ∧ Fr (fun _ => False) w w')) → K (a.put o.dst (.slice (some ⟨g, 0, none⟩) (n + m) cap)) w') : o.wp P a w K Q := by
  obtain ⟨g, cap, w', hr, h2, h3⟩ := run_append_fr (P := P) w t o.type base e i z size bytes ht hi hz hsize hby hzs v n xs hown ad m c news hl hnews h1 hm h63 hbytes hbase
  unfold Oper.wp execOp
  simp only [ho, resolve, invoke, builtin, Sem.run_bind, Sem.run_pure, Result.andThen_ok, List.map_toArray, List.map_cons, List.map_nil, hs, hx, hr]
  exact h g cap w' h2 h3

theorem wpList_append_fr {ops : Array Oper} {rest : List Oper} {o : Oper} {a : Act} {Q : Exit → Act → World → Prop} (hgd : o.guard = none) (s x : Operand) (t : TypeId)
    (ho : o.op = .call { callee := .builtin .append, args := #[s, x], argTypes := #[t, t] })
    (base : Nat) (e : TypeId) (i : TypeInfo) (z : Value) (size bytes : Nat) (ht : P.underlying t = some (.slice e)) (hi : P.info? e = some i) (hz : i.zero = some z)
    (hsize : i.size = size) (hby : i.bytes = bytes) (hzs : z.cells.size = size)
    (v : Value) (n : Nat) (xs : List Value) (hs : a.eval s = v) (hown : w.ownsRow base e size v n xs)
    (ad : Addr) (m c : Nat) (news : List Value) (hx : a.eval x = .slice (some ad) m c) (hl : news.length = m * size) (hnews : ∀ j u, news[j]? = some u → w.cell? (ad.add j) = some u) (h1 : ∀ u ∈ news, u.oneCell' = true)
    (hm : 0 < m) (h63 : n + m ≤ maxLen) (hbytes : (n + m) * bytes ≤ 140737488355328) (hbase : base ≤ w.heap.size)
    (h : ∀ g cap w', w'.ownsRow base e size (.slice (some ⟨g, 0, none⟩) (n + m) cap) (n + m) (xs ++ news) →
      ((v = .slice (some ⟨g, 0, none⟩) n cap ∧ n + m ≤ cap ∧ Fr (· = g) w w') ∨ (g = w.heap.size ∧ w'.heap.size = w.heap.size + 1 ∧ Fr (fun _ => False) w w')) → wpList P ops Q rest (a.put o.dst (.slice (some ⟨g, 0, none⟩) (n + m) cap)) w') : wpList P ops Q (o :: rest) a w :=
  wpList_plain hgd fun _ hK => wp_append_fr w s x t ho base e i z size bytes ht hi hz hsize hby hzs v n xs hs hown ad m c news hx hl hnews h1 hm h63 hbytes hbase fun g cap w' h2 h3 => hK _ _ (h g cap w' h2 h3)
end


/-- What the append's two cases say of the world before the one-element slice was laid. -/
theorem app_case {w w1 : World} {o : Obj} {v : Value} {g n cap m : Nat} (h : (v = .slice (some ⟨g, 0, none⟩) n cap ∧ n + m ≤ cap ∧ Fr (· = g) (w.alloc o) w1) ∨ (g = (w.alloc o).heap.size ∧ w1.heap.size = (w.alloc o).heap.size + 1 ∧ Fr (fun _ => False) (w.alloc o) w1)) :
    Fr (fun k => v.ownBlock = some k) w w1 ∧ w.heap.size < w1.heap.size ∧ (v.ownBlock = some g ∨ (w.heap.size < g ∧ Fr (fun _ => False) w w1)) := by
  rcases h with ⟨rfl, _, h⟩ | ⟨rfl, _, h⟩
  · have := h.size
    rw [World.size_alloc] at this
    refine ⟨((Fr.refl _ w).alloc o).trans' h (fun i _ e => by simp [Value.ownBlock, e]), by omega, .inl rfl⟩
  · have := h.size
    rw [World.size_alloc] at this
    refine ⟨((Fr.refl _ w).alloc o).trans' h (fun i _ e => e.elim), by omega, .inr ⟨by rw [World.size_alloc]; omega, ((Fr.refl _ w).alloc o).trans' h (fun i _ e => e.elim)⟩⟩

theorem cell_one_at {W : World} {x : Value} {t : TypeId} {B : Nat} (hB : W.heap.size = B) : ∀ j u, [x][j]? = some u → (W.alloc (.cells #[x] t)).cell? ((⟨B, 0, none⟩ : Addr).add j) = some u := by
  subst hB; exact cell_one_new _ _ _

theorem owns_form {w : World} {base : Nat} {e : TypeId} {size : Nat} {v : Value} {n : Nat} {xs : List Value} (h : w.ownsRow base e size v n xs) {k : Nat} (hk : v.ownBlock = some k) : ∃ c, w.heap[k]? = some (.cells c e (0, 0)) ∧ base ≤ k := by
  rcases h.2 with ⟨rfl, _⟩ | ⟨g, cap, cur, rfl, hb, hg, _⟩
  · cases hk
  · simp only [Value.ownBlock, Option.some.injEq] at hk
    subst hk
    exact ⟨cur, hg, hb⟩

end Go.Proofs.Ybulkabbe
