import Derived.Test.YbulkabcgFmtFr
/- A map keyed by strings, whatever its elements: what a look-up finds, what a store leaves. No program in sight. -/
namespace Go.Proofs.YbulkabcgFmt
open Go.RowKit Go.MapKept

/-- The keys are strings. -/
def SKeys (es : Array MapEntry) : Prop := ∀ x ∈ es.toList, IsKey .string x.key

def keyIs (s : ByteArray) : Value → Bool
  | .string t => t == s
  | _ => false
theorem keyIs_iff (s : ByteArray) (v : Value) : keyIs s v = true ↔ v = .string s := by
  cases v <;> simp [keyIs, bytes_beq]
theorem keyIs_not {s : ByteArray} {v : Value} (h : ¬ v = .string s) : ¬ keyIs s v = true := fun h' => h ((keyIs_iff s v).1 h')

/-- The entry that a look-up of s finds. -/
def sfind (s : ByteArray) : List MapEntry → Option Value
  | [] => none
  | e :: es => if keyIs s e.key then some e.val else sfind s es

theorem sfind_none {s : ByteArray} : ∀ {l : List MapEntry}, (∀ x ∈ l, x.key ≠ .string s) → sfind s l = none
  | [], _ => rfl
  | e :: es, h => by
    rw [sfind, if_neg (keyIs_not (h e (.head _)))]
    exact sfind_none (fun x hx => h x (.tail _ hx))

theorem findNow_sfind (s : ByteArray) : ∀ (l : List MapEntry) (i : Nat), (∀ x ∈ l, IsKey .string x.key) →
    (Instr.findNow .string (.string s) l i = some none ∧ sfind s l = none ∧ ∀ x ∈ l, x.key ≠ .string s) ∨
    ∃ j e, Instr.findNow .string (.string s) l i = some (some (i + j, e.val)) ∧ l[j]? = some e ∧ e.key = .string s ∧ sfind s l = some e.val ∧ ∀ k x, k < j → l[k]? = some x → x.key ≠ .string s
  | [], _, _ => .inl ⟨rfl, rfl, by simp⟩
  | e :: es, i, h => by
    obtain ⟨r, hr, hiff⟩ := sameNow_of_keys (d := .string) (a := .string s) (b := e.key) (by simp [IsKey]) (h e (.head _))
    cases r with
    | true =>
      have hk : e.key = .string s := (hiff.1 rfl).symm
      exact .inr ⟨0, e, by simp [Instr.findNow, hr], rfl, hk, by rw [sfind, if_pos ((keyIs_iff _ _).2 hk)], fun k x hk' => by omega⟩
    | false =>
      have hne : e.key ≠ .string s := fun q => by have := hiff.2 q.symm; cases this
      rcases findNow_sfind s es (i + 1) (fun x hx => h x (.tail _ hx)) with ⟨h1, h2, h3⟩ | ⟨j, e', h1, h2, h3, h4, h5⟩
      · exact .inl ⟨by simp [Instr.findNow, hr, h1], by rw [sfind, if_neg (keyIs_not hne)]; exact h2, fun x hx => by
          cases hx with
          | head => exact hne
          | tail _ hx => exact h3 x hx⟩
      · refine .inr ⟨j + 1, e', by simp [Instr.findNow, hr, h1]; omega, by simpa using h2, h3, by rw [sfind, if_neg (keyIs_not hne)]; exact h4, fun k x hk hx => ?_⟩
        cases k with
        | zero => simp at hx; subst hx; exact hne
        | succ k => exact h5 k x (by omega) (by simpa using hx)

theorem keyIs_self (s : ByteArray) : keyIs s (.string s) = true := (keyIs_iff _ _).2 rfl
theorem keyIs_ne {s s' : ByteArray} (h : ¬ s' = s) : keyIs s' (.string s) = false := by
  cases hh : keyIs s' (.string s) with
  | false => rfl
  | true => exact absurd ((keyIs_iff _ _).1 hh) (fun q => h (by cases q; rfl))

theorem sfind_push (s s' : ByteArray) (v : Value) (b : Nat) : ∀ (l : List MapEntry), sfind s l = none → sfind s' (l ++ [{ key := .string s, val := v, born := b }]) = if s' = s then some v else sfind s' l
  | [], _ => by
    by_cases h : s' = s
    · subst h; simp [sfind, keyIs_self]
    · simp [sfind, h, keyIs_ne h]
  | e :: es, h => by
    rw [sfind] at h
    by_cases he' : keyIs s e.key = true
    · rw [if_pos he'] at h; cases h
    · rw [if_neg he'] at h
      have ih := sfind_push s s' v b es h
      simp only [List.cons_append, sfind]
      by_cases he : keyIs s' e.key = true
      · have hne : ¬ s' = s := fun q => he' (q ▸ he)
        simp [he, hne]
      · simp only [he]
        exact ih

theorem sfind_set (s s' : ByteArray) (v : Value) : ∀ (l : List MapEntry) (j : Nat) (e : MapEntry), l[j]? = some e → e.key = .string s → (∀ k x, k < j → l[k]? = some x → x.key ≠ .string s) →
    sfind s' (l.set j { e with key := .string s, val := v }) = if s' = s then some v else sfind s' l
  | [], _, _, h, _, _ => by simp at h
  | x :: l, 0, e, h, hk, _ => by
    simp at h; subst h
    simp only [List.set_cons_zero, sfind]
    by_cases h' : s' = s
    · subst h'; simp [keyIs_self]
    · simp [h', hk, keyIs_ne h']
  | x :: l, j + 1, e, h, hk, hlt => by
    have hx : x.key ≠ .string s := hlt 0 x (by omega) rfl
    simp only [List.set_cons_succ, sfind]
    by_cases he : keyIs s' x.key = true
    · have : ¬ s' = s := fun q => hx (by rw [(keyIs_iff _ _).1 he, q])
      simp [he, this]
    · simp only [he]
      exact sfind_set s s' v l j e (by simpa using h) hk (fun k y hk' hy => hlt (k + 1) y (by omega) (by simpa using hy))

/-- The world whose map at block b holds these entries. -/
def setMap (w : World) (b : Nat) (es : Array MapEntry) (clock : Nat) : World := { w with heap := w.heap.setIfInBounds b (.map es clock) }

theorem setMap_fr (w : World) (b : Nat) (es : Array MapEntry) (clock : Nat) : Fr (· = b) w (setMap w b es clock) :=
  ⟨rfl, rfl, rfl, by simp [setMap], fun k hk hn => by simp [setMap, Ne.symm hn]⟩
theorem setMap_heap {w : World} {b : Nat} {o : Obj} (h : w.heap[b]? = some o) (es : Array MapEntry) (clock : Nat) : (setMap w b es clock).heap[b]? = some (.map es clock) := (heap_set h).1

section
variable {P : Program} {mt kt et : TypeId}

theorem run_lookup_s (hm : P.underlying mt = some (.map kt et)) (hd : P.underlying kt = some .string) {w : World} {b : Nat} {es : Array MapEntry} {clock : Nat} (hb : w.heap[b]? = some (.map es clock)) (hk : SKeys es) {z : Value} (hz : (zeroValue et).run P w = .ok z w) (s : ByteArray) :
    (Instr.lookup mt (.map (some b)) (.string s) false).run P w = .ok ((sfind s es.toList).getD z) w := by
  have hks : IsKey .string (.string s) := by simp [IsKey]
  rcases findNow_sfind s es.toList 0 hk with ⟨h1, h2, h3⟩ | ⟨j, e, h1, h2, h3, h4, h5⟩
  · simp [Instr.lookup, run_underlying hm, Go.MapKept.run_getObj_map hb, run_checkKey hd hks, run_findKey hd h1, hz, h2, Result.andThen]
  · simp [Instr.lookup, run_underlying hm, Go.MapKept.run_getObj_map hb, run_checkKey hd hks, run_findKey hd h1, h4, Result.andThen]

theorem run_update_s (hm : P.underlying mt = some (.map kt et)) (hd : P.underlying kt = some .string) {es : Array MapEntry} {clock : Nat} (hk : SKeys es) (s : ByteArray) (v : Value) :
    ∃ es' clock', SKeys es' ∧ (∀ s', sfind s' es'.toList = if s' = s then some v else sfind s' es.toList) ∧
      ∀ (w : World) (b : Nat), w.heap[b]? = some (.map es clock) → (Instr.mapUpdate mt (.map (some b)) (.string s) v).run P w = .ok () (setMap w b es' clock') := by
  have hks : IsKey .string (.string s) := by simp [IsKey]
  rcases findNow_sfind s es.toList 0 hk with ⟨h1, h2, h3⟩ | ⟨j, e, h1, h2, h3, h4, h5⟩
  · refine ⟨es.push { key := .string s, val := v, born := clock }, clock + 1, ?_, ?_, ?_⟩
    · intro x hx
      simp only [Array.toList_push, List.mem_append, List.mem_singleton] at hx
      rcases hx with hx | rfl
      · exact hk x hx
      · exact hks
    · intro s'
      rw [Array.toList_push, sfind_push s s' v clock es.toList h2]
    · intro w b hb
      simp [Instr.mapUpdate, run_underlying hm, Go.MapKept.run_getObj_map hb, run_checkKey hd hks, run_findKey hd h1, run_setObj_map _ hb, Result.andThen, setMap]
  · have hj : es[j]? = some e := by simpa using h2
    have hset : (es.modify j fun x => { x with key := .string s, val := v }).toList = es.toList.set j { e with key := .string s, val := v } := by
      rw [Array.toList_modify]
      apply List.ext_getElem?
      intro k
      rw [List.getElem?_modify, List.getElem?_set]
      have hlt : j < es.toList.length := (List.getElem?_eq_some_iff.1 h2).1
      by_cases hk' : j = k
      · subst hk'
        rw [if_pos rfl, if_pos hlt, h2]
        simp
      · rw [if_neg hk']
        simp [hk']
    refine ⟨es.modify j fun x => { x with key := .string s, val := v }, clock, ?_, ?_, ?_⟩
    · intro x hx
      rw [hset] at hx
      rcases List.mem_or_eq_of_mem_set hx with hx | rfl
      · exact hk x hx
      · exact hks
    · intro s'
      rw [hset]
      exact sfind_set s s' v es.toList j e h2 h3 h5
    · intro w b hb
      simp [Instr.mapUpdate, run_underlying hm, Go.MapKept.run_getObj_map hb, run_checkKey hd hks, run_findKey hd h1, hj, h3, run_keyThatStays hks, run_setObj_map _ hb, Result.andThen, setMap]
end

end Go.Proofs.YbulkabcgFmt
