import Derived.Test.YbulkabaqBd
namespace Go.Proofs.Ybulkabaq
open Go.RowKit
set_option linter.unusedVariables false
attribute [local go_sem] eql26 neq26

section
variable {base V m C N M P0 L : Nat} {R : Int} {s0 p2 s5 : Value} {ps ms : List Value} {rv cv mv : Value} {w W w3 w4 : World} {p cv' mv' : Value}

theorem St.base_fr (s : St base V m C N M P0 L R s0 p2 s5 ps ms rv cv mv W) (F : Fr (fun k => k = C ∨ k = M ∨ cv.ownBlock = some k ∨ mv.ownBlock = some k) W w3) : Fr (fun k => base ≤ k) W w3 :=
  F.mono (fun k _ hk => by
    rcases hk with rfl | rfl | hk | hk
    · exact s.bases.2.1
    · exact s.bases.2.2.1
    · obtain ⟨_, _, h⟩ := owns_form s.oc hk; exact h
    · obtain ⟨_, _, h⟩ := owns_form s.om hk; exact h)

theorem Mid.base_fr (s : Mid base V m C N M P0 L R s0 p2 s5 ps ms rv cv mv p w3) {o : Obj} {g cap n : Nat} {x : Value}
    (hc : (rv = .slice (some ⟨g, 0, none⟩) n cap ∧ n + 1 ≤ cap ∧ Fr (· = g) (w3.alloc o) w4) ∨ (g = (w3.alloc o).heap.size ∧ w4.heap.size = (w3.alloc o).heap.size + 1 ∧ Fr (fun _ => False) (w3.alloc o) w4)) :
    Fr (fun k => base ≤ k) w3 (w4.setCell ⟨V, 3, none⟩ x) := by
  refine Fr.setCell ?_ (.inl s.bases.1) x
  obtain ⟨F, _, _⟩ := app_case hc
  exact F.mono (fun k _ hk => by obtain ⟨_, _, h⟩ := owns_form s.orow hk; exact h)

theorem St.call {N : Nat} (s : St base V m C N M P0 L R s0 p2 s5 ps ms rv cv mv W) :
    Calls Yba.prog 11 #[.int .i64 R, .slice none 0 0, .pointer (some ⟨C, 0, none⟩), .pointer (some ⟨N, 0, none⟩), .pointer (some ⟨M, 0, none⟩)] W fun e w3 =>
      ∃ pb cv' mv', e = .returned (.tuple #[.pointer (some ⟨pb, 0, none⟩), .nilIface]) ∧ Mid base V m C N M P0 L R s0 p2 s5 ps ms rv cv' mv' (.pointer (some ⟨pb, 0, none⟩)) w3 ∧ Fr (fun k => base ≤ k) W w3 := by
  refine (new_any W base C N M R ms.length s.lims.2 cv mv ms s.hC s.hM s.oc s.om s.bases.2.2.2).mono ?_
  rintro e w3 ⟨p, cv', mv', he, r1, r2, r3, r4, r5, r6, F⟩
  obtain ⟨pb, h⟩ : ∃ pb, p = .pointer (some ⟨pb, 0, none⟩) := by obtain ⟨b, _, _, _, h, _⟩ := r5; exact ⟨b, h⟩
  subst h
  exact ⟨pb, cv', mv', he, s.mid r1 r2 r3 r4 r5 r6 F, s.base_fr F⟩

/-- The last party of the voter's rounds. -/
theorem St.last (s : St base V m C N M P0 L R s0 p2 s5 ps ms rv cv mv w) (hk : 0 < L + ms.length) :
    ∃ g cap b mb, rv = .slice (some ⟨g, 0, none⟩) (L + ms.length) cap ∧ w.cell? ⟨g, L + ms.length - 1, none⟩ = some (.pointer (some ⟨b, 0, none⟩)) ∧ w.cell? ⟨b, 9, none⟩ = some (.pointer (some ⟨mb, 0, none⟩)) ∧
      w.cell? ⟨mb, 152, none⟩ = some (.bool false) ∧ w.cell? ⟨mb, 153, none⟩ = some (.slice none 0 0) ∧ w.cell? ⟨mb, 154, none⟩ = some (.int .i64 0) := by
  obtain ⟨hl, h2⟩ := s.orow
  rcases h2 with ⟨_, h⟩ | ⟨g, cap, cur, rfl, hb, hg, hnc, hcm, hcs, htake⟩
  · omega
  · have hlen : (ps ++ ms).length = L + ms.length := by rw [List.length_append, s.pl]
    have hlt : L + ms.length - 1 < (ps ++ ms).length := by omega
    have hget : (ps ++ ms)[L + ms.length - 1]? = some ((ps ++ ms)[L + ms.length - 1]) := List.getElem?_eq_getElem hlt
    obtain ⟨b, mb, pc, z, hv, h1, h2, h3, h4, h5, h6⟩ := s.good _ (List.getElem_mem hlt)
    refine ⟨g, cap, b, mb, rfl, ?_, (cellOf h1 9).trans h2, (cellOf h3 152).trans h4, (cellOf h3 153).trans h5, (cellOf h3 154).trans h6⟩
    rw [cellOf hg, ← hv, ← hget, ← htake, List.getElem?_take, if_pos (by omega)]
    simp
end

theorem owns_slice {w : World} {base : Nat} {e : TypeId} {size : Nat} {v : Value} {n : Nat} {xs : List Value} (h : w.ownsRow base e size v n xs) : ∃ a cap, v = .slice a n cap := by
  rcases h.2 with ⟨rfl, rfl⟩ | ⟨g, cap, cur, rfl, _⟩
  · exact ⟨_, _, rfl⟩
  · exact ⟨_, _, rfl⟩

theorem cell_a1 {w : World} {a : Addr} {v : Value} (h : w.cell? a = some v) (o1 : Obj) : (w.alloc o1).cell? a = some v := Lib.cell?_alloc_some o1 h
theorem cell_a2 {w : World} {a : Addr} {v : Value} (h : w.cell? a = some v) (o1 o2 : Obj) : ((w.alloc o1).alloc o2).cell? a = some v := cell_a1 (cell_a1 h o1) o2
theorem cell_a3 {w : World} {a : Addr} {v : Value} (h : w.cell? a = some v) (o1 o2 o3 : Obj) : (((w.alloc o1).alloc o2).alloc o3).cell? a = some v := cell_a1 (cell_a2 h o1 o2) o3

/-- What Enter leaves. -/
def EPost (base V m C N M P0 L r : Nat) (s0 p2 s5 : Value) (ps : List Value) (n : Nat) (w w' : World) : Prop :=
  ∃ ms rv cv mv, St base V m C N M P0 L r s0 p2 s5 ps ms rv cv mv w' ∧ ms.length = n ∧ Fr (fun k => base ≤ k) w w'

set_option maxRecDepth 100000 in
set_option maxHeartbeats 1000000 in
theorem enter_any (base V m C N M P0 L r : Nat) (hr : r ≤ 300) (s0 p2 s5 : Value) (ps ms0 : List Value) (rv0 cv0 mv0 : Value) (w : World) (s : St base V m C N M P0 L r s0 p2 s5 ps ms0 rv0 cv0 mv0 w) :
    Calls Yba.prog 12 #[.pointer (some ⟨V, 0, none⟩)] w fun e w' => e = .returned (.tuple #[]) ∧ EPost base V m C N M P0 L r s0 p2 s5 ps (max ms0.length (r - L)) w w' := by
  obtain ⟨i9, hj, hy0, hy1, hy2⟩ := info_parts Yba.info109
  have HS := hid s
  clear s
  go_enter Yba.func12, Yba.ntmps12
  go_wp2
  go_loopg [] (r - L - ms0.length + 1) (fun k wr => ∃ ms rv cv mv, St base V m C N M P0 L r s0 p2 s5 ps ms rv cv mv wr ∧ (ms.length = ms0.length ∨ ms.length ≤ r - L) ∧ ms0.length ≤ ms.length ∧ k = r - L - ms.length + 1 ∧ Fr (fun k => base ≤ k) w wr)
  case atStart => exact ⟨ms0, rv0, cv0, mv0, HS.out, .inl rfl, Nat.le_refl _, rfl, Fr.refl _ _⟩
  case round =>
    obtain ⟨ms, rv, cv, mv, s, hc1, hc2, hgk, hF⟩ := hrel
    have v1 : wr.cell? ⟨V, 1, none⟩ = some (.pointer (some ⟨m, 0, none⟩)) := cellOf s.hV 1
    have v3 : wr.cell? ⟨V, 3, none⟩ = some rv := cellOf s.hV 3
    have v4 : wr.cell? ⟨V, 4, none⟩ = some (.func (.func 11) #[] #[.pointer (some ⟨C, 0, none⟩), .pointer (some ⟨N, 0, none⟩), .pointer (some ⟨M, 0, none⟩)]) := cellOf s.hV 4
    obtain ⟨mc, hm, m0, m1, m2, m3, m4, m17⟩ := s.hm
    have q0 := hid ((cellOf hm 0).trans m0)
    have q1 := hid ((cellOf hm 1).trans m1)
    have q2 := hid ((cellOf hm 2).trans m2)
    have q3 := hid ((cellOf hm 3).trans m3)
    have q4 := hid ((cellOf hm 4).trans m4)
    have q17 := hid ((cellOf hm 17).trans m17)
    clear hm m0 m1 m2 m3 m4 m17 mc
    have hlim := s.lims
    have X := hid (And.intro hc1 (And.intro hc2 (And.intro hgk hF)))
    clear hc1 hc2 hgk hF
    by_cases hk : L + ms.length = 0
    · obtain ⟨a, cap, hrv⟩ := owns_slice s.orow
      rw [hk] at hrv
      subst hrv
      have HS := hid s
      clear s
      by_cases hr0 : r = 0
      · subst hr0
        go_wp2_with (first | (go_at_call 13; refine (round_zero _ m (by exact q17.out)).mono ?_; rintro e w' ⟨rfl, rfl⟩))
        refine bodyPost_ret (results_none rfl _ _ _) rfl ?_
        obtain ⟨hc1, hc2, hgk, hF⟩ := X.out
        exact ⟨rfl, ms, _, cv, mv, HS.out, by omega, hF⟩
      · have hrz : ((r : Int) == 0) = false := by simp; omega
        have v31 := cell_a1 v3
        have v41 := cell_a1 v4
        go_wp2_with (first
          | (go_at_call 13; refine (round_pos _ m r hrz q0.out q1.out q2.out q3.out q4.out q17.out).mono ?_; rintro e w' ⟨rfl, rfl⟩)
          | (go_at_call 11; refine (St.call (HS.out.fr (by exact ((Fr.refl _ _).alloc _).drew))).mono ?_; rintro e w3 ⟨pb, cv', mv', rfl, hmid, hf3⟩; have x3 : w3.cell? ⟨V, 3, none⟩ = some (.slice a 0 cap) := cellOf hmid.hV 3; have hor := hmid.orow; have HM := hid hmid; have HF3 := hid hf3; clear hmid hf3)
          | (at_builtin; refine wpList_append_fr _ rfl (.tmp 79) (.tmp 81) 108 rfl base 109 i9 (.pointer none) 1 8 Yba.underlying108 hj hy0 hy1 hy2 rfl (.slice a 0 cap) (L + ms.length) (ps ++ ms) (by rfl) (hor.alloc _) ⟨w3.heap.size, 0, none⟩ 1 1 [.pointer (some ⟨pb, 0, none⟩)] (by rfl) rfl (cell_one_at (by simp)) (by simp [Value.oneCell']) (by omega) (by unfold maxLen; omega) (by omega) (by have := HM.out.bases.2.2.2; simp; omega) ?_; intro g4 cap4 w4 how4 hcase4; have hn3 := HM.out.next (by omega) how4 hcase4; obtain ⟨⟨y1, y2⟩, HN⟩ := hn3; have HF4 := hid (HM.out.base_fr hcase4 (x := (.slice (some ⟨g4, 0, none⟩) (L + ms.length + 1) cap4))); clear how4 hcase4 hor))
        obtain ⟨hc1, hc2, hgk, hF⟩ := X.out
        have hN := HN.out
        have hF' := hid (((hF.trans' (((Fr.refl (fun k => base ≤ k) wr).alloc _).drew) (fun _ _ h => h)).trans HF3.out).trans HF4.out)
        clear HN HF3 HF4 HM HS X hF
        rw [show L + ms.length + 1 = 1 from by omega] at hN hF'
        go_roundg (r - L - (ms.length + 1) + 1)
        case measure => omega
        case rel => exact ⟨ms ++ [.pointer (some ⟨pb, 0, none⟩)], _, cv', mv', hN, .inr (by simp; omega), by simp; omega, by simp, hF'.out⟩
    · obtain ⟨g, cap, pb0, mb0, hrv, e1, e2, e3, e4, e5⟩ := s.last (by omega)
      subst hrv
      have HS := hid s
      clear s
      have hlen : (0 : Int) < (L : Int) + (ms.length : Int) := by omega
      have hE3 := hid e3
      have hE4 := hid e4
      have hE5 := hid e5
      clear e3 e4 e5
      have v12 := cell_a2 v1
      have v32 := cell_a2 v3
      have v33 := cell_a3 v3
      have v43 := cell_a3 v4
      by_cases hr0 : r = 0
      · subst hr0
        go_wp2_with (first
          | (go_at_call 19; refine (outcome_any _ mb0 hE3.out hE4.out hE5.out).mono ?_; rintro e w' ⟨rfl, rfl⟩)
          | (go_at_call 13; refine (round_zero _ m (cell_a2 q17.out _ _)).mono ?_; rintro e w' ⟨rfl, rfl⟩))
        refine bodyPost_ret (results_none rfl _ _ _) rfl ?_
        obtain ⟨hc1, hc2, hgk, hF⟩ := X.out
        have FF : ∀ S, Fr S wr ((wr.alloc (.cells #[.bool false, .slice none 0 0, .int .i64 0] 120)).alloc (.cells #[.bool false, .slice none 0 0, .int .i64 0] 120)) := fun S => ((Fr.refl S wr).alloc _).alloc _
        exact ⟨rfl, ms, _, cv, mv, HS.out.fr (FF _), by omega, hF.trans (FF _)⟩
      · have hrz : ((r : Int) == 0) = false := by simp; omega
        by_cases hle : r ≤ L + ms.length
        · go_wp2_with (first
            | (go_at_call 19; refine (outcome_any _ mb0 hE3.out hE4.out hE5.out).mono ?_; rintro e w' ⟨rfl, rfl⟩)
            | (go_at_call 13; refine (round_pos _ m r hrz (cell_a2 q0.out _ _) (cell_a2 q1.out _ _) (cell_a2 q2.out _ _) (cell_a2 q3.out _ _) (cell_a2 q4.out _ _) (cell_a2 q17.out _ _)).mono ?_; rintro e w' ⟨rfl, rfl⟩))
          refine bodyPost_ret (results_none rfl _ _ _) rfl ?_
          obtain ⟨hc1, hc2, hgk, hF⟩ := X.out
          have FF : ∀ S, Fr S wr (((wr.alloc (.cells #[.bool false, .slice none 0 0, .int .i64 0] 120)).alloc (.cells #[.bool false, .slice none 0 0, .int .i64 0] 120)).alloc (.cells #[.int .i64 0, .int .i64 0, .slice none 0 0, .slice none 0 0] 40)).drew := fun S => (((Fr.refl S wr).alloc _).alloc _).alloc _ |>.drew
          exact ⟨rfl, ms, _, cv, mv, HS.out.fr (FF _), by omega, hF.trans (FF _)⟩
        · go_wp2_with (first
            | (go_at_call 19; refine (outcome_any _ mb0 hE3.out hE4.out hE5.out).mono ?_; rintro e w' ⟨rfl, rfl⟩)
            | (go_at_call 13; refine (round_pos _ m r hrz (cell_a2 q0.out _ _) (cell_a2 q1.out _ _) (cell_a2 q2.out _ _) (cell_a2 q3.out _ _) (cell_a2 q4.out _ _) (cell_a2 q17.out _ _)).mono ?_; rintro e w' ⟨rfl, rfl⟩)
            | (go_at_call 11; refine (St.call (HS.out.fr (by exact ((((Fr.refl _ _).alloc _).alloc _).alloc _).drew))).mono ?_; rintro e w3 ⟨pb, cv', mv', rfl, hmid, hf3⟩; have x3 : w3.cell? ⟨V, 3, none⟩ = some (.slice (some ⟨g, 0, none⟩) (L + ms.length) cap) := cellOf hmid.hV 3; have hor := hmid.orow; have HM := hid hmid; have HF3 := hid hf3; clear hmid hf3)
            | (at_builtin; refine wpList_append_fr _ rfl (.tmp 79) (.tmp 81) 108 rfl base 109 i9 (.pointer none) 1 8 Yba.underlying108 hj hy0 hy1 hy2 rfl (.slice (some ⟨g, 0, none⟩) (L + ms.length) cap) (L + ms.length) (ps ++ ms) (by rfl) (hor.alloc _) ⟨w3.heap.size, 0, none⟩ 1 1 [.pointer (some ⟨pb, 0, none⟩)] (by rfl) rfl (cell_one_at (by simp)) (by simp [Value.oneCell']) (by omega) (by unfold maxLen; omega) (by omega) (by have := HM.out.bases.2.2.2; simp; omega) ?_; intro g4 cap4 w4 how4 hcase4; have hn3 := HM.out.next (by omega) how4 hcase4; obtain ⟨⟨y1, y2⟩, HN⟩ := hn3; have HF4 := hid (HM.out.base_fr hcase4 (x := (.slice (some ⟨g4, 0, none⟩) (L + ms.length + 1) cap4))); clear how4 hcase4 hor))
          obtain ⟨hc1, hc2, hgk, hF⟩ := X.out
          have hN := HN.out
          have hF' := hid (((hF.trans' (((((Fr.refl (fun k => base ≤ k) wr).alloc _).alloc _).alloc _).drew) (fun _ _ h => h)).trans HF3.out).trans HF4.out)
          clear HN HF3 HF4 HM HS X hF
          go_roundg (r - L - (ms.length + 1) + 1)
          case measure => omega
          case rel => exact ⟨ms ++ [.pointer (some ⟨pb, 0, none⟩)], _, cv', mv', hN, .inr (by simp; omega), by simp; omega, by simp, hF'.out⟩

end Go.Proofs.Ybulkabaq
