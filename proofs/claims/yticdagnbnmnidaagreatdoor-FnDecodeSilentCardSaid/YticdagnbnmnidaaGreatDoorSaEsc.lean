/- The decoder over bytes: takeEsc. Conditions: none. -/
import Derived.Test.YticdagnbnmnidaaGreatDoorSaEscA
set_option linter.unusedSimpArgs false
set_option linter.unusedVariables false
namespace Go.Proofs.YticdagnbnmnidaaGreatDoor
open Go.RowKit

set_option maxRecDepth 100000 in
set_option maxHeartbeats 6400000 in
theorem takeEsc_any (c : DC) (s : DS) (g G off : Nat) (p : Nat → Bool) (x : Nat → Nat) (w : World) (h : Dec w c s) (hok : s.ok) (hs : SetAt w g p) (hT : TabAt w G off x) (hx : ∀ i, x i < 256)
    (hg : ¬ Touch c s.esc g) (hG : ¬ Touch c s.esc G) (w0 : World) (hval : ValidOK w0) (hlay : Lay w0 w) (hD : w0.heap.size ≤ c.base) :
    Calls Tryz.prog 103 #[.pointer (some ⟨c.D, 0, none⟩), .pointer (some ⟨g, 0, none⟩), .pointer (some ⟨G, off, none⟩)] w (Escapes c s p x w) := by
  have f2 := h.f2
  have f3 := h.f3
  have f7 := h.f7
  have h0 := h.r0_le
  have h1 := h.L_le
  have h2 := h.big
  have h3 := h.r1_le
  have h4 := h.capBig
  have h5 := h.cap_le
  have ho := h.esc
  obtain ⟨A, ecap, hv, _, _, hnc, hcm, _⟩ := own_cut0 ho
  rw [hv] at f7
  unfold maxLen at hcm
  unfold DS.ok at hok
  have Hv := hid hv
  have Ho := hid ho
  have H := hid h
  have Hs := hid hs
  have HT := hid hT
  have Hx := hid hx
  have Hg := hid hg
  have HG := hid hG
  clear h ho hv hs hT hx hg hG
  go_enter Tryz.func103, Tryz.ntmps103
  go_wp2_with fail
  go_step3
  go_wp2_with fail
  go_quiet (fail)
  go_wp2_with fail
  go_step3
  go_upto_block 0 with fail
  go_cut [10] (fun t wc => Loops c s p x w t wc)
  case first => as_aux_lemma =>
      go_wp2_with fail
      clear f2 f3 f7
      go_loopg [10] (s.L - s.r1) (fun gk t wr => ∃ (q su : Nat) (O : List Nat) (v : Value), Hid (gk = s.L - q) ∧ t = .int .i64 ((su : Int) - (s.r0 : Int)) ∧ Hid (Mid c s p x w q q su O v wr))
      case atStart => exact ⟨s.r1, s.r1, [], s.esc, rfl, rfl, TS.init h3, (by have := H.out.same (same_drewN w nq); unfold DS.mid; simpa using this), Far1.of_D ((Keep.refl _ w).drewN _) rfl (by simp [DS.mid])⟩
      case round =>
        obtain ⟨q, su, O, v, Hgk, rfl, HM⟩ := hrel
        have hts := HM.out.1
        have hd := HM.out.2.1
        have Hf := hid HM.out.2.2
        have hq1 := Nat.le_trans hts.le hts.le'
        have hqL := hts.leL
        have hsu := hts.le
        have hsq := hts.le'
        have Hts := hid hts
        clear hts
        by_cases hlt : q < s.L
        · have hcq : q < s.cap := by omega
          go_wp2_with (go_at_call 72; refine (ensure_yes c _ 1 _ hd hlt).mono ?_; rintro e w1 ⟨rfl, hk1⟩)
          have hd1 := hd.same hk1
          have f1 : w1.cell? ⟨c.D, 1, none⟩ = some (.slice (some ⟨c.T, 0, none⟩) s.L s.cap) := hd1.f1
          have f3 : w1.cell? ⟨c.D, 3, none⟩ = some (.int .i64 q) := hd1.f3
          have Hd1 := hid hd1
          have Hf1 := hid (Hf.out.trans (Far1.same hk1))
          clear hd hk1 hd1
          go_wp2_with fail
          go_quiet (fail)
          go_wp2_with fail
          clear f1 f3
          go_loopg [10, 12, 13] (s.L - q) (fun gi t b t13 wi => ∃ (j su : Nat) (O : List Nat) (v : Value), Hid (gi = s.L - (q + j)) ∧ q + j ≤ s.L ∧ t13 = .int .i64 (j : Nat) ∧ b = .slice (some ⟨c.T, q, none⟩) (s.L - q) (s.cap - q) ∧ t = .int .i64 ((su : Int) - (s.r0 : Int)) ∧ Hid (Mid c s p x w q (q + j) su O v wi))
          case atStart => exact ⟨0, su, O, v, rfl, hqL, rfl, rfl, rfl, Hts.out, Hd1.out.same (same_drewN _ _), Hf1.out.trans (Far1.same (same_drewN _ _))⟩
          case round =>
            have Hgk0 := Hgk
            clear Hts Hf Hf1 Hd1 HM Hgk
            obtain ⟨j, su', O', v', Hgi, hjL, rfl, rfl, rfl, HM⟩ := hrel
            have hts := HM.out.1
            have hd := HM.out.2.1
            have Hf := hid HM.out.2.2
            have Hw := hid (H.out)
            obtain ⟨A', ecap', hv', _, _, hnc', hcm', _⟩ := own_cut0 hd.esc
            have f1 : wr.cell? ⟨c.D, 1, none⟩ = some (.slice (some ⟨c.T, 0, none⟩) s.L s.cap) := hd.f1
            have f2 : wr.cell? ⟨c.D, 2, none⟩ = some (.int .i64 s.r0) := hd.f2
            have f3 : wr.cell? ⟨c.D, 3, none⟩ = some (.int .i64 q) := hd.f3
            have f6 : wr.cell? ⟨c.D, 6, none⟩ = some (.bool s.skip) := hd.f6
            have fr3 := hd.fr 3
            have hsu1 := hts.le
            have hlen := hts.len
            have hsu2 := hts.le'
            have Hts := hid hts
            have Htx : Hid (∀ i, i < c.bs.length → wr.cell? ⟨c.T, i, none⟩ = some (.int .u8 (c.b i : Nat))) := fun i hi => hd.byte hi
            have Hv' := hid hv'
            have Hset : Hid (SetAt wr g p) := Hs.out.keep Hf.out.keep Hg.out
            have Htab : Hid (TabAt wr G off x) := HT.out.keep Hf.out.keep HG.out
            have Hd := hid hd
            clear hts hv' hd hcm' hnc'
            by_cases hlt2 : q + j < s.L
            · have hv := Htx.out (q + j) (by omega)
              have hjx : j < s.L - q := by omega
              by_cases hb : c.b (q + j) = 92
              · have hbb : ((c.b (q + j) : Int) != 92) = false := by simp [hb]
                have Hb := hid hb
                clear hb
                by_cases hlt3 : q + j + 1 < s.L
                · have hv1 := Htx.out (q + j + 1) (by omega)
                  rw [show q + j + 1 = q + (j + 1) by omega] at hv1
                  have hjx1 : (j : Int) + 1 < ((s.L - q : Nat) : Int) := by omega
                  have hj0 : (0 : Int) ≤ (j : Int) + 1 := by omega
                  have hjn : ((j : Int) + 1).toNat = j + 1 := by omega
                  have hxx := Htab.out (c.b (q + (j + 1))) (c.b_lt _)
                  have hbl := c.b_lt (q + (j + 1))
                  have hbl2 : ((c.b (q + (j + 1)) : Nat) : Int) < 256 := by omega
                  have hbl0 : (0 : Int) ≤ ((c.b (q + (j + 1)) : Nat) : Int) := by omega
                  have hjw : IntKind.i64.wrap ((j : Int) + 1) = (j : Int) + 1 := IntWalk.i64_in _ (by omega)
                  by_cases hx0 : x (c.b (q + (j + 1))) = 0
                  · have hx0b : ((x (c.b (q + (j + 1))) : Int) == 0) = true := by simp [hx0]
                    have Hx0 := hid hx0
                    clear hx0
                    go_wp2_with fail
                    go_quiet (fail)
                    go_wp2_with fail
                    go_roundg (s.L - (q + j + 1))
                    case measure => have := Hgi.out; omega
                    case rel => exact ⟨j + 1, su', O', v', rfl, by omega, by go_num, rfl, rfl, Hts.out.back hlt2 Hb.out (fun h => h.2 Hx0.out), Hd.out.same (same_drewN _ _), Hf.out.trans (Far1.same (same_drewN _ _))⟩
                  · have hx0b : ((x (c.b (q + (j + 1))) : Int) == 0) = false := by simp; omega
                    have Hx0 := hid hx0
                    clear hx0
                    by_cases hsk : s.skip = true
                    · as_aux_lemma =>
                        rw [hsk] at f6
                        have Hsk := hid hsk
                        clear hsk
                        go_wp2_with fail
                        go_quiet (fail)
                        go_wp2_with fail
                        go_roundg (s.L - (q + j + 2))
                        case measure => have := Hgi.out; omega
                        case rel => exact ⟨j + 2, su', O', v', rfl, by omega, by go_num, rfl, rfl, (by have h := Hts.out; rw [Hsk.out] at h ⊢; exact h.escSkip hlt3 Hb.out Hx0.out), Hd.out.same (same_drewN _ _), Hf.out.trans (Far1.same (same_drewN _ _))⟩
                    · as_aux_lemma =>
                        have hsk' : s.skip = false := by simpa using hsk
                        rw [hsk'] at f6
                        have Hsk := hid hsk'
                        clear hsk hsk'
                        have f7 : wr.cell? ⟨c.D, 7, none⟩ = some (.slice A' (s.xs.length + O'.length) ecap') := by
                          have := Hd.out.f7
                          rw [Hv'.out] at this
                          rw [this, ← List.length_append]
                          rfl
                        go_wp2_with fail
                        go_quiet (fail)
                        clear hjw hjn hj0
                        go_wp2_with fail
                        have hve : v' = .slice A' (s.xs.length + O'.length) ecap' := by
                          have e := Hv'.out
                          rw [← List.length_append]
                          exact e
                        subst hve
                        have hfit := hid (AppFit.mk (w := wr) (base := c.base) (v := .slice A' (s.xs.length + O'.length) ecap') (xs := s.xs ++ O') (T := c.T) (off := su') (m := q + j - su') (news := raw c.b su' (q + j)) Hd.out.esc (raw_length _ _ _) (fun i hi => by rw [show (raw c.b su' (q + j)).getD i 0 = c.b (su' + i) by simp [raw, List.getD, hi]]; exact Htx.out _ (by omega)) (by rw [List.length_append]; omega) Hd.out.base_le)
                        have fr7 := Hd.out.fr 7
                        have e1 : IntKind.i64.wrap ((q : Int) + (j : Int)) = (q : Int) + (j : Int) := IntWalk.i64_in _ (by omega)
                        have e2 : IntKind.i64.wrap ((s.r0 : Int) + ((su' : Int) - (s.r0 : Int))) = (su' : Int) := by rw [IntWalk.i64_in _ (by omega)]; omega
                        have e3 : (0 : Int) ≤ (q : Int) + (j : Int) := by omega
                        have e4 : (q : Int) + (j : Int) ≤ (s.cap : Int) := by omega
                        have e5 : (0 : Int) ≤ (su' : Int) := by omega
                        have e6 : (su' : Int) ≤ max ((q : Int) + (j : Int)) 0 := by omega
                        have e7 : ¬ s.cap = su' := by omega
                        have e8 : ((q : Int) + (j : Int)).toNat = q + j := by omega
                        have hS0 : ∀ n : Nat, Hid ((fun w' : World => w'.cell? ⟨c.D, 1, none⟩ = some (.slice (some ⟨c.T, 0, none⟩) s.L s.cap) ∧ w'.cell? ⟨c.D, 2, none⟩ = some (.int .i64 s.r0) ∧ w'.cell? ⟨c.D, 3, none⟩ = some (.int .i64 q) ∧ w'.cell? ⟨c.D, 7, none⟩ = some (.slice A' (s.xs.length + O'.length) ecap')) (wr.drewN n).drew) := fun _ => ⟨f1, f2, f3, f7⟩
                        refine wp_region_till 25 (fun w' : World => w'.cell? ⟨c.D, 1, none⟩ = some (.slice (some ⟨c.T, 0, none⟩) s.L s.cap) ∧ w'.cell? ⟨c.D, 2, none⟩ = some (.int .i64 s.r0) ∧ w'.cell? ⟨c.D, 3, none⟩ = some (.int .i64 q) ∧ w'.cell? ⟨c.D, 7, none⟩ = some (.slice A' (s.xs.length + O'.length) ecap')) (by kernel_rfl) ?_
                        refine wpTill_take (i := 0) (oi := ⟨_, _, _, _, _, _⟩) (v := ?_) rfl (by kernel_rfl) (by decide) (by kernel_rfl) (by kernel_rfl) (by kernel_rfl) (fun _ _ _ h => h) (Or.inl ⟨by rfl, ?_⟩) (hS0 _).out ?_
                        rotate_left
                        · (intro w' hSw; (try dsimp only at hSw); go_simp; (try with_reducible rfl))
                        simp only [Act.put, List.setIfInBounds_toArray, List.set_cons_zero, List.set_cons_succ]
                        refine wpTill_take (i := 1) (oi := ⟨_, _, _, _, _, _⟩) (v := ?_) rfl (by kernel_rfl) (by decide) (by kernel_rfl) (by kernel_rfl) (by kernel_rfl) (fun _ _ _ h => h) (Or.inl ⟨by rfl, ?_⟩) (hS0 _).out ?_
                        rotate_left
                        · (intro w' hSw; (try dsimp only at hSw); go_simp; (try with_reducible rfl))
                        simp only [Act.put, List.setIfInBounds_toArray, List.set_cons_zero, List.set_cons_succ]
                        refine wpTill_take (i := 2) (oi := ⟨_, _, _, _, _, _⟩) (v := ?_) rfl (by kernel_rfl) (by decide) (by kernel_rfl) (by kernel_rfl) (by kernel_rfl) (fun _ _ _ h => h) (Or.inl ⟨by rfl, ?_⟩) (hS0 _).out ?_
                        rotate_left
                        · (intro w' hSw; (try dsimp only at hSw); go_simp; (try with_reducible rfl))
                        simp only [Act.put, List.setIfInBounds_toArray, List.set_cons_zero, List.set_cons_succ]
                        refine wpTill_take (i := 3) (oi := ⟨_, _, _, _, _, _⟩) (v := ?_) rfl (by kernel_rfl) (by decide) (by kernel_rfl) (by kernel_rfl) (by kernel_rfl) (fun _ _ _ h => h) (Or.inl ⟨by rfl, ?_⟩) (hS0 _).out ?_
                        rotate_left
                        · (intro w' hSw; (try dsimp only at hSw); go_simp; (try with_reducible rfl))
                        simp only [Act.put, List.setIfInBounds_toArray, List.set_cons_zero, List.set_cons_succ]
                        refine wpTill_take (i := 4) (oi := ⟨_, _, _, _, _, _⟩) (v := ?_) rfl (by kernel_rfl) (by decide) (by kernel_rfl) (by kernel_rfl) (by kernel_rfl) (fun _ _ _ h => h) (Or.inl ⟨by rfl, ?_⟩) (hS0 _).out ?_
                        rotate_left
                        · (intro w' hSw; (try dsimp only at hSw); go_simp; (try with_reducible rfl))
                        simp only [Act.put, List.setIfInBounds_toArray, List.set_cons_zero, List.set_cons_succ]
                        refine wpTill_take (i := 5) (oi := ⟨_, _, _, _, _, _⟩) (v := ?_) rfl (by kernel_rfl) (by decide) (by kernel_rfl) (by kernel_rfl) (by kernel_rfl) (fun _ _ _ h => h) (Or.inl ⟨by rfl, ?_⟩) (hS0 _).out ?_
                        rotate_left
                        · (intro w' hSw; (try dsimp only at hSw); go_simp; (try with_reducible rfl))
                        simp only [Act.put, List.setIfInBounds_toArray, List.set_cons_zero, List.set_cons_succ]
                        refine wpTill_take (i := 6) (oi := ⟨_, _, _, _, _, _⟩) (v := ?_) rfl (by kernel_rfl) (by decide) (by kernel_rfl) (by kernel_rfl) (by kernel_rfl) (fun _ _ _ h => h) (Or.inl ⟨by rfl, ?_⟩) (hS0 _).out ?_
                        rotate_left
                        · (intro w' hSw; (try dsimp only at hSw); go_simp; (try with_reducible rfl))
                        simp only [Act.put, List.setIfInBounds_toArray, List.set_cons_zero, List.set_cons_succ]
                        refine wpTill_take (i := 7) (oi := ⟨_, _, _, _, _, _⟩) (v := ?_) rfl (by kernel_rfl) (by decide) (by kernel_rfl) (by kernel_rfl) (by kernel_rfl) (fun _ _ _ h => h) (Or.inl ⟨by rfl, ?_⟩) (hS0 _).out ?_
                        rotate_left
                        · (intro w' hSw; (try dsimp only at hSw); go_simp; (try with_reducible rfl))
                        simp only [Act.put, List.setIfInBounds_toArray, List.set_cons_zero, List.set_cons_succ]
                        refine wpTill_take (i := 8) (oi := ⟨_, _, _, _, _, _⟩) (v := ?_) rfl (by kernel_rfl) (by decide) (by kernel_rfl) (by kernel_rfl) (by kernel_rfl) (fun _ _ _ h => h) (Or.inl ⟨by rfl, ?_⟩) (hS0 _).out ?_
                        rotate_left
                        · (intro w' hSw; (try dsimp only at hSw); go_simp; (try with_reducible rfl))
                        simp only [Act.put, List.setIfInBounds_toArray, List.set_cons_zero, List.set_cons_succ]
                        refine wpTill_take (i := 9) (oi := ⟨_, _, _, _, _, _⟩) (v := ?_) rfl (by kernel_rfl) (by decide) (by kernel_rfl) (by kernel_rfl) (by kernel_rfl) (fun _ _ _ h => h) (Or.inl ⟨by rfl, ?_⟩) (hS0 _).out ?_
                        rotate_left
                        · (intro w' hSw; (try dsimp only at hSw); go_simp; (try with_reducible rfl))
                        simp only [Act.put, List.setIfInBounds_toArray, List.set_cons_zero, List.set_cons_succ]
                        refine wpTill_take (i := 10) (oi := ⟨_, _, _, _, _, _⟩) (v := ?_) rfl (by kernel_rfl) (by decide) (by kernel_rfl) (by kernel_rfl) (by kernel_rfl) (fun _ _ _ h => h) (Or.inl ⟨by rfl, ?_⟩) (hS0 _).out ?_
                        rotate_left
                        · (intro w' hSw; (try dsimp only at hSw); go_simp; (try with_reducible rfl))
                        simp only [Act.put, List.setIfInBounds_toArray, List.set_cons_zero, List.set_cons_succ]
                        refine wpTill_take (i := 11) (oi := ⟨_, _, _, _, _, _⟩) (v := ?_) rfl (by kernel_rfl) (by decide) (by kernel_rfl) (by kernel_rfl) (by kernel_rfl) (fun _ _ _ h => h) (Or.inl ⟨by rfl, ?_⟩) (hS0 _).out ?_
                        rotate_left
                        · (intro w' hSw; (try dsimp only at hSw); go_simp; (try with_reducible rfl))
                        simp only [Act.put, List.setIfInBounds_toArray, List.set_cons_zero, List.set_cons_succ]
                        refine wpTill_take (i := 12) (oi := ⟨_, _, _, _, _, _⟩) (v := ?_) rfl (by kernel_rfl) (by decide) (by kernel_rfl) (by kernel_rfl) (by kernel_rfl) (fun _ _ _ h => h) (Or.inl ⟨by rfl, ?_⟩) (hS0 _).out ?_
                        rotate_left
                        · (intro w' hSw; (try dsimp only at hSw); go_simp; (try with_reducible rfl))
                        simp only [Act.put, List.setIfInBounds_toArray, List.set_cons_zero, List.set_cons_succ]
                        refine wpTill_take (i := 13) (oi := ⟨_, _, _, _, _, _⟩) (v := ?_) rfl (by kernel_rfl) (by decide) (by kernel_rfl) (by kernel_rfl) (by kernel_rfl) (fun _ _ _ h => h) (Or.inl ⟨by rfl, ?_⟩) (hS0 _).out ?_
                        rotate_left
                        · (intro w' hSw; (try dsimp only at hSw); go_simp; (try with_reducible rfl))
                        simp only [Act.put, List.setIfInBounds_toArray, List.set_cons_zero, List.set_cons_succ]
                        refine wpTill_take (i := 14) (oi := ⟨_, _, _, _, _, _⟩) (v := ?_) rfl (by kernel_rfl) (by decide) (by kernel_rfl) (by kernel_rfl) (by kernel_rfl) (fun _ _ _ h => h) (Or.inl ⟨by rfl, ?_⟩) (hS0 _).out ?_
                        rotate_left
                        · (intro w' hSw; (try dsimp only at hSw); go_simp; (try with_reducible rfl))
                        simp only [Act.put, List.setIfInBounds_toArray, List.set_cons_zero, List.set_cons_succ]
                        refine wpTill_take (i := 15) (oi := ⟨_, _, _, _, _, _⟩) (v := ?_) rfl (by kernel_rfl) (by decide) (by kernel_rfl) (by kernel_rfl) (by kernel_rfl) (fun _ _ _ h => h) (Or.inl ⟨by rfl, ?_⟩) (hS0 _).out ?_
                        rotate_left
                        · (intro w' hSw; (try dsimp only at hSw); go_simp; (try with_reducible rfl))
                        simp only [Act.put, List.setIfInBounds_toArray, List.set_cons_zero, List.set_cons_succ]
                        refine wpTill_take (i := 16) (oi := ⟨_, _, _, _, _, _⟩) (v := ?_) rfl (by kernel_rfl) (by decide) (by kernel_rfl) (by kernel_rfl) (by kernel_rfl) (fun _ _ _ h => h) (Or.inl ⟨by rfl, ?_⟩) (hS0 _).out ?_
                        rotate_left
                        · (intro w' hSw; (try dsimp only at hSw); go_simp; (try with_reducible rfl))
                        simp only [Act.put, List.setIfInBounds_toArray, List.set_cons_zero, List.set_cons_succ]
                        refine wpTill_take (i := 17) (oi := ⟨_, _, _, _, _, _⟩) (v := ?_) rfl (by kernel_rfl) (by decide) (by kernel_rfl) (by kernel_rfl) (by kernel_rfl) (fun _ _ _ h => h) (Or.inl ⟨by rfl, ?_⟩) (hS0 _).out ?_
                        rotate_left
                        · (intro w' hSw; (try dsimp only at hSw); go_simp; (try with_reducible rfl))
                        simp only [Act.put, List.setIfInBounds_toArray, List.set_cons_zero, List.set_cons_succ]
                        refine wpTill_take (i := 18) (oi := ⟨_, _, _, _, _, _⟩) (v := ?_) rfl (by kernel_rfl) (by decide) (by kernel_rfl) (by kernel_rfl) (by kernel_rfl) (fun _ _ _ h => h) (Or.inl ⟨by rfl, ?_⟩) (hS0 _).out ?_
                        rotate_left
                        · (intro w' hSw; (try dsimp only at hSw); go_simp; (try with_reducible rfl))
                        simp only [Act.put, List.setIfInBounds_toArray, List.set_cons_zero, List.set_cons_succ]
                        refine wpTill_take (i := 19) (oi := ⟨_, _, _, _, _, _⟩) (v := ?_) rfl (by kernel_rfl) (by decide) (by kernel_rfl) (by kernel_rfl) (by kernel_rfl) (fun _ _ _ h => h) (Or.inl ⟨by rfl, ?_⟩) (hS0 _).out ?_
                        rotate_left
                        · (intro w' hSw; (try dsimp only at hSw); go_simp; (try with_reducible rfl))
                        simp only [Act.put, List.setIfInBounds_toArray, List.set_cons_zero, List.set_cons_succ]
                        refine wpTill_take (i := 20) (oi := ⟨_, _, _, _, _, _⟩) (v := ?_) rfl (by kernel_rfl) (by decide) (by kernel_rfl) (by kernel_rfl) (by kernel_rfl) (fun _ _ _ h => h) (Or.inl ⟨by rfl, ?_⟩) (hS0 _).out ?_
                        rotate_left
                        · (intro w' hSw; (try dsimp only at hSw); go_simp; (try with_reducible rfl))
                        simp only [Act.put, List.setIfInBounds_toArray, List.set_cons_zero, List.set_cons_succ]
                        refine wpTill_take (i := 21) (oi := ⟨_, _, _, _, _, _⟩) (v := ?_) rfl (by kernel_rfl) (by decide) (by kernel_rfl) (by kernel_rfl) (by kernel_rfl) (fun _ _ _ h => h) (Or.inl ⟨by rfl, ?_⟩) (hS0 _).out ?_
                        rotate_left
                        · (intro w' hSw; (try dsimp only at hSw); go_simp; (try with_reducible rfl))
                        simp only [Act.put, List.setIfInBounds_toArray, List.set_cons_zero, List.set_cons_succ]
                        refine wpTill_one (i := 22) (o := ⟨_, _, _, _, _, _⟩) rfl (by kernel_rfl) (fun K hK => ?_)
                        refine step_append_bytes rfl (.tmp 115) (.tmp 132) rfl c.base (.slice A' (s.xs.length + O'.length) ecap') (s.xs ++ O') c.T su' (q + j - su') (s.cap - su') (raw c.b su' (q + j)) (hfit.out.same ((same_drewN _ _).drew)) (by simp [Act.eval]) (by simp [Act.eval]) ?_
                        intro v2 w2 hg2
                        obtain ⟨A2, cap2, rfl, -, -, -, -, -⟩ := own_cut0 hg2.own
                        have hgw := hid ((Hd.out.same ((same_drewN _ _).drew)).grew (raw_length _ _ _) hg2)
                        clear hg2
                        have fr2 := hgw.out.frozen 7
                        have g7 : w2.cell? ⟨c.D, 7, none⟩ = some (.slice A' (s.xs.length + O'.length) ecap') := (hgw.out.cell 7).trans f7
                        have hS1 : Hid ((fun w' : World => w'.cell? ⟨c.D, 1, none⟩ = some (.slice (some ⟨c.T, 0, none⟩) s.L s.cap) ∧ w'.cell? ⟨c.D, 2, none⟩ = some (.int .i64 s.r0) ∧ w'.cell? ⟨c.D, 3, none⟩ = some (.int .i64 q) ∧ w'.cell? ⟨c.D, 7, none⟩ = some (.slice A' (s.xs.length + O'.length) ecap')) w2) := ⟨(hgw.out.cell 1).trans f1, (hgw.out.cell 2).trans f2, (hgw.out.cell 3).trans f3, g7⟩
                        refine hK.out _ _ (fun _ => hS1.out) ?_
                        clear hK K hS0
                        simp only [Act.put, List.setIfInBounds_toArray, List.set_cons_zero, List.set_cons_succ]
                        refine wpTill_one (i := 23) (o := ⟨_, _, _, _, _, _⟩) rfl (by kernel_rfl) (fun K hK => ?_)
                        go_simp
                        refine hK.out _ _ (fun _ => hS1.out) ?_
                        clear hK K
                        try simp only [Act.put, List.setIfInBounds_toArray, List.set_cons_zero, List.set_cons_succ]
                        refine wpTill_one (i := 24) (o := ⟨_, _, _, _, _, _⟩) rfl (by kernel_rfl) (fun K hK => ?_)
                        go_simp
                        refine hK.out _ _ (fun _ => hS1.out) ?_
                        clear hK K
                        try simp only [Act.put, List.setIfInBounds_toArray, List.set_cons_zero, List.set_cons_succ]
                        refine wpTill_one (i := 25) (o := ⟨_, _, _, _, _, _⟩) rfl (by kernel_rfl) (fun K hK => ?_)
                        go_simp
                        refine hK.out _ _ (fun h => absurd rfl h) ?_
                        clear hK K
                        refine wpTill_done (by kernel_rfl) ?_ _
                        have Hd2 := hid hgw.out.dec
                        have Hf2 := hid ((Hf.out.trans (Far1.same ((same_drewN _ _).drew))).trans hgw.out.far)
                        clear fr2 g7 hS1 e1 e2 e3 e4 e5 e6 e7 e8 hgw hfit f1 f2 f3 f7 fr7 fr3
                        rw [List.length_append] at Hd2 Hf2
                        generalize hW2 : World.setCell w2 ⟨c.D, 7, none⟩ (Value.slice A2 (s.xs.length + O'.length + (q + j - su')) cap2) = W2 at Hd2 Hf2 ⊢
                        clear hW2
                        have f7 : W2.cell? ⟨c.D, 7, none⟩ = some (.slice A2 (s.xs.length + O'.length + (q + j - su')) cap2) := by
                          rw [Hd2.out.f7]
                          rfl
                        have hd3 := hid (Hd2.out.same ((Keep.refl _ W2).alloc (.cells #[.int .u8 (x (c.b (q + (j + 1))) : Nat)] 5)))
                        have hxl := hid (show ((s.mid q (.slice A' (s.xs.length + O'.length) ecap') O').more (.slice A2 (s.xs.length + O'.length + (q + j - su')) cap2) (raw c.b su' (q + j))).xs.length ≤ 3000000 by simp [DS.mid, DS.more, raw_length]; omega)
                        have hn3 := hid (show ∀ i, i < 1 → (W2.alloc (.cells #[.int .u8 (x (c.b (q + (j + 1))) : Nat)] 5)).cell? ⟨W2.heap.size, 0 + i, none⟩ = some (.int .u8 ([x (c.b (q + (j + 1)))].getD i 0 : Nat)) from fun i hi => by
                          obtain rfl : i = 0 := by omega
                          exact (Row.new W2 5 _).cell 0)
                        go_wp2_with (at_builtin; refine wpList_append_bytes _ rfl (.tmp 140) (.tmp 142) rfl c.base (.slice A2 (s.xs.length + O'.length + (q + j - su')) cap2) _ _ rfl hd3.out.esc W2.heap.size 0 1 1 [x (c.b (q + (j + 1)))] rfl rfl hn3.out (by have := hxl.out; omega) hd3.out.base_le ?_; intro v3 w3 hg3; obtain ⟨A3, cap3, rfl, -, -, -, -, -⟩ := own_cut0 hg3.own; have hgw3 := hid (Dec.grew (m := 1) (news := [x (c.b (q + (j + 1)))]) hd3.out rfl hg3); clear hg3; have fr7 := hgw3.out.frozen 7; have g7 := (hgw3.out.cell 7).trans hd3.out.f7; have g2 : w3.cell? ⟨c.D, 2, none⟩ = some (.int .i64 s.r0) := (hgw3.out.cell 2).trans hd3.out.f2; have g3 : w3.cell? ⟨c.D, 3, none⟩ = some (.int .i64 q) := (hgw3.out.cell 3).trans hd3.out.f3)
                        go_quiet (fail)
                        go_wp2_with fail
                        go_roundg (s.L - (q + j + 2))
                        case measure => have := Hgi.out; omega
                        case rel =>
                          have heq : ((s.mid q (.slice A' (s.xs.length + O'.length) ecap') O').more (.slice A2 (s.xs.length + O'.length + (q + j - su')) cap2) (raw c.b su' (q + j))).more (.slice A3 (((s.mid q (.slice A' (s.xs.length + O'.length) ecap') O').more (.slice A2 (s.xs.length + O'.length + (q + j - su')) cap2) (raw c.b su' (q + j))).xs.length + 1) cap3) [x (c.b (q + (j + 1)))] = s.mid q (.slice A3 (((s.mid q (.slice A' (s.xs.length + O'.length) ecap') O').more (.slice A2 (s.xs.length + O'.length + (q + j - su')) cap2) (raw c.b su' (q + j))).xs.length + 1) cap3) (O' ++ raw c.b su' (q + j) ++ [x (c.b (q + (j + 1)))]) := by
                            simp [DS.mid, DS.more, List.append_assoc]
                          have hgd := hgw3.out.dec
                          have hgf := (Hf2.out.trans (Far1.same ((Keep.refl _ W2).alloc (.cells #[.int .u8 (x (c.b (q + (j + 1))) : Nat)] 5)))).trans hgw3.out.far
                          rw [heq] at hgd hgf
                          have hT : TS c.b s.L p x s.r1 s.skip (q + (j + 2)) (q + (j + 2)) (O' ++ raw c.b su' (q + j) ++ [x (c.b (q + (j + 1)))]) := by
                            have h := Hts.out
                            rw [Hsk.out] at h ⊢
                            exact h.esc hlt3 Hb.out Hx0.out
                          refine ⟨j + 2, q + (j + 2), _, _, rfl, by omega, by go_num, rfl, ?_, hT, hgd.same (same_drewN _ _), hgf.trans (Far1.same (same_drewN _ _))⟩
                          go_num
                · as_aux_lemma =>
                    have hjx1 : ¬ (j + 1 < s.L - q) := by omega
                    have hend := hid ((Hts.out.back hlt2 Hb.out (fun h => hlt3 h.1)))
                    have hjL := hid (show s.L = q + j + 1 by omega)
                    go_wp2_with fail
                    rw [show (j : Int) + 2 = ((j + 2 : Nat) : Int) from by omega]
                    refine (ensure_no2 c _ (j + 2) _ Hd.out (by show s.L < q + (j + 2); omega) (by omega)).mono ?_
                    rintro e w3 ⟨rfl, hk3⟩
                    have Hd3 := hid (Hd.out.same hk3)
                    have Hf3 := hid (Hf.out.trans (Far1.same hk3))
                    have f1 : w3.cell? ⟨c.D, 1, none⟩ = some (.slice (some ⟨c.T, 0, none⟩) s.L s.cap) := Hd3.out.f1
                    have f3 : w3.cell? ⟨c.D, 3, none⟩ = some (.int .i64 q) := Hd3.out.f3
                    have fr3 := Hd3.out.fr 3
                    have Hk3 := hid hk3
                    clear hk3
                    go_wp2_with fail
                    go_meet
                    case rel =>
                      have t := hend.out
                      rw [← hjL.out] at t
                      exact Loops.of t.fin_end t.le t.le' (Nat.le_refl _) t.nil_ t.len t.skips h0 Hd3.out Hf3.out
              · as_aux_lemma =>
                  have hbb : ((c.b (q + j) : Int) != 92) = true := by rw [bne_iff_ne]; omega
                  have Hb := hid hb
                  clear hb
                  cases hp : p (c.b (q + j))
                  · have Hp := hid hp
                    go_wp2_with (go_at_call 133; refine (get_any g _ p _ (c.b_lt _) Hset.out).mono ?_; rintro e w2 ⟨rfl, rfl⟩)
                    go_meet
                    case rel =>
                      have t := Hts.out
                      have e := Loops.of (t.fin_stop hlt2 Hb.out Hp.out) t.le t.le' t.leL t.nil_ t.len t.skips h0 Hd.out Hf.out
                      rw [show ((q + j : Nat) : Int) = (q : Int) + (j : Int) from by omega] at e
                      exact e
                  · have Hp := hid hp
                    go_wp2_with (go_at_call 133; refine (get_any g _ p _ (c.b_lt _) Hset.out).mono ?_; rintro e w2 ⟨rfl, rfl⟩)
                    go_roundg (s.L - (q + j + 1))
                    case measure => have := Hgi.out; omega
                    case rel => exact ⟨j + 1, su', O', v', rfl, by omega, by go_num, rfl, rfl, Hts.out.one hlt2 Hb.out Hp.out, Hd.out, Hf.out⟩
            · have hjx : ¬ (j < s.L - q) := by omega
              go_wp2_with fail
              go_roundg (s.L - s.L)
              case measure => have := Hgk0.out; omega
              case rel =>
                have e : q + j = s.L := by omega
                have t := Hts.out
                rw [e] at t
                have e2 : (q : Int) + ((s.L - q : Nat) : Int) = ((s.L : Nat) : Int) := by omega
                rw [e2]
                exact ⟨s.L, su', O', v', rfl, rfl, t, Hd.out.set_r1 s.L (Nat.le_trans h0 h3) (Nat.le_refl _), Hf.out.trans (Far1.of_D (keep_D _ _ _ _) rfl rfl)⟩
        · have hd2 := hd
          go_wp2_with (go_at_call 72; refine (ensure_no c _ 1 _ hd (by show s.L < q + 1; omega) (by omega)).mono ?_; rintro e w1 ⟨rfl, hk1⟩)
          have hqe : q = s.L := by omega
          go_wp2_with fail
          go_meet
          case rel =>
            have t := Hts.out
            rw [hqe] at t
            have hd4 := hd2.same hk1
            rw [hqe] at hd4
            have hf4 := Hf.out.trans (Far1.same hk1)
            rw [hqe] at hf4
            exact ⟨s.L, su, O, v, t.fin_end.1, t.fin_end.2, t.le, t.le', Nat.le_refl _, t.nil_, t.len, t.skips, rfl, hd4, hf4⟩
  case rest => as_aux_lemma =>
      obtain ⟨q, su, O, v, hq, hsays, hr1, hsq, hqL, hn, hl, hskp, rfl, hd, hf⟩ := hcut
      obtain ⟨A', ecap', hv', _, _, hnc', hcm', _⟩ := own_cut0 hd.esc
      have hve : v = .slice A' (s.xs.length + O.length) ecap' := by
        rw [← List.length_append]
        exact hv'
      subst hve
      have Hd := hid hd
      have Hf := hid hf
      have Htok := hid (And.intro hq hsays)
      have Hn := hid (And.intro hn hskp)
      have E0 : Hid (s.r0 + (s.r1 - s.r0) = s.r1) := by unfold Hid; omega
      clear hq hsays hd hf hv' hn hskp hnc' hcm' f2 f3 f7
      have f1 : wc.cell? ⟨c.D, 1, none⟩ = some (.slice (some ⟨c.T, 0, none⟩) s.L s.cap) := Hd.out.f1
      have f2 : wc.cell? ⟨c.D, 2, none⟩ = some (.int .i64 s.r0) := Hd.out.f2
      have f3 : wc.cell? ⟨c.D, 3, none⟩ = some (.int .i64 q) := Hd.out.f3
      go_wp2_with fail
      go_upto_region 26 with fail
      go_cut [16] (fun V wd => Hid (Same wc wd) ∧ ∃ A k, V = .slice A (q - s.r1) k ∧ Hid (0 < q - s.r1 → A = some ⟨c.T, s.r1, none⟩) ∧ q - s.r1 ≤ k ∧ k ≤ 9223372036854775807)
      case first =>
        go_wp2_with fail
        go_quiet (fail)
        go_wp2_with fail
        all_goals
          go_meet
          case rel =>
            have e0 := E0.out
            refine ⟨same_drewN _ _, _, _, rfl, ?_, by omega, by omega⟩
            first | (intro hh; rfl) | (intro hh; exfalso; omega)
      case rest =>
        obtain ⟨hsm, A2, k2, rfl, hA2, hk2, hk2'⟩ := hcut
        have Hd1 := hid (Hd.out.same hsm.out)
        have Hf1 := hid (Hf.out.trans (Far1.same hsm.out))
        have Hset1 : Hid (SetAt wc g p) := Hs.out.keep Hf1.out.keep Hg.out
        have Hrd := hid (rd_text Hd1.out (a := s.r1) (n := q - s.r1) (k := k2) (A := A2) (by show s.r1 + (q - s.r1) ≤ s.L; omega) hA2.out hk2 hk2')
        have Hsm := hid hsm.out
        clear f1 f2 f3 hsm
        have f8 : wc.cell? ⟨c.D, 8, none⟩ = some (.int .i64 s.line) := Hd1.out.f8
        have fr8 := Hd1.out.fr 8
        go_upto_if 185 with (go_at_call 133; refine (get_any g 10 p _ (by omega) Hset1.out).mono ?_; rintro e w2 ⟨rfl, rfl⟩)
        go_cut [] (fun wl => ∃ l : Int, Hid (Dec wl c ((s.mid q (.slice A' (s.xs.length + O.length) ecap') O).ln l)) ∧ Hid (Keep (fun k => k = c.D) wc wl))
        case first =>
          cases hp : p 10
          · go_wp2_with fail
            go_meet
            case rel => exact ⟨s.line, Hd1.out, Keep.refl _ _⟩
          · go_wp2_with fail
            refine still_tail_all 7 (by kernel_rfl) (by kernel_rfl) (fun W HW0 => ?_)
            have HdW := hid (Hd1.out.same HW0)
            have HrdW := hid (Hrd.out.same HW0)
            have HW := hid HW0
            clear HW0 f8 fr8
            have f8 : W.cell? ⟨c.D, 8, none⟩ = some (.int .i64 s.line) := HdW.out.f8
            have fr8 := HdW.out.fr 8
            simp only [List.take_succ_cons, List.take_zero, List.drop_succ_cons, List.drop_zero]
            repeat still_step
            still_call (zzCount_any (.slice A2 (q - s.r1) k2) (q - s.r1) 10 (fun j => c.b (s.r1 + j)) W HrdW.out (by omega))
            repeat still_step
            refine wpStill_nil ?_
            go_wp2_with fail
            go_meet
            case rel => exact ⟨_, HdW.out.set_line _, (Keep.wide HW.out).trans (keep_D _ _ _ _)⟩
        case rest =>
          obtain ⟨l, hdl, hkl⟩ := hcut
          have Hdl := hid hdl.out
          have Hfl : Hid (Far1 c s ((s.mid q (.slice A' (s.xs.length + O.length) ecap') O).ln l) w wc) := Hf1.out.trans (Far1.of_D hkl.out rfl rfl)
          have Hrdl := hid (rd_text Hdl.out (a := s.r1) (n := q - s.r1) (k := k2) (A := A2) (by show s.r1 + (q - s.r1) ≤ s.L; omega) hA2.out hk2 hk2')
          clear f8 fr8 hdl hkl
          have f1 : wc.cell? ⟨c.D, 1, none⟩ = some (.slice (some ⟨c.T, 0, none⟩) s.L s.cap) := Hdl.out.f1
          have f2 : wc.cell? ⟨c.D, 2, none⟩ = some (.int .i64 s.r0) := Hdl.out.f2
          have f3 : wc.cell? ⟨c.D, 3, none⟩ = some (.int .i64 q) := Hdl.out.f3
          have f7 : wc.cell? ⟨c.D, 7, none⟩ = some (.slice A' (s.xs.length + O.length) ecap') := Hdl.out.f7
          have fr7 := Hdl.out.fr 7
          go_upto_if 201 with fail
          go_cut [16] (fun V we => ∃ (s3 : DS) (n : Nat) (f : Nat → Nat), Hid (EscOut c s p x V n f s3 w we) ∧ Hid (s3.sec = s.sec) ∧ n ≤ 3000000)
          case first =>
            by_cases hO : O.length = 0
            · as_aux_lemma =>
                go_wp2_with fail
                go_meet
                case rel =>
                  obtain rfl : O = [] := List.eq_nil_of_length_eq_zero hO
                  have hsu : su = s.r1 := Hn.out.1 rfl
                  subst hsu
                  refine ⟨(s.mid q (.slice A' (s.xs.length + 0) ecap') []).ln l, q - s.r1, fun j => c.b (s.r1 + j), ?_, rfl, by omega⟩
                  exact {
                    dec := Hdl.out
                    far := Hfl.out
                    rd := Hrdl.out
                    loc := ⟨fun T off m cap e hm => by
                      injection e with e1 e2 e3
                      subst e2
                      rw [hA2.out hm] at e1
                      injection e1 with e1
                      injection e1 with e4 e5
                      subst e4
                      refine ⟨fun e => Hdl.out.D_T e.symm, fun e => ?_⟩
                      have := (Hdl.out.own_ge e).1
                      have := Hdl.out.base_T
                      omega⟩
                    L := rfl
                    cap := rfl
                    r0 := rfl
                    skip := rfl
                    r1 := Htok.out.1.symm
                    le := hsq
                    ok := by show s.r0 + (s.xs ++ []).length ≤ q; rw [List.append_nil]; omega
                    skips := fun _ => rfl
                    says := fun hs => by
                      rw [Htok.out.2 hs]
                      refine ⟨by simp [raw_length], fun j hj => ?_⟩
                      simp [raw, List.getD, hj] }
            · have hO1 : 0 < O.length := by omega
              have hOs : O.length ≤ su - s.r1 := hl
              have hgt : ((s.xs.length : Nat) : Int) < ((s.xs.length + O.length : Nat) : Int) := by omega
              by_cases e7 : s.cap = su
              · as_aux_lemma =>
                  obtain rfl : q = s.cap := by omega
                  subst e7
                  have hfit := hid (AppFit.mk (w := wc) (base := c.base) (v := .slice A' (s.xs.length + O.length) ecap') (xs := s.xs ++ O) (T := c.T) (off := 0) (m := s.cap - s.cap) (news := raw c.b s.cap s.cap) Hdl.out.esc (raw_length _ _ _) (fun i hi => by
                    first
                      | (exfalso; omega)
                      | (rw [show (raw c.b s.cap s.cap).getD i 0 = c.b (s.cap + i) by simp [raw, List.getD, hi]]
                         exact Hdl.out.byte (by omega))) (by rw [List.length_append]; omega) Hdl.out.base_le)
                  go_wp2_with fail
                  have e2 : IntKind.i64.wrap (s.cap : Int) = (s.cap : Int) := IntWalk.i64_in _ (by omega)
                  have e6 : (s.cap : Int) ≤ max (s.cap : Int) 0 := by omega
                  have e4 : s.cap ≤ s.cap := by omega
                  have e3 : (0 : Int) ≤ (s.cap : Int) := by omega
                  have e5 : (0 : Int) ≤ (s.cap : Int) := by omega
                  have hpos : 0 < (s.xs ++ O).length + (s.cap - s.cap) := by rw [List.length_append]; omega
                  refine wp_region_till 23 (fun w' => w'.cell? ⟨c.D, 1, none⟩ = some (.slice (some ⟨c.T, 0, none⟩) s.L s.cap) ∧ w'.cell? ⟨c.D, 2, none⟩ = some (.int .i64 s.r0) ∧ w'.cell? ⟨c.D, 3, none⟩ = some (.int .i64 s.cap) ∧ w'.cell? ⟨c.D, 7, none⟩ = some (.slice A' (s.xs.length + O.length) ecap')) (by kernel_rfl) ?_
                  have hS0 : Hid ((fun w' : World => w'.cell? ⟨c.D, 1, none⟩ = some (.slice (some ⟨c.T, 0, none⟩) s.L s.cap) ∧ w'.cell? ⟨c.D, 2, none⟩ = some (.int .i64 s.r0) ∧ w'.cell? ⟨c.D, 3, none⟩ = some (.int .i64 s.cap) ∧ w'.cell? ⟨c.D, 7, none⟩ = some (.slice A' (s.xs.length + O.length) ecap')) wc.drew) := ⟨f1, f2, f3, f7⟩
                  refine wpTill_take (i := 0) (oi := ⟨_, _, _, _, _, _⟩) (v := ?_) rfl (by kernel_rfl) (by decide) (by kernel_rfl) (by kernel_rfl) (by kernel_rfl) (fun _ _ _ h => h) (Or.inl ⟨by rfl, ?_⟩) hS0.out ?_
                  rotate_left
                  · (intro w' hSw; (try dsimp only at hSw); go_simp; (try with_reducible rfl))
                  simp only [Act.put, List.setIfInBounds_toArray, List.set_cons_zero, List.set_cons_succ]
                  refine wpTill_take (i := 1) (oi := ⟨_, _, _, _, _, _⟩) (v := ?_) rfl (by kernel_rfl) (by decide) (by kernel_rfl) (by kernel_rfl) (by kernel_rfl) (fun _ _ _ h => h) (Or.inl ⟨by rfl, ?_⟩) hS0.out ?_
                  rotate_left
                  · (intro w' hSw; (try dsimp only at hSw); go_simp; (try with_reducible rfl))
                  simp only [Act.put, List.setIfInBounds_toArray, List.set_cons_zero, List.set_cons_succ]
                  refine wpTill_take (i := 2) (oi := ⟨_, _, _, _, _, _⟩) (v := ?_) rfl (by kernel_rfl) (by decide) (by kernel_rfl) (by kernel_rfl) (by kernel_rfl) (fun _ _ _ h => h) (Or.inl ⟨by rfl, ?_⟩) hS0.out ?_
                  rotate_left
                  · (intro w' hSw; (try dsimp only at hSw); go_simp; (try with_reducible rfl))
                  simp only [Act.put, List.setIfInBounds_toArray, List.set_cons_zero, List.set_cons_succ]
                  refine wpTill_take (i := 3) (oi := ⟨_, _, _, _, _, _⟩) (v := ?_) rfl (by kernel_rfl) (by decide) (by kernel_rfl) (by kernel_rfl) (by kernel_rfl) (fun _ _ _ h => h) (Or.inl ⟨by rfl, ?_⟩) hS0.out ?_
                  rotate_left
                  · (intro w' hSw; (try dsimp only at hSw); go_simp; (try with_reducible rfl))
                  simp only [Act.put, List.setIfInBounds_toArray, List.set_cons_zero, List.set_cons_succ]
                  refine wpTill_take (i := 4) (oi := ⟨_, _, _, _, _, _⟩) (v := ?_) rfl (by kernel_rfl) (by decide) (by kernel_rfl) (by kernel_rfl) (by kernel_rfl) (fun _ _ _ h => h) (Or.inl ⟨by rfl, ?_⟩) hS0.out ?_
                  rotate_left
                  · (intro w' hSw; (try dsimp only at hSw); go_simp; (try with_reducible rfl))
                  simp only [Act.put, List.setIfInBounds_toArray, List.set_cons_zero, List.set_cons_succ]
                  refine wpTill_take (i := 5) (oi := ⟨_, _, _, _, _, _⟩) (v := ?_) rfl (by kernel_rfl) (by decide) (by kernel_rfl) (by kernel_rfl) (by kernel_rfl) (fun _ _ _ h => h) (Or.inl ⟨by rfl, ?_⟩) hS0.out ?_
                  rotate_left
                  · (intro w' hSw; (try dsimp only at hSw); go_simp; (try with_reducible rfl))
                  simp only [Act.put, List.setIfInBounds_toArray, List.set_cons_zero, List.set_cons_succ]
                  refine wpTill_take (i := 6) (oi := ⟨_, _, _, _, _, _⟩) (v := ?_) rfl (by kernel_rfl) (by decide) (by kernel_rfl) (by kernel_rfl) (by kernel_rfl) (fun _ _ _ h => h) (Or.inl ⟨by rfl, ?_⟩) hS0.out ?_
                  rotate_left
                  · (intro w' hSw; (try dsimp only at hSw); go_simp; (try with_reducible rfl))
                  simp only [Act.put, List.setIfInBounds_toArray, List.set_cons_zero, List.set_cons_succ]
                  refine wpTill_take (i := 7) (oi := ⟨_, _, _, _, _, _⟩) (v := ?_) rfl (by kernel_rfl) (by decide) (by kernel_rfl) (by kernel_rfl) (by kernel_rfl) (fun _ _ _ h => h) (Or.inl ⟨by rfl, ?_⟩) hS0.out ?_
                  rotate_left
                  · (intro w' hSw; (try dsimp only at hSw); go_simp; (try with_reducible rfl))
                  simp only [Act.put, List.setIfInBounds_toArray, List.set_cons_zero, List.set_cons_succ]
                  refine wpTill_take (i := 8) (oi := ⟨_, _, _, _, _, _⟩) (v := ?_) rfl (by kernel_rfl) (by decide) (by kernel_rfl) (by kernel_rfl) (by kernel_rfl) (fun _ _ _ h => h) (Or.inl ⟨by rfl, ?_⟩) hS0.out ?_
                  rotate_left
                  · (intro w' hSw; (try dsimp only at hSw); go_simp; (try with_reducible rfl))
                  simp only [Act.put, List.setIfInBounds_toArray, List.set_cons_zero, List.set_cons_succ]
                  refine wpTill_take (i := 9) (oi := ⟨_, _, _, _, _, _⟩) (v := ?_) rfl (by kernel_rfl) (by decide) (by kernel_rfl) (by kernel_rfl) (by kernel_rfl) (fun _ _ _ h => h) (Or.inl ⟨by rfl, ?_⟩) hS0.out ?_
                  rotate_left
                  · (intro w' hSw; (try dsimp only at hSw); go_simp; (try with_reducible rfl))
                  simp only [Act.put, List.setIfInBounds_toArray, List.set_cons_zero, List.set_cons_succ]
                  refine wpTill_take (i := 10) (oi := ⟨_, _, _, _, _, _⟩) (v := ?_) rfl (by kernel_rfl) (by decide) (by kernel_rfl) (by kernel_rfl) (by kernel_rfl) (fun _ _ _ h => h) (Or.inl ⟨by rfl, ?_⟩) hS0.out ?_
                  rotate_left
                  · (intro w' hSw; (try dsimp only at hSw); go_simp; (try with_reducible rfl))
                  simp only [Act.put, List.setIfInBounds_toArray, List.set_cons_zero, List.set_cons_succ]
                  refine wpTill_take (i := 11) (oi := ⟨_, _, _, _, _, _⟩) (v := ?_) rfl (by kernel_rfl) (by decide) (by kernel_rfl) (by kernel_rfl) (by kernel_rfl) (fun _ _ _ h => h) (Or.inl ⟨by rfl, ?_⟩) hS0.out ?_
                  rotate_left
                  · (intro w' hSw; (try dsimp only at hSw); go_simp; (try with_reducible rfl))
                  simp only [Act.put, List.setIfInBounds_toArray, List.set_cons_zero, List.set_cons_succ]
                  refine wpTill_take (i := 12) (oi := ⟨_, _, _, _, _, _⟩) (v := ?_) rfl (by kernel_rfl) (by decide) (by kernel_rfl) (by kernel_rfl) (by kernel_rfl) (fun _ _ _ h => h) (Or.inl ⟨by rfl, ?_⟩) hS0.out ?_
                  rotate_left
                  · (intro w' hSw; (try dsimp only at hSw); go_simp; (try with_reducible rfl))
                  simp only [Act.put, List.setIfInBounds_toArray, List.set_cons_zero, List.set_cons_succ]
                  refine wpTill_take (i := 13) (oi := ⟨_, _, _, _, _, _⟩) (v := ?_) rfl (by kernel_rfl) (by decide) (by kernel_rfl) (by kernel_rfl) (by kernel_rfl) (fun _ _ _ h => h) (Or.inl ⟨by rfl, ?_⟩) hS0.out ?_
                  rotate_left
                  · (intro w' hSw; (try dsimp only at hSw); go_simp; (try with_reducible rfl))
                  simp only [Act.put, List.setIfInBounds_toArray, List.set_cons_zero, List.set_cons_succ]
                  refine wpTill_take (i := 14) (oi := ⟨_, _, _, _, _, _⟩) (v := ?_) rfl (by kernel_rfl) (by decide) (by kernel_rfl) (by kernel_rfl) (by kernel_rfl) (fun _ _ _ h => h) (Or.inl ⟨by rfl, ?_⟩) hS0.out ?_
                  rotate_left
                  · (intro w' hSw; (try dsimp only at hSw); go_simp; (try with_reducible rfl))
                  simp only [Act.put, List.setIfInBounds_toArray, List.set_cons_zero, List.set_cons_succ]
                  refine wpTill_take (i := 15) (oi := ⟨_, _, _, _, _, _⟩) (v := ?_) rfl (by kernel_rfl) (by decide) (by kernel_rfl) (by kernel_rfl) (by kernel_rfl) (fun _ _ _ h => h) (Or.inl ⟨by rfl, ?_⟩) hS0.out ?_
                  rotate_left
                  · (intro w' hSw; (try dsimp only at hSw); go_simp; (try with_reducible rfl))
                  simp only [Act.put, List.setIfInBounds_toArray, List.set_cons_zero, List.set_cons_succ]
                  refine wpTill_take (i := 16) (oi := ⟨_, _, _, _, _, _⟩) (v := ?_) rfl (by kernel_rfl) (by decide) (by kernel_rfl) (by kernel_rfl) (by kernel_rfl) (fun _ _ _ h => h) (Or.inl ⟨by rfl, ?_⟩) hS0.out ?_
                  rotate_left
                  · (intro w' hSw; (try dsimp only at hSw); go_simp; (try with_reducible rfl))
                  simp only [Act.put, List.setIfInBounds_toArray, List.set_cons_zero, List.set_cons_succ]
                  refine wpTill_take (i := 17) (oi := ⟨_, _, _, _, _, _⟩) (v := ?_) rfl (by kernel_rfl) (by decide) (by kernel_rfl) (by kernel_rfl) (by kernel_rfl) (fun _ _ _ h => h) (Or.inl ⟨by rfl, ?_⟩) hS0.out ?_
                  rotate_left
                  · (intro w' hSw; (try dsimp only at hSw); go_simp; (try with_reducible rfl))
                  simp only [Act.put, List.setIfInBounds_toArray, List.set_cons_zero, List.set_cons_succ]
                  refine wpTill_take (i := 18) (oi := ⟨_, _, _, _, _, _⟩) (v := ?_) rfl (by kernel_rfl) (by decide) (by kernel_rfl) (by kernel_rfl) (by kernel_rfl) (fun _ _ _ h => h) (Or.inl ⟨by rfl, ?_⟩) hS0.out ?_
                  rotate_left
                  · (intro w' hSw; (try dsimp only at hSw); go_simp; (try with_reducible rfl))
                  simp only [Act.put, List.setIfInBounds_toArray, List.set_cons_zero, List.set_cons_succ]
                  refine wpTill_take (i := 19) (oi := ⟨_, _, _, _, _, _⟩) (v := ?_) rfl (by kernel_rfl) (by decide) (by kernel_rfl) (by kernel_rfl) (by kernel_rfl) (fun _ _ _ h => h) (Or.inl ⟨by rfl, ?_⟩) hS0.out ?_
                  rotate_left
                  · (intro w' hSw; (try dsimp only at hSw); go_simp; (try with_reducible rfl))
                  simp only [Act.put, List.setIfInBounds_toArray, List.set_cons_zero, List.set_cons_succ]
                  refine wpTill_one (i := 20) (o := ⟨_, _, _, _, _, _⟩) rfl (by kernel_rfl) (fun K hK => ?_)
                  refine step_append_bytes rfl (.tmp 206) (.tmp 221) rfl c.base (.slice A' (s.xs.length + O.length) ecap') (s.xs ++ O) c.T 0 (s.cap - s.cap) (s.cap - s.cap) (raw c.b s.cap s.cap) (hfit.out.same (same_drew _)) (by simp [Act.eval]) (by simp [Act.eval]) ?_
                  intro v2 w2 hg2
                  obtain ⟨g3, cap3, rfl, hbg, hglt⟩ := hg2.own.form hpos
                  have hcap3 := own_room hg2.own
                  have hgw := hid (Dec.grew (Hdl.out.same (same_drew _)) (raw_length _ _ _) hg2)
                  clear hg2
                  have fr2 := hgw.out.frozen 7
                  have g7 : w2.cell? ⟨c.D, 7, none⟩ = some (.slice A' (s.xs.length + O.length) ecap') := (hgw.out.cell 7).trans f7
                  have hS1 : Hid ((fun w' : World => w'.cell? ⟨c.D, 1, none⟩ = some (.slice (some ⟨c.T, 0, none⟩) s.L s.cap) ∧ w'.cell? ⟨c.D, 2, none⟩ = some (.int .i64 s.r0) ∧ w'.cell? ⟨c.D, 3, none⟩ = some (.int .i64 s.cap) ∧ w'.cell? ⟨c.D, 7, none⟩ = some (.slice A' (s.xs.length + O.length) ecap')) w2) := ⟨(hgw.out.cell 1).trans f1, (hgw.out.cell 2).trans f2, (hgw.out.cell 3).trans f3, g7⟩
                  refine hK.out _ _ (fun _ => hS1.out) ?_
                  clear hK K hS0
                  simp only [Act.put, List.setIfInBounds_toArray, List.set_cons_zero, List.set_cons_succ]
                  refine wpTill_one (i := 21) (o := ⟨_, _, _, _, _, _⟩) rfl (by kernel_rfl) (fun K hK => ?_)
                  go_simp
                  refine hK.out _ _ (fun _ => hS1.out) ?_
                  clear hK K
                  try simp only [Act.put, List.setIfInBounds_toArray, List.set_cons_zero, List.set_cons_succ]
                  refine wpTill_one (i := 22) (o := ⟨_, _, _, _, _, _⟩) rfl (by kernel_rfl) (fun K hK => ?_)
                  go_simp
                  refine hK.out _ _ (fun _ => hS1.out) ?_
                  clear hK K
                  try simp only [Act.put, List.setIfInBounds_toArray, List.set_cons_zero, List.set_cons_succ]
                  refine wpTill_one (i := 23) (o := ⟨_, _, _, _, _, _⟩) rfl (by kernel_rfl) (fun K hK => ?_)
                  go_simp
                  refine hK.out _ _ (fun h => absurd rfl h) ?_
                  clear hK K
                  refine wpTill_done (by kernel_rfl) ?_ _
                  clear e2 e3 e4 e5 e6
                  rw [List.length_append] at hcap3
                  have hcs : s.xs.length < cap3 := by omega
                  have Hd2 := hid hgw.out.dec
                  have Hf2 := hid ((Hfl.out.trans (Far1.same (same_drew _))).trans hgw.out.far)
                  simp only [List.length_append, Nat.sub_self, Nat.add_zero] at Hd2 Hf2 hcap3
                  clear fr2 g7 hgw hfit f1 f2 f3 f7 fr7
                  generalize hW3 : World.setCell w2 ⟨c.D, 7, none⟩ (Value.slice (some ⟨g3, 0, none⟩) (s.xs.length + O.length) cap3) = W3 at Hd2 Hf2 ⊢
                  clear hW3
                  have f7 : W3.cell? ⟨c.D, 7, none⟩ = some (.slice (some ⟨g3, 0, none⟩) (s.xs.length + O.length) cap3) := Hd2.out.f7
                  have hne : ¬ cap3 = s.xs.length := by omega
                  have hxL : s.xs.length ≤ s.xs.length + O.length := by omega
                  go_wp2_with fail
                  go_meet
                  case rel =>
                    have hfin := EscOut.app Hd2.out Hf2.out (by rw [Nat.sub_self, Nat.add_zero]) hbg hcap3.1 hcap3.2 Htok.out.1 Htok.out.2 Hx.out hr1 hsq hO1 hOs Hn.out.2 hok (by omega)
                    rw [Nat.add_sub_cancel_left] at hfin
                    exact hfin
              · as_aux_lemma =>
                  skip
                  have hfit := hid (AppFit.mk (w := wc) (base := c.base) (v := .slice A' (s.xs.length + O.length) ecap') (xs := s.xs ++ O) (T := c.T) (off := su) (m := q - su) (news := raw c.b su q) Hdl.out.esc (raw_length _ _ _) (fun i hi => by
                    first
                      | (exfalso; omega)
                      | (rw [show (raw c.b su q).getD i 0 = c.b (su + i) by simp [raw, List.getD, hi]]
                         exact Hdl.out.byte (by omega))) (by rw [List.length_append]; omega) Hdl.out.base_le)
                  go_wp2_with fail
                  have e2 : IntKind.i64.wrap (su : Int) = (su : Int) := IntWalk.i64_in _ (by omega)
                  have e3 : (0 : Int) ≤ (q : Int) := by omega
                  have e4 : (q : Int) ≤ (s.cap : Int) := by omega
                  have e4' : q ≤ s.cap := by omega
                  have hsq' : su ≤ q := by omega
                  have e5 : (0 : Int) ≤ (su : Int) := by omega
                  have e6 : (su : Int) ≤ max (q : Int) 0 := by omega
                  have hpos : 0 < (s.xs ++ O).length + (q - su) := by rw [List.length_append]; omega
                  refine wp_region_till 23 (fun w' => w'.cell? ⟨c.D, 1, none⟩ = some (.slice (some ⟨c.T, 0, none⟩) s.L s.cap) ∧ w'.cell? ⟨c.D, 2, none⟩ = some (.int .i64 s.r0) ∧ w'.cell? ⟨c.D, 3, none⟩ = some (.int .i64 q) ∧ w'.cell? ⟨c.D, 7, none⟩ = some (.slice A' (s.xs.length + O.length) ecap')) (by kernel_rfl) ?_
                  have hS0 : Hid ((fun w' : World => w'.cell? ⟨c.D, 1, none⟩ = some (.slice (some ⟨c.T, 0, none⟩) s.L s.cap) ∧ w'.cell? ⟨c.D, 2, none⟩ = some (.int .i64 s.r0) ∧ w'.cell? ⟨c.D, 3, none⟩ = some (.int .i64 q) ∧ w'.cell? ⟨c.D, 7, none⟩ = some (.slice A' (s.xs.length + O.length) ecap')) wc.drew) := ⟨f1, f2, f3, f7⟩
                  refine wpTill_take (i := 0) (oi := ⟨_, _, _, _, _, _⟩) (v := ?_) rfl (by kernel_rfl) (by decide) (by kernel_rfl) (by kernel_rfl) (by kernel_rfl) (fun _ _ _ h => h) (Or.inl ⟨by rfl, ?_⟩) hS0.out ?_
                  rotate_left
                  · (intro w' hSw; (try dsimp only at hSw); go_simp; (try with_reducible rfl))
                  simp only [Act.put, List.setIfInBounds_toArray, List.set_cons_zero, List.set_cons_succ]
                  refine wpTill_take (i := 1) (oi := ⟨_, _, _, _, _, _⟩) (v := ?_) rfl (by kernel_rfl) (by decide) (by kernel_rfl) (by kernel_rfl) (by kernel_rfl) (fun _ _ _ h => h) (Or.inl ⟨by rfl, ?_⟩) hS0.out ?_
                  rotate_left
                  · (intro w' hSw; (try dsimp only at hSw); go_simp; (try with_reducible rfl))
                  simp only [Act.put, List.setIfInBounds_toArray, List.set_cons_zero, List.set_cons_succ]
                  refine wpTill_take (i := 2) (oi := ⟨_, _, _, _, _, _⟩) (v := ?_) rfl (by kernel_rfl) (by decide) (by kernel_rfl) (by kernel_rfl) (by kernel_rfl) (fun _ _ _ h => h) (Or.inl ⟨by rfl, ?_⟩) hS0.out ?_
                  rotate_left
                  · (intro w' hSw; (try dsimp only at hSw); go_simp; (try with_reducible rfl))
                  simp only [Act.put, List.setIfInBounds_toArray, List.set_cons_zero, List.set_cons_succ]
                  refine wpTill_take (i := 3) (oi := ⟨_, _, _, _, _, _⟩) (v := ?_) rfl (by kernel_rfl) (by decide) (by kernel_rfl) (by kernel_rfl) (by kernel_rfl) (fun _ _ _ h => h) (Or.inl ⟨by rfl, ?_⟩) hS0.out ?_
                  rotate_left
                  · (intro w' hSw; (try dsimp only at hSw); go_simp; (try with_reducible rfl))
                  simp only [Act.put, List.setIfInBounds_toArray, List.set_cons_zero, List.set_cons_succ]
                  refine wpTill_take (i := 4) (oi := ⟨_, _, _, _, _, _⟩) (v := ?_) rfl (by kernel_rfl) (by decide) (by kernel_rfl) (by kernel_rfl) (by kernel_rfl) (fun _ _ _ h => h) (Or.inl ⟨by rfl, ?_⟩) hS0.out ?_
                  rotate_left
                  · (intro w' hSw; (try dsimp only at hSw); go_simp; (try with_reducible rfl))
                  simp only [Act.put, List.setIfInBounds_toArray, List.set_cons_zero, List.set_cons_succ]
                  refine wpTill_take (i := 5) (oi := ⟨_, _, _, _, _, _⟩) (v := ?_) rfl (by kernel_rfl) (by decide) (by kernel_rfl) (by kernel_rfl) (by kernel_rfl) (fun _ _ _ h => h) (Or.inl ⟨by rfl, ?_⟩) hS0.out ?_
                  rotate_left
                  · (intro w' hSw; (try dsimp only at hSw); go_simp; (try with_reducible rfl))
                  simp only [Act.put, List.setIfInBounds_toArray, List.set_cons_zero, List.set_cons_succ]
                  refine wpTill_take (i := 6) (oi := ⟨_, _, _, _, _, _⟩) (v := ?_) rfl (by kernel_rfl) (by decide) (by kernel_rfl) (by kernel_rfl) (by kernel_rfl) (fun _ _ _ h => h) (Or.inl ⟨by rfl, ?_⟩) hS0.out ?_
                  rotate_left
                  · (intro w' hSw; (try dsimp only at hSw); go_simp; (try with_reducible rfl))
                  simp only [Act.put, List.setIfInBounds_toArray, List.set_cons_zero, List.set_cons_succ]
                  refine wpTill_take (i := 7) (oi := ⟨_, _, _, _, _, _⟩) (v := ?_) rfl (by kernel_rfl) (by decide) (by kernel_rfl) (by kernel_rfl) (by kernel_rfl) (fun _ _ _ h => h) (Or.inl ⟨by rfl, ?_⟩) hS0.out ?_
                  rotate_left
                  · (intro w' hSw; (try dsimp only at hSw); go_simp; (try with_reducible rfl))
                  simp only [Act.put, List.setIfInBounds_toArray, List.set_cons_zero, List.set_cons_succ]
                  refine wpTill_take (i := 8) (oi := ⟨_, _, _, _, _, _⟩) (v := ?_) rfl (by kernel_rfl) (by decide) (by kernel_rfl) (by kernel_rfl) (by kernel_rfl) (fun _ _ _ h => h) (Or.inl ⟨by rfl, ?_⟩) hS0.out ?_
                  rotate_left
                  · (intro w' hSw; (try dsimp only at hSw); go_simp; (try with_reducible rfl))
                  simp only [Act.put, List.setIfInBounds_toArray, List.set_cons_zero, List.set_cons_succ]
                  refine wpTill_take (i := 9) (oi := ⟨_, _, _, _, _, _⟩) (v := ?_) rfl (by kernel_rfl) (by decide) (by kernel_rfl) (by kernel_rfl) (by kernel_rfl) (fun _ _ _ h => h) (Or.inl ⟨by rfl, ?_⟩) hS0.out ?_
                  rotate_left
                  · (intro w' hSw; (try dsimp only at hSw); go_simp; (try with_reducible rfl))
                  simp only [Act.put, List.setIfInBounds_toArray, List.set_cons_zero, List.set_cons_succ]
                  refine wpTill_take (i := 10) (oi := ⟨_, _, _, _, _, _⟩) (v := ?_) rfl (by kernel_rfl) (by decide) (by kernel_rfl) (by kernel_rfl) (by kernel_rfl) (fun _ _ _ h => h) (Or.inl ⟨by rfl, ?_⟩) hS0.out ?_
                  rotate_left
                  · (intro w' hSw; (try dsimp only at hSw); go_simp; (try with_reducible rfl))
                  simp only [Act.put, List.setIfInBounds_toArray, List.set_cons_zero, List.set_cons_succ]
                  refine wpTill_take (i := 11) (oi := ⟨_, _, _, _, _, _⟩) (v := ?_) rfl (by kernel_rfl) (by decide) (by kernel_rfl) (by kernel_rfl) (by kernel_rfl) (fun _ _ _ h => h) (Or.inl ⟨by rfl, ?_⟩) hS0.out ?_
                  rotate_left
                  · (intro w' hSw; (try dsimp only at hSw); go_simp; (try with_reducible rfl))
                  simp only [Act.put, List.setIfInBounds_toArray, List.set_cons_zero, List.set_cons_succ]
                  refine wpTill_take (i := 12) (oi := ⟨_, _, _, _, _, _⟩) (v := ?_) rfl (by kernel_rfl) (by decide) (by kernel_rfl) (by kernel_rfl) (by kernel_rfl) (fun _ _ _ h => h) (Or.inl ⟨by rfl, ?_⟩) hS0.out ?_
                  rotate_left
                  · (intro w' hSw; (try dsimp only at hSw); go_simp; (try with_reducible rfl))
                  simp only [Act.put, List.setIfInBounds_toArray, List.set_cons_zero, List.set_cons_succ]
                  refine wpTill_take (i := 13) (oi := ⟨_, _, _, _, _, _⟩) (v := ?_) rfl (by kernel_rfl) (by decide) (by kernel_rfl) (by kernel_rfl) (by kernel_rfl) (fun _ _ _ h => h) (Or.inl ⟨by rfl, ?_⟩) hS0.out ?_
                  rotate_left
                  · (intro w' hSw; (try dsimp only at hSw); go_simp; (try with_reducible rfl))
                  simp only [Act.put, List.setIfInBounds_toArray, List.set_cons_zero, List.set_cons_succ]
                  refine wpTill_take (i := 14) (oi := ⟨_, _, _, _, _, _⟩) (v := ?_) rfl (by kernel_rfl) (by decide) (by kernel_rfl) (by kernel_rfl) (by kernel_rfl) (fun _ _ _ h => h) (Or.inl ⟨by rfl, ?_⟩) hS0.out ?_
                  rotate_left
                  · (intro w' hSw; (try dsimp only at hSw); go_simp; (try with_reducible rfl))
                  simp only [Act.put, List.setIfInBounds_toArray, List.set_cons_zero, List.set_cons_succ]
                  refine wpTill_take (i := 15) (oi := ⟨_, _, _, _, _, _⟩) (v := ?_) rfl (by kernel_rfl) (by decide) (by kernel_rfl) (by kernel_rfl) (by kernel_rfl) (fun _ _ _ h => h) (Or.inl ⟨by rfl, ?_⟩) hS0.out ?_
                  rotate_left
                  · (intro w' hSw; (try dsimp only at hSw); go_simp; (try with_reducible rfl))
                  simp only [Act.put, List.setIfInBounds_toArray, List.set_cons_zero, List.set_cons_succ]
                  refine wpTill_take (i := 16) (oi := ⟨_, _, _, _, _, _⟩) (v := ?_) rfl (by kernel_rfl) (by decide) (by kernel_rfl) (by kernel_rfl) (by kernel_rfl) (fun _ _ _ h => h) (Or.inl ⟨by rfl, ?_⟩) hS0.out ?_
                  rotate_left
                  · (intro w' hSw; (try dsimp only at hSw); go_simp; (try with_reducible rfl))
                  simp only [Act.put, List.setIfInBounds_toArray, List.set_cons_zero, List.set_cons_succ]
                  refine wpTill_take (i := 17) (oi := ⟨_, _, _, _, _, _⟩) (v := ?_) rfl (by kernel_rfl) (by decide) (by kernel_rfl) (by kernel_rfl) (by kernel_rfl) (fun _ _ _ h => h) (Or.inl ⟨by rfl, ?_⟩) hS0.out ?_
                  rotate_left
                  · (intro w' hSw; (try dsimp only at hSw); go_simp; (try with_reducible rfl))
                  simp only [Act.put, List.setIfInBounds_toArray, List.set_cons_zero, List.set_cons_succ]
                  refine wpTill_take (i := 18) (oi := ⟨_, _, _, _, _, _⟩) (v := ?_) rfl (by kernel_rfl) (by decide) (by kernel_rfl) (by kernel_rfl) (by kernel_rfl) (fun _ _ _ h => h) (Or.inl ⟨by rfl, ?_⟩) hS0.out ?_
                  rotate_left
                  · (intro w' hSw; (try dsimp only at hSw); go_simp; (try with_reducible rfl))
                  simp only [Act.put, List.setIfInBounds_toArray, List.set_cons_zero, List.set_cons_succ]
                  refine wpTill_take (i := 19) (oi := ⟨_, _, _, _, _, _⟩) (v := ?_) rfl (by kernel_rfl) (by decide) (by kernel_rfl) (by kernel_rfl) (by kernel_rfl) (fun _ _ _ h => h) (Or.inl ⟨by rfl, ?_⟩) hS0.out ?_
                  rotate_left
                  · (intro w' hSw; (try dsimp only at hSw); go_simp; (try with_reducible rfl))
                  simp only [Act.put, List.setIfInBounds_toArray, List.set_cons_zero, List.set_cons_succ]
                  refine wpTill_one (i := 20) (o := ⟨_, _, _, _, _, _⟩) rfl (by kernel_rfl) (fun K hK => ?_)
                  refine step_append_bytes rfl (.tmp 206) (.tmp 221) rfl c.base (.slice A' (s.xs.length + O.length) ecap') (s.xs ++ O) c.T su (q - su) (s.cap - su) (raw c.b su q) (hfit.out.same (same_drew _)) (by simp [Act.eval]) (by simp [Act.eval]) ?_
                  intro v2 w2 hg2
                  obtain ⟨g3, cap3, rfl, hbg, hglt⟩ := hg2.own.form hpos
                  have hcap3 := own_room hg2.own
                  have hgw := hid (Dec.grew (Hdl.out.same (same_drew _)) (raw_length _ _ _) hg2)
                  clear hg2
                  have fr2 := hgw.out.frozen 7
                  have g7 : w2.cell? ⟨c.D, 7, none⟩ = some (.slice A' (s.xs.length + O.length) ecap') := (hgw.out.cell 7).trans f7
                  have hS1 : Hid ((fun w' : World => w'.cell? ⟨c.D, 1, none⟩ = some (.slice (some ⟨c.T, 0, none⟩) s.L s.cap) ∧ w'.cell? ⟨c.D, 2, none⟩ = some (.int .i64 s.r0) ∧ w'.cell? ⟨c.D, 3, none⟩ = some (.int .i64 q) ∧ w'.cell? ⟨c.D, 7, none⟩ = some (.slice A' (s.xs.length + O.length) ecap')) w2) := ⟨(hgw.out.cell 1).trans f1, (hgw.out.cell 2).trans f2, (hgw.out.cell 3).trans f3, g7⟩
                  refine hK.out _ _ (fun _ => hS1.out) ?_
                  clear hK K hS0
                  simp only [Act.put, List.setIfInBounds_toArray, List.set_cons_zero, List.set_cons_succ]
                  refine wpTill_one (i := 21) (o := ⟨_, _, _, _, _, _⟩) rfl (by kernel_rfl) (fun K hK => ?_)
                  go_simp
                  refine hK.out _ _ (fun _ => hS1.out) ?_
                  clear hK K
                  try simp only [Act.put, List.setIfInBounds_toArray, List.set_cons_zero, List.set_cons_succ]
                  refine wpTill_one (i := 22) (o := ⟨_, _, _, _, _, _⟩) rfl (by kernel_rfl) (fun K hK => ?_)
                  go_simp
                  refine hK.out _ _ (fun _ => hS1.out) ?_
                  clear hK K
                  try simp only [Act.put, List.setIfInBounds_toArray, List.set_cons_zero, List.set_cons_succ]
                  refine wpTill_one (i := 23) (o := ⟨_, _, _, _, _, _⟩) rfl (by kernel_rfl) (fun K hK => ?_)
                  go_simp
                  refine hK.out _ _ (fun h => absurd rfl h) ?_
                  clear hK K
                  refine wpTill_done (by kernel_rfl) ?_ _
                  clear e2 e3 e4 e5 e6
                  rw [List.length_append] at hcap3
                  have hcs : s.xs.length < cap3 := by omega
                  have Hd2 := hid hgw.out.dec
                  have Hf2 := hid ((Hfl.out.trans (Far1.same (same_drew _))).trans hgw.out.far)
                  rw [List.length_append] at Hd2 Hf2
                  clear fr2 g7 hgw hfit f1 f2 f3 f7 fr7
                  generalize hW3 : World.setCell w2 ⟨c.D, 7, none⟩ (Value.slice (some ⟨g3, 0, none⟩) (s.xs.length + O.length + (q - su)) cap3) = W3 at Hd2 Hf2 ⊢
                  clear hW3
                  have f7 : W3.cell? ⟨c.D, 7, none⟩ = some (.slice (some ⟨g3, 0, none⟩) (s.xs.length + O.length + (q - su)) cap3) := Hd2.out.f7
                  have hne : ¬ cap3 = s.xs.length := by omega
                  have hxL : s.xs.length ≤ s.xs.length + O.length + (q - su) := by omega
                  go_wp2_with fail
                  go_meet
                  case rel => exact EscOut.app Hd2.out Hf2.out rfl hbg hcap3.1 hcap3.2 Htok.out.1 Htok.out.2 Hx.out hr1 hsq hO1 hOs Hn.out.2 hok (by omega)
          case rest => as_aux_lemma =>
              obtain ⟨s3, n, f, hE, hsec, hn⟩ := hcut
              have Hlay := hid (hlay.far H.out hD hE.out.far.toFar)
              clear f1 f2 f3 f7 fr7 Hrdl Hfl Hdl
              go_wp2_with fail
              refine (hval _ n f _ Hlay.out hE.out.rd hn).mono ?_
              rintro e w4 ⟨b, rfl, hk4⟩
              have hcast : (s.r1 : Int) - (s.r0 : Int) = ((s.r1 - s.r0 : Nat) : Int) := by omega
              cases b
              · have Hk4 := hid hk4
                clear hk4
                have Hcast := hid hcast
                clear hcast
                go_wp2_with fail
                refine (errorsNew_any _ _).mono ?_
                rintro e w5 ⟨g5, rfl, hg5, hg5', hk5⟩
                have Hk5 := hid hk5
                clear hk5
                go_wp2_with fail
                rw [Hcast.out]
                refine (syntaxErrorf_any c s3 (s.r1 - s.r0) 240 _ _ ((hE.out.dec.same Hk4.out).same Hk5.out) (by have := hE.out.le; rw [hE.out.r0]; omega)).mono ?_
                rintro e w6 ⟨g6, hg6, herr, rfl, hd6, hk6⟩
                have Hd6 := hid hd6
                have Hk6 := hid hk6
                have Herr := hid herr
                clear hd6 hk6 herr
                go_wp2_with fail
                go_ret3
                have ho := ((hE.out.same Hk4.out).same Hk5.out).turn (faultSec s3.sec) Hd6.out Hk6.out
                exact ⟨_, n, f, _, _, by rw [Hcast.out]; rfl, ho, .inr ⟨⟨g6, g5, rfl, Herr.out, hg5'.keep Hk6.out (hg5'.ne ((hE.out.dec.same Hk4.out).same Hk5.out).row)⟩, by show faultSec s3.sec = _; rw [hsec.out]⟩⟩
              · have Hk4 := hid hk4
                clear hk4 hcast
                go_wp2_with fail
                go_ret3
                exact ⟨_, n, f, s3, _, rfl, hE.out.same Hk4.out, .inl ⟨rfl, hsec.out⟩⟩
end Go.Proofs.YticdagnbnmnidaaGreatDoor
