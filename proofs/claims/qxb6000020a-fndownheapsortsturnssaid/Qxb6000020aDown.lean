/-
  The walk of turns.down (36).
-/
import Derived.Test.Qxb6000020aRowT
import Derived.Deep.RegionHeld3
namespace Go.Proofs.Qxb6000020a
open Go.RowKit Heap
set_option linter.unusedVariables false

set_option maxHeartbeats 2000000 in
theorem down_main (g cap i : Nat) (Q0 : List Tn) (w : World) (hi : i < Q0.length) (hn : Q0.length ≤ 4096) (hr : RowT w g 60 Q0) (hh : Ht Q0 (i + 1)) :
    Calls Try.prog 36 #[.slice (some ⟨g, 0, none⟩) Q0.length cap, .int .i64 i] w fun e w' => e = .returned (.tuple #[]) ∧ ∃ Q, RowT w' g 60 Q ∧ Ht Q i ∧ Q.Perm Q0 ∧ w.grownBy w' (some g) := by
  obtain ⟨n, HN⟩ : ∃ n, Hid (Q0.length = n) := ⟨_, rfl⟩
  obtain ⟨s, ns, rk, rn, HU⟩ : ∃ s ns rk rn, Hid (ix Q0 i = (s, ns, rk, rn)) := ⟨_, _, _, _, rfl⟩
  obtain ⟨a0, a1, a2, a3⟩ := rowT_at hr i hi
  have hgl := rowT_lt hr
  rw [HU.out] at a0 a1 a2 a3
  simp only at a0 a1 a2 a3
  rw [HN.out] at hi hn
  rw [HN.out]
  have I0 := inv_start (by rw [HN.out]; exact hi) hh
  rw [HU.out] at I0
  have hd0 : decide (n ≤ i) = false := by simp; omega
  go_enter Try.func36, Try.ntmps36
  go_wp2
  have r1 := rowT_below hr ((Below.refl _ w).alloc (Nat.le_refl _) (.cells #[.int .i64 s, .int .i32 ns, .int .i64 rk, .int .i64 rn] 60))
  have g1 := grown_of_below ((Below.refl _ w).alloc (Nat.le_refl _) (.cells #[.int .i64 s, .int .i32 ns, .int .i64 rk, .int .i64 rn] 60)) (some g)
  have u1 : At (w.alloc (.cells #[.int .i64 s, .int .i32 ns, .int .i64 rk, .int .i64 rn] 60)) w.heap.size 0 (s, ns, rk, rn) := ⟨by simp, by simp, by simp, by simp⟩
  obtain ⟨gu, HGU⟩ : ∃ gu, Hid (w.heap.size = gu) := ⟨_, rfl⟩
  have hgu : g ≠ gu := by rw [← HGU.out]; omega
  rw [HGU.out] at u1
  rw [HGU.out]
  generalize w.alloc (.cells #[.int .i64 s, .int .i32 ns, .int .i64 rk, .int .i64 rn] 60) = w1 at *
  clear a0 a1 a2 a3 hr hh hgl
  have HR1 : Hid (RowT w1 g 60 Q0) := r1
  have HI1 : Hid (Inv Q0 i Q0 i (s, ns, rk, rn)) := I0
  have HU1 : Hid (At w1 gu 0 (s, ns, rk, rn)) := u1
  have HG1 : Hid (w.grownBy w1 (some g)) := g1
  clear r1 g1 u1 I0
  go_loopw [5] (fun v wr => ∃ (h : Nat) (Q : List Tn), v = .int .i64 h ∧ i ≤ h ∧ h < n ∧ Hid (Inv Q0 i Q h (s, ns, rk, rn)) ∧ Hid (RowT wr g 60 Q) ∧ Hid (w1.grownBy wr (some g)))
    (fun v _ => n - (intOf v).toNat)
  case atStart => exact ⟨i, Q0, rfl, Nat.le_refl _, hi, HI1, HR1, World.grownBy.refl _ _⟩
  case round =>
    clear HI1 HR1
    obtain ⟨h, Q, rfl, hih, hhn, HI, HR, HG⟩ := hrel
    have HQ : Hid (Q.length = n) := by unfold Hid; rw [HI.out.len, HN.out]
    by_cases hc : 2 * h + 1 < n
    · obtain ⟨c1, HC1⟩ : ∃ c1, Hid (c1 = 2 * h + 1) := ⟨_, rfl⟩
      obtain ⟨c2, HC2⟩ : ∃ c2, Hid (c2 = 2 * h + 2) := ⟨_, rfl⟩
      have hc1 : c1 < n := by rw [HC1.out]; exact hc
      have hc1h : h < c1 := by have := HC1.out; omega
      obtain ⟨s1, n1, k1, m1, H1⟩ : ∃ s1 n1 k1 m1, Hid (ix Q c1 = (s1, n1, k1, m1)) := ⟨_, _, _, _, rfl⟩
      have A1 := rowT_at HR.out c1 (by rw [HQ.out]; exact hc1)
      rw [H1.out] at A1
      have HA1 : Hid (At wr g (c1 * 4) (s1, n1, k1, m1)) := A1
      have hrl := rowT_lt HR.out
      clear A1
      go_upto_region 5 with fail
      go_cut [6, 7] (fun s6 s7 wx => s6 = .int .i64 c1 ∧ s7 = .int .i64 c2 ∧ wr = wx)
      case first =>
        go_wp2_with fail
        go_meet
        case rel => exact ⟨congrArg (Value.int .i64) (by have := HC1.out; omega), congrArg (Value.int .i64) (by have := HC2.out; omega), rfl⟩
      case rest =>
      obtain ⟨rfl, rfl, rfl⟩ := hcut
      go_upto_region 6 with fail
      go_cut [39] (fun s39 wx => s39 = .bool (decide (c2 < n) && lt (ix Q c2) (ix Q c1)) ∧ Below wr.heap.size wr wx)
      case first =>
        by_cases h2 : c2 < n
        · have HBf : Hid (∀ W, Below wr.heap.size wr W → Calls Try.prog 39 #[.pointer (some ⟨g, c2 * 4, none⟩), .pointer (some ⟨g, c1 * 4, none⟩)] W fun e w' => e = .returned (.bool (lt (ix Q c2) (ix Q c1))) ∧ Below wr.heap.size wr w') :=
            before_at (rowT_at HR.out c2 (by rw [HQ.out]; exact h2)) (rowT_at HR.out c1 (by rw [HQ.out]; exact hc1))
          have hl2 : (c2 : Int) < (n : Int) := by omega
          have hl1 : (c1 : Int) < (n : Int) := by omega
          have hz1 : (0 : Int) ≤ (c1 : Int) := by omega
          have hz2 : (0 : Int) ≤ (c2 : Int) := by omega
          go_region_held3 (fun w' => Below wr.heap.size wr w') (first | assumption | exact (Below.refl _ _).drew) ((go_at_call 39; refine (HBf.out _ (by assumption)).mono ?_; rintro e w' ⟨rfl, hb⟩))
          go_wp2_with fail
          go_meet
          case rel => exact ⟨by simp [h2], hb⟩
        · have hd2 : decide ((c2 : Int) < (n : Int)) = false := by simp; omega
          have hdd : decide (c2 < n) = false := by simp; omega
          have E : Hid ((decide (c2 < n) && lt (ix Q c2) (ix Q c1)) = false) := by unfold Hid; rw [hdd]; rfl
          clear hdd
          go_quiet (fail)
          go_wp2_with fail
          go_meet
          case rel => exact ⟨by rw [E.out], below_drewN (Below.refl _ _) _⟩
      case rest =>
      obtain ⟨rfl, hb⟩ := hcut
      have HR2 : Hid (RowT wc g 60 Q) := rowT_below HR.out hb
      have HG2 : Hid (w1.grownBy wc (some g)) := grown_trans HG.out (grown_of_below hb _)
      clear HR HG HA1 hb
      obtain ⟨bb, HBB⟩ : ∃ bb, Hid ((decide (c2 < n) && lt (ix Q c2) (ix Q c1)) = bb) := ⟨_, rfl⟩
      rw [HBB.out]
      obtain ⟨cc, HCC⟩ : ∃ cc, Hid (cc = if bb then c2 else c1) := ⟨_, rfl⟩
      go_upto_if 39 with fail
      go_cut [6] (fun s6 wx => s6 = .int .i64 cc ∧ wc = wx)
      case first =>
        cases bb
        · go_wp2_with fail
          go_meet
          case rel => exact ⟨by rw [HCC.out]; rfl, rfl⟩
        · go_wp2_with fail
          go_meet
          case rel => exact ⟨by rw [HCC.out]; rfl, rfl⟩
      case rest =>
      obtain ⟨rfl, rfl⟩ := hcut
      have hccn : cc < n := by
        rw [HCC.out]; split
        · have := HBB.out; simp_all
        · exact hc1
      have hcch : h < cc := by rw [HCC.out]; have := HC1.out; have := HC2.out; split <;> omega
      have A := rowT_at HR2.out cc (by rw [HQ.out]; exact hccn)
      obtain ⟨s2, n2, k2, m2, H2⟩ : ∃ s2 n2 k2 m2, Hid (ix Q cc = (s2, n2, k2, m2)) := ⟨_, _, _, _, rfl⟩
      rw [H2.out] at A
      obtain ⟨a0, a1, a2, a3⟩ := A
      simp only at a0 a1 a2 a3
      obtain ⟨b0, b1, b2, b3⟩ := rowT_at HR2.out h (by rw [HQ.out]; exact hhn)
      have f0 := rowT_frozen HR2.out (h * 4)
      have f1 := rowT_frozen HR2.out (h * 4 + 1)
      have f2 := rowT_frozen HR2.out (h * 4 + 2)
      have f3 := rowT_frozen HR2.out (h * 4 + 3)
      have HRn : Hid (RowT ((((wc.setCell ⟨g, h * 4, none⟩ (.int .i64 s2)).setCell ⟨g, h * 4 + 1, none⟩ (.int .i32 n2)).setCell ⟨g, h * 4 + 2, none⟩ (.int .i64 k2)).setCell ⟨g, h * 4 + 3, none⟩ (.int .i64 m2)) g 60 (Q.set h (ix Q cc))) := by
        unfold Hid; rw [H2.out]; exact rowT_store HR2.out h (by rw [HQ.out]; exact hhn)
      have HGn : Hid (w1.grownBy ((((wc.setCell ⟨g, h * 4, none⟩ (.int .i64 s2)).setCell ⟨g, h * 4 + 1, none⟩ (.int .i32 n2)).setCell ⟨g, h * 4 + 2, none⟩ (.int .i64 k2)).setCell ⟨g, h * 4 + 3, none⟩ (.int .i64 m2)) (some g)) :=
        grown_trans HG2.out (grown_store _ _ _ _ _ _ _)
      have HIn : Hid (Inv Q0 i (Q.set h (ix Q cc)) cc (s, ns, rk, rn)) := by
        have I := HI.out
        have hq := HQ.out
        have e1 := HC1.out
        have e2 := HC2.out
        have ecc := HCC.out
        have ebb := HBB.out
        refine inv_down I (by omega) (by omega) (by rw [ecc]; split <;> omega) (fun x x1 x2 x3 => ?_)
        have hx : x = c1 ∨ x = c2 := by omega
        cases bb
        · simp only [Bool.false_eq_true, if_false] at ecc
          subst ecc
          rcases hx with rfl | rfl
          · exact lt_irr _
          · have : decide (x < n) = true := by simp; omega
            rw [this] at ebb
            simpa using ebb
        · simp only [if_true] at ecc
          subst ecc
          simp only [Bool.and_eq_true] at ebb
          rcases hx with rfl | rfl
          · exact lt_asym ebb.2
          · exact lt_irr _
      clear HI HCC HBB HC1 HC2 H1 H2 HR2 HG2
      go_wp2
      go_roundw
      case rel => exact ⟨cc, _, rfl, by omega, hccn, HIn, HRn, HGn⟩
      case measure => simp [intOf]; omega
    · have HB : Hid (∀ x, 1 ≤ x → x < Q.length → (x - 1) / 2 = h → lt (ix Q x) (s, ns, rk, rn) = false) := by
        intro x x1 x2 x3; have := HQ.out; omega
      have hdx : decide ((n : Int) ≤ 2 * (h : Int) + 1) = true := by simp; omega
      go_wp2_with fail
      go_loopw [5] (fun v wr => ∃ (h : Nat) (Q : List Tn), v = .int .i64 h ∧ i ≤ h ∧ h < n ∧ Hid (Inv Q0 i Q h (s, ns, rk, rn)) ∧ Hid (∀ x, 1 ≤ x → x < Q.length → (x - 1) / 2 = h → lt (ix Q x) (s, ns, rk, rn) = false) ∧ Hid (RowT wr g 60 Q) ∧ Hid (w1.grownBy wr (some g)))
        (fun v _ => (intOf v).toNat)
      case atStart => exact ⟨h, Q, rfl, hih, hhn, HI, HB, HR, HG⟩
      case round =>
        clear HI HR HG HB HQ hih hhn hc
        obtain ⟨h, Q, rfl, hih, hhn, HI, HB, HR, HG⟩ := hrel
        have HQ : Hid (Q.length = n) := by unfold Hid; rw [HI.out.len, HN.out]
        have HU2 : Hid (At wr gu 0 (s, ns, rk, rn)) := at_kept HU1.out HG.out (by simp; omega)
        by_cases hgt : i < h
        · obtain ⟨p, HP⟩ : ∃ p, Hid (p = (h - 1) / 2) := ⟨_, rfl⟩
          have hpn : p < n := by have := HP.out; omega
          have hph : p < h := by have := HP.out; omega
          have hip : i ≤ p := by rw [HP.out]; exact sub_ge (sub_parent HI.out.sub hgt)
          go_upto_region 11 with fail
          go_cut [8] (fun s8 wx => s8 = .int .i64 p ∧ wr = wx)
          case first =>
            go_wp2_with fail
            go_meet
            case rel => exact ⟨congrArg (Value.int .i64) (by have := HP.out; omega), rfl⟩
          case rest =>
          obtain ⟨rfl, rfl⟩ := hcut
          obtain ⟨s1, n1, k1, m1, H1⟩ : ∃ s1 n1 k1 m1, Hid (ix Q p = (s1, n1, k1, m1)) := ⟨_, _, _, _, rfl⟩
          have A1 := rowT_at HR.out p (by rw [HQ.out]; exact hpn)
          rw [H1.out] at A1
          have HBf : Hid (∀ W, Below wr.heap.size wr W → Calls Try.prog 39 #[.pointer (some ⟨gu, 0, none⟩), .pointer (some ⟨g, p * 4, none⟩)] W fun e w' => e = .returned (.bool (lt (s, ns, rk, rn) (s1, n1, k1, m1))) ∧ Below wr.heap.size wr w') :=
            before_at HU2.out A1
          clear A1
          go_wp2_with fail
          refine (HBf.out _ (Below.refl _ _)).mono ?_
          rintro e w2 ⟨rfl, hb⟩
          have HRf : Hid (RowT w2 g 60 Q) := rowT_below HR.out hb
          have HGf : Hid (w1.grownBy w2 (some g)) := grown_trans HG.out (grown_of_below hb _)
          replace HU2 : Hid (At w2 gu 0 (s, ns, rk, rn)) := at_below HU2.out hb
          clear HR HG HBf hb
          cases hlt : lt (s, ns, rk, rn) (s1, n1, k1, m1)
          · have HE : Hid (Ht (Q.set h (s, ns, rk, rn)) i ∧ (Q.set h (s, ns, rk, rn)).Perm Q0) := inv_end HI.out HB.out (fun _ => by rw [← HP.out, H1.out]; exact hlt)
            have A := HU2.out
            obtain ⟨a0, a1, a2, a3⟩ := A
            simp only [Nat.zero_add] at a0 a1 a2 a3
            obtain ⟨b0, b1, b2, b3⟩ := rowT_at HRf.out h (by rw [HQ.out]; exact hhn)
            have f0 := rowT_frozen HRf.out (h * 4)
            have f1 := rowT_frozen HRf.out (h * 4 + 1)
            have f2 := rowT_frozen HRf.out (h * 4 + 2)
            have f3 := rowT_frozen HRf.out (h * 4 + 3)
            have HF : Hid (RowT ((((w2.setCell ⟨g, h * 4, none⟩ (.int .i64 s)).setCell ⟨g, h * 4 + 1, none⟩ (.int .i32 ns)).setCell ⟨g, h * 4 + 2, none⟩ (.int .i64 rk)).setCell ⟨g, h * 4 + 3, none⟩ (.int .i64 rn)) g 60 (Q.set h (s, ns, rk, rn)) ∧
                w.grownBy ((((w2.setCell ⟨g, h * 4, none⟩ (.int .i64 s)).setCell ⟨g, h * 4 + 1, none⟩ (.int .i32 ns)).setCell ⟨g, h * 4 + 2, none⟩ (.int .i64 rk)).setCell ⟨g, h * 4 + 3, none⟩ (.int .i64 rn)) (some g)) :=
              ⟨rowT_store HRf.out h (by rw [HQ.out]; exact hhn), grown_trans HG1.out (grown_trans HGf.out (grown_store _ _ _ _ _ _ _))⟩
            clear HRf HGf HU2 HI HB
            go_wp2
            go_end0
            exact ⟨rfl, _, HF.out.1, HE.out.1, HE.out.2, HF.out.2⟩
          · have HIn := inv_up HI.out HB.out hgt (by rw [← HP.out, H1.out]; exact hlt)
            rw [← HP.out, H1.out] at HIn
            have HJ : Hid _ := HIn
            clear HIn
            obtain ⟨a0, a1, a2, a3⟩ := rowT_at HRf.out p (by rw [HQ.out]; exact hpn)
            rw [H1.out] at a0 a1 a2 a3
            simp only at a0 a1 a2 a3
            obtain ⟨b0, b1, b2, b3⟩ := rowT_at HRf.out h (by rw [HQ.out]; exact hhn)
            have f0 := rowT_frozen HRf.out (h * 4)
            have f1 := rowT_frozen HRf.out (h * 4 + 1)
            have f2 := rowT_frozen HRf.out (h * 4 + 2)
            have f3 := rowT_frozen HRf.out (h * 4 + 3)
            have HRn : Hid (RowT ((((w2.setCell ⟨g, h * 4, none⟩ (.int .i64 s1)).setCell ⟨g, h * 4 + 1, none⟩ (.int .i32 n1)).setCell ⟨g, h * 4 + 2, none⟩ (.int .i64 k1)).setCell ⟨g, h * 4 + 3, none⟩ (.int .i64 m1)) g 60 (Q.set h (s1, n1, k1, m1))) :=
              rowT_store HRf.out h (by rw [HQ.out]; exact hhn)
            have HGn : Hid (w1.grownBy ((((w2.setCell ⟨g, h * 4, none⟩ (.int .i64 s1)).setCell ⟨g, h * 4 + 1, none⟩ (.int .i32 n1)).setCell ⟨g, h * 4 + 2, none⟩ (.int .i64 k1)).setCell ⟨g, h * 4 + 3, none⟩ (.int .i64 m1)) (some g)) :=
              grown_trans HGf.out (grown_store _ _ _ _ _ _ _)
            clear HRf HGf HU2 HI HB
            go_wp2
            go_roundw
            case rel => exact ⟨p, _, rfl, hip, hpn, HJ.out.1, HJ.out.2, HRn, HGn⟩
            case measure => simp [intOf]; omega
        · have HE : Hid (Ht (Q.set h (s, ns, rk, rn)) i ∧ (Q.set h (s, ns, rk, rn)).Perm Q0) := inv_end HI.out HB.out (fun h' => absurd h' hgt)
          have HRf := HR
          have HGf := HG
          have A := HU2.out
          obtain ⟨a0, a1, a2, a3⟩ := A
          simp only [Nat.zero_add] at a0 a1 a2 a3
          obtain ⟨b0, b1, b2, b3⟩ := rowT_at HRf.out h (by rw [HQ.out]; exact hhn)
          have f0 := rowT_frozen HRf.out (h * 4)
          have f1 := rowT_frozen HRf.out (h * 4 + 1)
          have f2 := rowT_frozen HRf.out (h * 4 + 2)
          have f3 := rowT_frozen HRf.out (h * 4 + 3)
          have HF : Hid (RowT ((((wr.setCell ⟨g, h * 4, none⟩ (.int .i64 s)).setCell ⟨g, h * 4 + 1, none⟩ (.int .i32 ns)).setCell ⟨g, h * 4 + 2, none⟩ (.int .i64 rk)).setCell ⟨g, h * 4 + 3, none⟩ (.int .i64 rn)) g 60 (Q.set h (s, ns, rk, rn)) ∧
              w.grownBy ((((wr.setCell ⟨g, h * 4, none⟩ (.int .i64 s)).setCell ⟨g, h * 4 + 1, none⟩ (.int .i32 ns)).setCell ⟨g, h * 4 + 2, none⟩ (.int .i64 rk)).setCell ⟨g, h * 4 + 3, none⟩ (.int .i64 rn)) (some g)) :=
            ⟨rowT_store HRf.out h (by rw [HQ.out]; exact hhn), grown_trans HG1.out (grown_trans HGf.out (grown_store _ _ _ _ _ _ _))⟩
          clear HRf HGf HU2 HI HB HR HG
          go_wp2
          go_end0
          exact ⟨rfl, _, HF.out.1, HE.out.1, HE.out.2, HF.out.2⟩
end Go.Proofs.Qxb6000020a
