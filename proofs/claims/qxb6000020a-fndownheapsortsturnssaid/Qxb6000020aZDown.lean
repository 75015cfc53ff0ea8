/-
  The walk of ZZHB1Down (25).
-/
import Derived.Test.Qxb6000020aFour
import Derived.Test.Qxb6000020aDown
import Derived.BigRegion
namespace Go.Proofs.Qxb6000020a
open Go.RowKit Heap
set_option linter.unusedVariables false

theorem info60 : (Try.prog.info? 60).map (fun i => (i.zero, i.size, i.bytes)) = some (some (.agg #[.int .i64 0, .int .i32 0, .int .i64 0, .int .i64 0]), 4, 32) := by kernel_rfl

set_option maxRecDepth 100000 in
set_option maxHeartbeats 4000000 in
theorem zdown (bS bN bK bU m i : Nat) (cS cN cK cU : Nat) (Q : List Tn) (w : World) (ap : Apart4 bS bN bK bU) (hm : m ≤ Q.length) (hm2 : m ≤ 4096) (him : i < m) (hF : Four w bS bN bK bU Q) (hH : Ht (Q.take m) (i + 1)) :
    Calls Try.prog 25 #[.slice (some ⟨bS, 0, none⟩) m cS, .slice (some ⟨bN, 0, none⟩) m cN, .slice (some ⟨bK, 0, none⟩) m cK, .slice (some ⟨bU, 0, none⟩) m cU, .int .i64 i] w fun e w' =>
      e = .returned (.tuple #[]) ∧ ∃ P, P.Perm (Q.take m) ∧ Ht P i ∧ Four w' bS bN bK bU (P ++ Q.drop m) ∧ Kept4 bS bN bK bU w.heap.size w w' := by
  obtain ⟨i0, hi, hz0, hz1, hz2⟩ := info_parts info60
  have HF : Hid (Four w bS bN bK bU Q) := hF
  have hlt4 := four_lt hF
  clear hF
  go_enter Try.func25, Try.ntmps25
  go_wp2_with (at_make; refine wpList_make_full _ rfl _ _ 56 rfl w.heap.size 60 i0 _ 4 Try.underlying56 hi hz0 hz1 .i64 .i64 _ _ m rfl rfl rfl rfl (by rw [hz2]; omega) (by unfold maxLen; omega) (Nat.le_refl _) ?_; intro w0 hown0 hgrow0)
  have hb0 : Below w.heap.size w w0 := (Below.refl _ _).grown hgrow0 (Nat.le_refl _) (fun k h => by cases h)
  have HR0 : Hid (RowT w0 w.heap.size 60 (part Q m 0)) := by
    refine rowT_of_own (m := m) (B := w.heap.size) ?_
    have e : flat (part Q m 0) = (madeCells #[.int .i64 0, .int .i32 0, .int .i64 0, .int .i64 0] (m * 4)).toList := by
      rw [← flat_zero]; simp [part]
    rw [e]; exact hown0
  clear hgrow0 hown0
  obtain ⟨g, HGE⟩ : ∃ g, Hid (w.heap.size = g) := ⟨_, rfl⟩
  rw [HGE.out] at hb0 HR0 hlt4
  rw [HGE.out]
  go_loopw [11] (fun v wr => ∃ j : Nat, j ≤ m ∧ v = .int .i64 j ∧ Hid (RowT wr g 60 (part Q m j)) ∧ Below g w wr)
    (fun v _ => m - (intOf v).toNat)
  case atStart => exact ⟨0, by omega, rfl, HR0, hb0⟩
  case round =>
    clear HR0 hb0
    obtain ⟨j, hj, rfl, HR, hb⟩ := hrel
    have HF2 : Hid (Four wr bS bN bK bU Q) := four_below HF.out (by rw [HGE.out]; exact hb)
    by_cases hlt : j < m
    · obtain ⟨a0, a1, a2, a3⟩ := four_at HF2.out j (by omega)
      obtain ⟨s, ns, rk, rn, H1⟩ : ∃ s ns rk rn, Hid (ix Q j = (s, ns, rk, rn)) := ⟨_, _, _, _, rfl⟩
      rw [H1.out] at a0 a1 a2 a3
      simp only at a0 a1 a2 a3
      have hpl := part_len Q m j hj hm
      obtain ⟨b0, b1, b2, b3⟩ := rowT_at HR.out j (by omega)
      have f0 := rowT_frozen HR.out (j * 4)
      have f1 := rowT_frozen HR.out (j * 4 + 1)
      have f2 := rowT_frozen HR.out (j * 4 + 2)
      have f3 := rowT_frozen HR.out (j * 4 + 3)
      have hji : (j : Int) < (m : Int) := by omega
      have hj0 : (0 : Int) ≤ (j : Int) := by omega
      clear hpl
      have HRn : Hid (RowT ((((wr.setCell ⟨g, j * 4, none⟩ (.int .i64 s)).setCell ⟨g, j * 4 + 1, none⟩ (.int .i32 ns)).setCell ⟨g, j * 4 + 2, none⟩ (.int .i64 rk)).setCell ⟨g, j * 4 + 3, none⟩ (.int .i64 rn)) g 60 (part Q m (j + 1))) := by
        unfold Hid; rw [← part_set Q m j hlt hm, H1.out]; exact rowT_store HR.out j (by rw [part_len Q m j hj hm]; exact hlt)
      have HBn : Hid (Below g w ((((wr.setCell ⟨g, j * 4, none⟩ (.int .i64 s)).setCell ⟨g, j * 4 + 1, none⟩ (.int .i32 ns)).setCell ⟨g, j * 4 + 2, none⟩ (.int .i64 rk)).setCell ⟨g, j * 4 + 3, none⟩ (.int .i64 rn))) :=
        (((hb.setCell (Nat.le_refl _) _).setCell (Nat.le_refl _) _).setCell (Nat.le_refl _) _).setCell (Nat.le_refl _) _
      clear HR HF2
      go_upto_region 4 with fail
      go_region
      go_wp2
      go_roundw
      case rel => exact ⟨j + 1, by omega, by go_num, HRn, HBn.out.drew⟩
      case measure => simp [intOf]; omega
    · obtain rfl : j = m := by omega
      have hl : (Q.take j).length = j := by rw [List.length_take]; omega
      have HRm : Hid (RowT wr g 60 (Q.take j)) := by have := HR.out; rw [part_full] at this; exact this
      have C := down_main g j i (Q.take j) wr (by rw [hl]; exact him) (by rw [hl]; exact hm2) HRm.out hH
      rw [hl] at C
      have hk1 : Kept4 bS bN bK bU g w wr := Kept4.of_below hb
      have hwg : g ≤ wr.heap.size := by have := hb.size; rw [HGE.out] at this; exact this
      have hgl := rowT_lt HRm.out
      clear HR hb HRm
      go_wp2_with fail
      refine C.mono ?_
      rintro e w2 ⟨rfl, P, hR, hHP, hP, hG⟩
      have hne1 : bS ≠ g := by omega
      have hne2 : bN ≠ g := by omega
      have hne3 : bK ≠ g := by omega
      have hne4 : bU ≠ g := by omega
      have hF3 := four_kept HF2.out hG (by simp; omega) (by simp; omega) (by simp; omega) (by simp; omega)
      have HF3 : Hid (Four w2 bS bN bK bU (mixed P Q 0)) := by unfold Hid mixed; simpa using hF3
      have HR3 : Hid (RowT w2 g 60 P) := hR
      have HP : Hid (P.Perm (Q.take j)) := hP
      have HHP : Hid (Ht P i) := hHP
      have HPL : Hid (P.length = j) := by unfold Hid; rw [hP.length_eq, hl]
      have HK2 : Hid (Kept4 bS bN bK bU g w w2) := hk1.trans (Kept4.of_grown hG hwg (Nat.le_refl _))
      clear C hk1 hR hHP hP hG hF3 HF2 HF hH
      go_wp2_with fail
      go_loopw [12] (fun v wr => ∃ t : Nat, t ≤ j ∧ v = .int .i64 t ∧ Hid (RowT wr g 60 P) ∧ Hid (Four wr bS bN bK bU (mixed P Q t)) ∧ Hid (Kept4 bS bN bK bU g w wr))
        (fun v _ => j - (intOf v).toNat)
      case atStart => exact ⟨0, by omega, rfl, HR3, HF3, HK2⟩
      case round =>
        clear HR3 HF3 HK2
        obtain ⟨t, ht, rfl, HR, HFm, HK⟩ := hrel
        by_cases hlt : t < j
        · obtain ⟨s, ns, rk, rn, H1⟩ : ∃ s ns rk rn, Hid (ix P t = (s, ns, rk, rn)) := ⟨_, _, _, _, rfl⟩
          obtain ⟨a0, a1, a2, a3⟩ := rowT_at HR.out t (by rw [HPL.out]; exact hlt)
          rw [H1.out] at a0 a1 a2 a3
          simp only at a0 a1 a2 a3
          obtain ⟨b0, b1, b2, b3⟩ := four_at HFm.out t (by rw [mixed_len P Q t (by rw [HPL.out]; omega) (by rw [HPL.out]; exact hm)]; omega)
          have f0 := rowI_frozen HFm.out.1 t
          have f1 := rowI_frozen HFm.out.2.1 t
          have f2 := rowI_frozen HFm.out.2.2.1 t
          have f3 := rowI_frozen HFm.out.2.2.2 t
          have HRn : Hid (RowT ((((wr.setCell ⟨bS, t, none⟩ (.int .i64 s)).setCell ⟨bN, t, none⟩ (.int .i32 ns)).setCell ⟨bK, t, none⟩ (.int .i64 rk)).setCell ⟨bU, t, none⟩ (.int .i64 rn)) g 60 P) :=
            rowT_other (rowT_other (rowT_other (rowT_other HR.out (Ne.symm hne1) _) (Ne.symm hne2) _) (Ne.symm hne3) _) (Ne.symm hne4) _
          have HFn : Hid (Four ((((wr.setCell ⟨bS, t, none⟩ (.int .i64 s)).setCell ⟨bN, t, none⟩ (.int .i32 ns)).setCell ⟨bK, t, none⟩ (.int .i64 rk)).setCell ⟨bU, t, none⟩ (.int .i64 rn)) bS bN bK bU (mixed P Q (t + 1))) := by
            unfold Hid; rw [← mixed_set P Q t (by rw [HPL.out]; exact hlt) (by rw [HPL.out]; exact hm), H1.out]; exact four_store HFm.out ap t
          have HKn : Hid (Kept4 bS bN bK bU g w ((((wr.setCell ⟨bS, t, none⟩ (.int .i64 s)).setCell ⟨bN, t, none⟩ (.int .i32 ns)).setCell ⟨bK, t, none⟩ (.int .i64 rk)).setCell ⟨bU, t, none⟩ (.int .i64 rn))) :=
            HK.out.trans (kept4_store _ _ _ _ _ _ _ _ _ _ _)
          have p1 : ¬ bS = bN := ap.1
          have p2 : ¬ bS = bK := ap.2.1
          have p3 : ¬ bS = bU := ap.2.2.1
          have p4 : ¬ bN = bK := ap.2.2.2.1
          have p5 : ¬ bN = bU := ap.2.2.2.2.1
          have p6 : ¬ bK = bU := ap.2.2.2.2.2
          have q1 : ¬ g = bS := by omega
          have q2 : ¬ g = bN := by omega
          have q3 : ¬ g = bK := by omega
          have q4 : ¬ g = bU := by omega
          clear HR HFm HK
          go_wp2
          go_roundw
          case rel => exact ⟨t + 1, by omega, by go_num, HRn, HFn, HKn⟩
          case measure => simp [intOf]; omega
        · obtain rfl : t = j := by omega
          have HFe : Hid (Four wr bS bN bK bU (P ++ Q.drop t)) := by
            have := HFm.out; unfold mixed at this; rw [List.take_of_length_le (by rw [HPL.out]; omega)] at this; exact this
          clear HFm HR
          go_wp2
          go_end0
          exact ⟨rfl, P, HP.out, HHP.out, HFe.out, by rw [HGE.out]; exact HK.out⟩
end Go.Proofs.Qxb6000020a
