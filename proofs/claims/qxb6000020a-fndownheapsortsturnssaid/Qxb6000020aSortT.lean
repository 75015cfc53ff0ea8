/-
  The walks of zzHB1FromSlices (22) and zzHB1SortTurns (27).
-/
import Derived.Test.Qxb6000020aFour
import Derived.BigRegion
import Derived.Deep.RegionHeld3
namespace Go.Proofs.Qxb6000020a
open Go.RowKit Heap
set_option linter.unusedVariables false

theorem info43 : (Try.prog.info? 43).map (fun i => (i.zero, i.size, i.bytes)) = some (some (.agg #[.int .i64 0, .int .i32 0, .int .i64 0, .int .i64 0]), 4, 32) := by kernel_rfl

set_option maxRecDepth 100000 in
set_option maxHeartbeats 4000000 in
theorem from_any (bS bN bK bU m : Nat) (cS cN cK cU : Nat) (Q : List Tn) (w : World) (hm : Q.length = m) (hm2 : m ≤ 4096) (hF : Four w bS bN bK bU Q) :
    Calls Try.prog 22 #[.slice (some ⟨bS, 0, none⟩) m cS, .slice (some ⟨bN, 0, none⟩) m cN, .slice (some ⟨bK, 0, none⟩) m cK, .slice (some ⟨bU, 0, none⟩) m cU] w fun e w' =>
      e = .returned (.slice (some ⟨w.heap.size, 0, none⟩) m m) ∧ RowT w' w.heap.size 43 Q ∧ Below w.heap.size w w' := by
  obtain ⟨i0, hi, hz0, hz1, hz2⟩ := info_parts info43
  have HF : Hid (Four w bS bN bK bU Q) := hF
  have HM : Hid (Q.length = m) := hm
  clear hF hm
  go_enter Try.func22, Try.ntmps22
  go_wp2_with (at_make; refine wpList_make_full _ rfl _ _ 37 rfl w.heap.size 43 i0 _ 4 Try.underlying37 hi hz0 hz1 .i64 .i64 _ _ m rfl rfl rfl rfl (by rw [hz2]; omega) (by unfold maxLen; omega) (Nat.le_refl _) ?_; intro w0 hown0 hgrow0)
  have hb0 : Below w.heap.size w w0 := (Below.refl _ _).grown hgrow0 (Nat.le_refl _) (fun k h => by cases h)
  have HR0 : Hid (RowT w0 w.heap.size 43 (part Q m 0)) := by
    refine rowT_of_own (m := m) (B := w.heap.size) ?_
    have e : flat (part Q m 0) = (madeCells #[.int .i64 0, .int .i32 0, .int .i64 0, .int .i64 0] (m * 4)).toList := by
      rw [← flat_zero]; simp [part]
    rw [e]; exact hown0
  clear hgrow0 hown0
  obtain ⟨g, HGE⟩ : ∃ g, Hid (w.heap.size = g) := ⟨_, rfl⟩
  rw [HGE.out] at hb0 HR0
  rw [HGE.out]
  go_loopw [10] (fun v wr => ∃ j : Nat, j ≤ m ∧ v = .int .i64 j ∧ Hid (RowT wr g 43 (part Q m j)) ∧ Below g w wr)
    (fun v _ => m - (intOf v).toNat)
  case atStart => exact ⟨0, by omega, rfl, HR0, hb0⟩
  case round =>
    clear HR0 hb0
    obtain ⟨j, hj, rfl, HR, hb⟩ := hrel
    have HF2 : Hid (Four wr bS bN bK bU Q) := four_below HF.out (by rw [HGE.out]; exact hb)
    have hmq : m ≤ Q.length := by rw [HM.out]; omega
    by_cases hlt : j < m
    · obtain ⟨a0, a1, a2, a3⟩ := four_at HF2.out j (by omega)
      obtain ⟨s, ns, rk, rn, H1⟩ : ∃ s ns rk rn, Hid (ix Q j = (s, ns, rk, rn)) := ⟨_, _, _, _, rfl⟩
      rw [H1.out] at a0 a1 a2 a3
      simp only at a0 a1 a2 a3
      obtain ⟨b0, b1, b2, b3⟩ := rowT_at HR.out j (by rw [part_len Q m j hj hmq]; exact hlt)
      have f0 := rowT_frozen HR.out (j * 4)
      have f1 := rowT_frozen HR.out (j * 4 + 1)
      have f2 := rowT_frozen HR.out (j * 4 + 2)
      have f3 := rowT_frozen HR.out (j * 4 + 3)
      have hji : (j : Int) < (m : Int) := by omega
      have hj0 : (0 : Int) ≤ (j : Int) := by omega
      have HRn : Hid (RowT ((((wr.setCell ⟨g, j * 4, none⟩ (.int .i64 s)).setCell ⟨g, j * 4 + 1, none⟩ (.int .i32 ns)).setCell ⟨g, j * 4 + 2, none⟩ (.int .i64 rk)).setCell ⟨g, j * 4 + 3, none⟩ (.int .i64 rn)) g 43 (part Q m (j + 1))) := by
        unfold Hid; rw [← part_set Q m j hlt hmq, H1.out]; exact rowT_store HR.out j (by rw [part_len Q m j hj hmq]; exact hlt)
      have HBn : Hid (Below g w ((((wr.setCell ⟨g, j * 4, none⟩ (.int .i64 s)).setCell ⟨g, j * 4 + 1, none⟩ (.int .i32 ns)).setCell ⟨g, j * 4 + 2, none⟩ (.int .i64 rk)).setCell ⟨g, j * 4 + 3, none⟩ (.int .i64 rn))) :=
        (((hb.setCell (Nat.le_refl _) _).setCell (Nat.le_refl _) _).setCell (Nat.le_refl _) _).setCell (Nat.le_refl _) _
      clear HR HF2 hmq
      go_upto_region 5 with fail
      go_region
      go_wp2
      go_roundw
      case rel => exact ⟨j + 1, by omega, by go_num, HRn, HBn.out.drew⟩
      case measure => simp [intOf]; omega
    · obtain rfl : j = m := by omega
      have HRm : Hid (RowT wr g 43 Q) := by have := HR.out; rw [part_full, List.take_of_length_le (by rw [HM.out]; omega)] at this; exact this
      clear HR HF2 hmq
      go_wp2
      go_ret
      rw [HGE.out]
      exact ⟨rfl, HRm.out, hb⟩

theorem less_at {w : World} : ∀ (t1 t2 : Tn) W, Below w.heap.size w W →
    Calls Try.prog 35 #[.agg #[.int .i64 t1.1, .int .i32 t1.2.1, .int .i64 t1.2.2.1, .int .i64 t1.2.2.2], .agg #[.int .i64 t2.1, .int .i32 t2.2.1, .int .i64 t2.2.2.1, .int .i64 t2.2.2.2]] W fun e w' => e = .returned (.bool (lt t1 t2)) ∧ Below w.heap.size w w' := by
  intro t1 t2 W hW
  refine (less_any _ _ _ _ _ _ _ _ W).mono ?_
  rintro e w' ⟨rfl, hb⟩
  exact ⟨rfl, hW.trans (hb.mono hW.size)⟩

set_option maxRecDepth 100000 in
set_option maxHeartbeats 4000000 in
theorem sort_any (g n cap : Nat) (M0 : List Tn) (w : World) (hn : M0.length = n) (hn2 : n ≤ 4096) (hr : RowT w g 43 M0) :
    Calls Try.prog 27 #[.slice (some ⟨g, 0, none⟩) n cap] w fun e w' => e = .returned (.tuple #[]) ∧ ∃ M, RowT w' g 43 M ∧ M.Perm M0 ∧ Srt M n ∧ w.grownBy w' (some g) := by
  have HR0 : Hid (RowT w g 43 M0) := hr
  have HN : Hid (M0.length = n) := hn
  clear hr hn
  go_enter Try.func27, Try.ntmps27
  go_wp2
  go_loopw [2] (fun v wr => ∃ (a : Nat) (M : List Tn), 1 ≤ a ∧ (a ≤ n ∨ a = 1) ∧ v = .int .i64 a ∧ Hid (M.length = n) ∧ Hid (M.Perm M0) ∧ Hid (Srt M a) ∧ Hid (RowT wr g 43 M) ∧ Hid (w.grownBy wr (some g)))
    (fun v _ => n + 1 - (intOf v).toNat)
  case atStart => exact ⟨1, M0, by omega, by omega, rfl, HN, List.Perm.refl _, (by intro p q h1 h2; omega), HR0, World.grownBy.refl _ _⟩
  case round =>
    clear HR0
    obtain ⟨a, M, ha1, ha2, rfl, HL, HP, HS, HR, HG⟩ := hrel
    by_cases hlt : a < n
    · obtain ⟨s, ns, rk, rn, H1⟩ : ∃ s ns rk rn, Hid (ix M a = (s, ns, rk, rn)) := ⟨_, _, _, _, rfl⟩
      obtain ⟨a0, a1, a2, a3⟩ := rowT_at HR.out a (by rw [HL.out]; exact hlt)
      rw [H1.out] at a0 a1 a2 a3
      simp only at a0 a1 a2 a3
      have hgl := rowT_lt HR.out
      have HI0 : Hid (Ins M0 a M a (s, ns, rk, rn)) := by
        have := ins_start (by rw [HL.out, HN.out]) HP.out (by rw [HL.out]; exact hlt) HS.out; rw [H1.out] at this; exact this
      go_wp2_with fail
      have HR1 : Hid (RowT (wr.alloc (.cells #[.int .i64 s, .int .i32 ns, .int .i64 rk, .int .i64 rn] 43)) g 43 M) := rowT_below HR.out ((Below.refl _ wr).alloc (Nat.le_refl _) _)
      have HG1 : Hid (w.grownBy (wr.alloc (.cells #[.int .i64 s, .int .i32 ns, .int .i64 rk, .int .i64 rn] 43)) (some g)) := grown_trans HG.out (grown_of_below ((Below.refl _ wr).alloc (Nat.le_refl _) _) _)
      have HX1 : Hid (At (wr.alloc (.cells #[.int .i64 s, .int .i32 ns, .int .i64 rk, .int .i64 rn] 43)) wr.heap.size 0 (s, ns, rk, rn)) := ⟨by simp, by simp, by simp, by simp⟩
      obtain ⟨gx, HGX⟩ : ∃ gx, Hid (wr.heap.size = gx) := ⟨_, rfl⟩
      have hgx : g ≠ gx := by rw [← HGX.out]; omega
      rw [HGX.out] at HX1
      rw [HGX.out]
      generalize wr.alloc (.cells #[.int .i64 s, .int .i32 ns, .int .i64 rk, .int .i64 rn] 43) = w1 at *
      have HGw := HG1
      clear a0 a1 a2 a3 HR HG HG1 HP HS hgl H1 HGX
      go_loopw [4] (fun v wv => ∃ (h : Nat) (M' : List Tn), v = .int .i64 ((h : Int) - 1) ∧ h ≤ a ∧ Hid (Ins M0 a M' h (s, ns, rk, rn)) ∧ Hid (RowT wv g 43 M') ∧ Hid (At wv gx 0 (s, ns, rk, rn)) ∧ Hid (w1.grownBy wv (some g)))
        (fun v _ => (intOf v + 1).toNat)
      case atStart => exact ⟨a, M, rfl, by omega, HI0, HR1, HX1, World.grownBy.refl _ _⟩
      case round =>
        clear HI0 HR1 HX1 HL
        obtain ⟨h, M', rfl, hha, HI, HR, HXx, HG⟩ := hrel
        have HML : Hid (M'.length = n) := by unfold Hid; rw [HI.out.len, HN.out]
        cases h with
        | zero =>
          have HX : Hid (∀ b, 0 = b + 1 → lt (s, ns, rk, rn) (ix M' b) = false) := by intro b hb; omega
          rw [show (((0 : Nat) : Int) - 1) = -1 from rfl]
          go_upto_region 5 with fail
          go_cut [26] (fun s26 wx => s26 = .bool false ∧ Below wr.heap.size wr wx)
          case first =>
            go_quiet (fail)
            go_wp2_with fail
            go_meet
            case rel => exact ⟨rfl, below_drewN (Below.refl _ _) _⟩
          case rest =>
          obtain ⟨rfl, hb⟩ := hcut
          have HRf : Hid (RowT wc g 43 M') := rowT_below HR.out hb
          have HGf : Hid (w1.grownBy wc (some g)) := grown_trans HG.out (grown_of_below hb _)
          have HXf : Hid (At wc gx 0 (s, ns, rk, rn)) := at_below HXx.out hb
          clear HR HG HXx hb
          have HE : Hid ((M'.set (0) (s, ns, rk, rn)).length = M0.length ∧ (M'.set (0) (s, ns, rk, rn)).Perm M0 ∧ Srt (M'.set (0) (s, ns, rk, rn)) (a + 1)) := ins_end HI.out HX.out
          obtain ⟨a0, a1, a2, a3⟩ := HXf.out
          simp only [Nat.zero_add] at a0 a1 a2 a3
          obtain ⟨b0, b1, b2, b3⟩ := rowT_at HRf.out (0) (by rw [HML.out]; omega)
          have f0 := rowT_frozen HRf.out ((0) * 4)
          have f1 := rowT_frozen HRf.out ((0) * 4 + 1)
          have f2 := rowT_frozen HRf.out ((0) * 4 + 2)
          have f3 := rowT_frozen HRf.out ((0) * 4 + 3)
          have HRn : Hid (RowT ((((wc.setCell ⟨g, (0) * 4, none⟩ (.int .i64 s)).setCell ⟨g, (0) * 4 + 1, none⟩ (.int .i32 ns)).setCell ⟨g, (0) * 4 + 2, none⟩ (.int .i64 rk)).setCell ⟨g, (0) * 4 + 3, none⟩ (.int .i64 rn)) g 43 (M'.set (0) (s, ns, rk, rn))) := rowT_store HRf.out (0) (by rw [HML.out]; omega)
          have HGn : Hid (w.grownBy ((((wc.setCell ⟨g, (0) * 4, none⟩ (.int .i64 s)).setCell ⟨g, (0) * 4 + 1, none⟩ (.int .i32 ns)).setCell ⟨g, (0) * 4 + 2, none⟩ (.int .i64 rk)).setCell ⟨g, (0) * 4 + 3, none⟩ (.int .i64 rn)) (some g)) := grown_trans HGw.out (grown_trans HGf.out (grown_store _ _ _ _ _ _ _))
          simp only [Nat.zero_mul, Nat.zero_add] at b0 b1 b2 b3 f0 f1 f2 f3 HRn HGn
          clear HRf HGf HXf HI HX HML
          go_wp2
          go_roundw
          case rel => exact ⟨a + 1, _, by omega, by omega, by go_num, (by unfold Hid; rw [HE.out.1, HN.out]), HE.out.2.1, HE.out.2.2, HRn, HGn⟩
          case measure => simp [intOf]; omega
        | succ b =>
          rw [show (((b + 1 : Nat) : Int) - 1) = (b : Int) from by omega]
          obtain ⟨s1, n1, k1, m1, H1⟩ : ∃ s1 n1 k1 m1, Hid (ix M' b = (s1, n1, k1, m1)) := ⟨_, _, _, _, rfl⟩
          have HKS : Hid (∀ w', Below wr.heap.size wr w' → (Below wr.heap.size wr w' ∧ w'.cell? ⟨gx, 0, none⟩ = some (.int .i64 s) ∧ w'.cell? ⟨gx, 1, none⟩ = some (.int .i32 ns) ∧ w'.cell? ⟨gx, 2, none⟩ = some (.int .i64 rk) ∧ w'.cell? ⟨gx, 3, none⟩ = some (.int .i64 rn) ∧ w'.cell? ⟨g, b * 4, none⟩ = some (.int .i64 s1) ∧ w'.cell? ⟨g, b * 4 + 1, none⟩ = some (.int .i32 n1) ∧ w'.cell? ⟨g, b * 4 + 2, none⟩ = some (.int .i64 k1) ∧ w'.cell? ⟨g, b * 4 + 3, none⟩ = some (.int .i64 m1))) := by
            intro w' hb
            obtain ⟨x0, x1, x2, x3⟩ := at_below HXx.out hb
            obtain ⟨y0, y1, y2, y3⟩ := at_below (rowT_at HR.out b (by rw [HML.out]; omega)) hb
            rw [H1.out] at y0 y1 y2 y3
            exact ⟨hb, x0, by simpa using x1, by simpa using x2, by simpa using x3, y0, y1, y2, y3⟩
          have HLs : Hid (∀ W, Below wr.heap.size wr W → Calls Try.prog 35 #[.agg #[.int .i64 s, .int .i32 ns, .int .i64 rk, .int .i64 rn], .agg #[.int .i64 s1, .int .i32 n1, .int .i64 k1, .int .i64 m1]] W fun e w' => e = .returned (.bool (lt (s, ns, rk, rn) (s1, n1, k1, m1))) ∧ Below wr.heap.size wr w') :=
            less_at (s, ns, rk, rn) (s1, n1, k1, m1)
          have hbn : (b : Int) < (n : Int) := by omega
          have hb0 : (0 : Int) ≤ (b : Int) := by omega
          go_upto_region 5 with fail
          go_cut [26] (fun s26 wx => s26 = .bool (lt (s, ns, rk, rn) (s1, n1, k1, m1)) ∧ Below wr.heap.size wr wx)
          case first =>
            go_region_held3 (fun w' => Below wr.heap.size wr w' ∧ w'.cell? ⟨gx, 0, none⟩ = some (.int .i64 s) ∧ w'.cell? ⟨gx, 1, none⟩ = some (.int .i32 ns) ∧ w'.cell? ⟨gx, 2, none⟩ = some (.int .i64 rk) ∧ w'.cell? ⟨gx, 3, none⟩ = some (.int .i64 rn) ∧ w'.cell? ⟨g, b * 4, none⟩ = some (.int .i64 s1) ∧ w'.cell? ⟨g, b * 4 + 1, none⟩ = some (.int .i32 n1) ∧ w'.cell? ⟨g, b * 4 + 2, none⟩ = some (.int .i64 k1) ∧ w'.cell? ⟨g, b * 4 + 3, none⟩ = some (.int .i64 m1)) (first | exact HKS.out _ (Below.refl _ _).drew | (refine HKS.out _ ?_; assumption)) ((go_at_call 35; refine (HLs.out _ (by first | exact (Below.refl _ _).drew | assumption)).mono ?_; rintro e w' ⟨rfl, hb⟩))
            all_goals
              go_wp2_with fail
              go_meet
              case rel => exact ⟨rfl, by assumption⟩
          case rest =>
          obtain ⟨rfl, hb⟩ := hcut
          have HRf : Hid (RowT wc g 43 M') := rowT_below HR.out hb
          have HGf : Hid (w1.grownBy wc (some g)) := grown_trans HG.out (grown_of_below hb _)
          have HXf : Hid (At wc gx 0 (s, ns, rk, rn)) := at_below HXx.out hb
          clear HR HG HXx hb HKS HLs
          cases hlx : lt (s, ns, rk, rn) (s1, n1, k1, m1)
          · have HX : Hid (∀ t, b + 1 = t + 1 → lt (s, ns, rk, rn) (ix M' t) = false) := by
              intro t ht; rw [show t = b from by omega, H1.out]; exact hlx
            have HE : Hid ((M'.set (b + 1) (s, ns, rk, rn)).length = M0.length ∧ (M'.set (b + 1) (s, ns, rk, rn)).Perm M0 ∧ Srt (M'.set (b + 1) (s, ns, rk, rn)) (a + 1)) := ins_end HI.out HX.out
            obtain ⟨a0, a1, a2, a3⟩ := HXf.out
            simp only [Nat.zero_add] at a0 a1 a2 a3
            obtain ⟨b0, b1, b2, b3⟩ := rowT_at HRf.out (b + 1) (by rw [HML.out]; omega)
            have f0 := rowT_frozen HRf.out ((b + 1) * 4)
            have f1 := rowT_frozen HRf.out ((b + 1) * 4 + 1)
            have f2 := rowT_frozen HRf.out ((b + 1) * 4 + 2)
            have f3 := rowT_frozen HRf.out ((b + 1) * 4 + 3)
            have HRn : Hid (RowT ((((wc.setCell ⟨g, (b + 1) * 4, none⟩ (.int .i64 s)).setCell ⟨g, (b + 1) * 4 + 1, none⟩ (.int .i32 ns)).setCell ⟨g, (b + 1) * 4 + 2, none⟩ (.int .i64 rk)).setCell ⟨g, (b + 1) * 4 + 3, none⟩ (.int .i64 rn)) g 43 (M'.set (b + 1) (s, ns, rk, rn))) := rowT_store HRf.out (b + 1) (by rw [HML.out]; omega)
            have HGn : Hid (w.grownBy ((((wc.setCell ⟨g, (b + 1) * 4, none⟩ (.int .i64 s)).setCell ⟨g, (b + 1) * 4 + 1, none⟩ (.int .i32 ns)).setCell ⟨g, (b + 1) * 4 + 2, none⟩ (.int .i64 rk)).setCell ⟨g, (b + 1) * 4 + 3, none⟩ (.int .i64 rn)) (some g)) := grown_trans HGw.out (grown_trans HGf.out (grown_store _ _ _ _ _ _ _))
            clear HRf HGf HXf HI HX HML
            go_wp2
            go_roundw
            case rel => exact ⟨a + 1, _, by omega, by omega, by go_num, (by unfold Hid; rw [HE.out.1, HN.out]), HE.out.2.1, HE.out.2.2, HRn, HGn⟩
            case measure => simp [intOf]; omega
          · have HIn : Hid (Ins M0 a (M'.set (b + 1) (s1, n1, k1, m1)) b (s, ns, rk, rn)) := by
              have := ins_step HI.out (by rw [H1.out]; exact hlx); rw [H1.out] at this; exact this
            obtain ⟨a0, a1, a2, a3⟩ := rowT_at HRf.out b (by rw [HML.out]; omega)
            rw [H1.out] at a0 a1 a2 a3
            simp only at a0 a1 a2 a3
            obtain ⟨b0, b1, b2, b3⟩ := rowT_at HRf.out (b + 1) (by rw [HML.out]; omega)
            have f0 := rowT_frozen HRf.out ((b + 1) * 4)
            have f1 := rowT_frozen HRf.out ((b + 1) * 4 + 1)
            have f2 := rowT_frozen HRf.out ((b + 1) * 4 + 2)
            have f3 := rowT_frozen HRf.out ((b + 1) * 4 + 3)
            have HRn : Hid (RowT ((((wc.setCell ⟨g, (b + 1) * 4, none⟩ (.int .i64 s1)).setCell ⟨g, (b + 1) * 4 + 1, none⟩ (.int .i32 n1)).setCell ⟨g, (b + 1) * 4 + 2, none⟩ (.int .i64 k1)).setCell ⟨g, (b + 1) * 4 + 3, none⟩ (.int .i64 m1)) g 43 (M'.set (b + 1) (s1, n1, k1, m1))) := rowT_store HRf.out (b + 1) (by rw [HML.out]; omega)
            have HGn : Hid (w1.grownBy ((((wc.setCell ⟨g, (b + 1) * 4, none⟩ (.int .i64 s1)).setCell ⟨g, (b + 1) * 4 + 1, none⟩ (.int .i32 n1)).setCell ⟨g, (b + 1) * 4 + 2, none⟩ (.int .i64 k1)).setCell ⟨g, (b + 1) * 4 + 3, none⟩ (.int .i64 m1)) (some g)) := grown_trans HGf.out (grown_store _ _ _ _ _ _ _)
            have HXn : Hid (At ((((wc.setCell ⟨g, (b + 1) * 4, none⟩ (.int .i64 s1)).setCell ⟨g, (b + 1) * 4 + 1, none⟩ (.int .i32 n1)).setCell ⟨g, (b + 1) * 4 + 2, none⟩ (.int .i64 k1)).setCell ⟨g, (b + 1) * 4 + 3, none⟩ (.int .i64 m1)) gx 0 (s, ns, rk, rn)) := at_kept HXf.out (grown_store _ _ _ _ _ _ _) (by simp; omega)
            clear HRf HGf HXf HI HML
            go_wp2
            go_roundw
            case rel => exact ⟨b, _, rfl, by omega, HIn, HRn, HXn, HGn⟩
            case measure => simp [intOf]
    · go_wp2
      go_end0
      exact ⟨rfl, M, HR.out, HP.out, fun p q h1 h2 => HS.out p q h1 (by omega), HG.out⟩
end Go.Proofs.Qxb6000020a
