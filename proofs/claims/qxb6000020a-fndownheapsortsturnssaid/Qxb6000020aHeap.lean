/-
  The walk of FnDownHeapSortsTurns (7).
-/
import Derived.Test.Qxb6000020aHeapMem
import Derived.Deep.RegionHeld3
namespace Go.Proofs.Qxb6000020a
open Go.ChangeShapes Go.WideShapes Go.ChangeAt Go.RowKit Heap
set_option linter.unusedVariables false

set_option maxRecDepth 100000 in
set_option maxHeartbeats 8000000 in
theorem heap_main (x0 x1 x2 x3 : Addr) (n k0 k1 k2 k3 : Nat) (zS zN zK zU : List Int) (w : World)
    (sS : Seen .i64 w (some x0) n zS) (sN : Seen .i32 w (some x1) n zN) (sK : Seen .i64 w (some x2) n zK) (sU : Seen .i64 w (some x3) n zU)
    (lS : n ≤ zS.length) (lN : n ≤ zN.length) (lK : n ≤ zK.length) (lU : n ≤ zU.length)
    (hn0 : 0 < n) (hn : n ≤ 4096) :
    Calls Try.prog 7 #[.slice (some x0) n k0, .slice (some x1) n k1, .slice (some x2) n k2, .slice (some x3) n k3] w fun e w' => e = .returned (.bool true) ∧ Below w.heap.size w w' := by
  go_enter Try.func7, Try.ntmps7
  go_wp2_with (go_at_call 26; go_in)
  refine (clone64 x0 n k0 zS w sS lS (by omega)).mono ?_
  rintro e w1 ⟨rfl, ho1, hb1, hs1⟩
  replace sN := seen_below' sN hb1
  replace sK := seen_below' sK hb1
  replace sU := seen_below' sU hb1
  clear sS
  go_wp2_with fail
  refine (clone32 x1 n k1 zN w1 sN lN (by omega)).mono ?_
  rintro e w2 ⟨rfl, ho2, hb2, hs2⟩
  replace sK := seen_below' sK hb2
  replace sU := seen_below' sU hb2
  clear sN
  go_wp2_with fail
  refine (cloneI x2 n k2 zK w2 sK lK (by omega)).mono ?_
  rintro e w3 ⟨rfl, ho3, hb3, hs3⟩
  replace sU := seen_below' sU hb3
  clear sK
  go_wp2_with fail
  refine (cloneI x3 n k3 zU w3 sU lU (by omega)).mono ?_
  rintro e w4 ⟨rfl, ho4, hb4, hs4⟩
  clear sU
  have hb34 : Below w3.heap.size w3 w4 := hb4
  have hb24 : Below w2.heap.size w2 w4 := hb3.trans (hb34.mono (by omega))
  have hb14 : Below w1.heap.size w1 w4 := hb2.trans (hb24.mono (by omega))
  have hb04 : Below w.heap.size w w4 := hb1.trans (hb14.mono (by omega))
  obtain ⟨Q0, HQ0⟩ : ∃ Q0, Hid (zip4 zS zN zK zU n = Q0) := ⟨_, rfl⟩
  have HL0 : Hid (Q0.length = n) := by unfold Hid; rw [← HQ0.out, zip4_len]
  have HF4 : Hid (Four w4 w.heap.size w1.heap.size w2.heap.size w3.heap.size Q0) := by
    unfold Hid; rw [← HQ0.out]
    exact zip4_four lS lN lK lU (rowI_below (own_of_rowI ho1) hb14) (rowI_below (own_of_rowI ho2) hb24) (rowI_below (own_of_rowI ho3) hb34) (own_of_rowI ho4)
  obtain ⟨bS, E1⟩ : ∃ b, Hid (w.heap.size = b) := ⟨_, rfl⟩
  obtain ⟨bN, E2⟩ : ∃ b, Hid (w1.heap.size = b) := ⟨_, rfl⟩
  obtain ⟨bK, E3⟩ : ∃ b, Hid (w2.heap.size = b) := ⟨_, rfl⟩
  obtain ⟨bU, E4⟩ : ∃ b, Hid (w3.heap.size = b) := ⟨_, rfl⟩
  rw [E1.out] at hs1
  rw [E1.out, E2.out, E3.out, E4.out] at HF4
  rw [E2.out] at hs1 hs2
  rw [E3.out] at hs2 hs3
  rw [E4.out] at hs3 hs4
  have ap : Apart4 bS bN bK bU := by unfold Apart4; omega
  rw [E1.out, E2.out, E3.out, E4.out]
  clear ho1 ho2 ho3 ho4 hb1 hb2 hb3 hb4 hb34 hb24 hb14
  go_wp2_with fail
  refine (from_any bS bN bK bU n n n n n Q0 w4 HL0.out hn HF4.out).mono ?_
  rintro e w5 ⟨rfl, hR5, hb45⟩
  obtain ⟨gM, E5⟩ : ∃ b, Hid (w4.heap.size = b) := ⟨_, rfl⟩
  have HR5 : Hid (RowT w5 gM 43 Q0) := by rw [← E5.out]; exact hR5
  have HF5 : Hid (Four w5 bS bN bK bU Q0) := four_below HF4.out hb45
  have hs5 := rowT_lt hR5
  have HB05 : Hid (Below bS w w5) := by
    unfold Hid
    have := hb04.trans (hb45.mono hb04.size)
    rw [E1.out] at this; exact this
  rw [E5.out] at hs5 hs4
  rw [E5.out]
  clear hR5 hb45 hb04 HF4
  go_wp2_with fail
  obtain ⟨n2, EN2⟩ : ∃ n2, Hid (n2 = n / 2) := ⟨_, rfl⟩
  go_loopw [11] (fun v wr => ∃ (k : Nat) (Q : List Tn), v = .int .i64 ((k : Int) - 1) ∧ k ≤ n2 ∧ Hid (Q.length = n) ∧ Hid (Q.Perm Q0) ∧ Hid (Ht Q k) ∧ Hid (Four wr bS bN bK bU Q) ∧ Hid (Kept4 bS bN bK bU w5.heap.size w5 wr))
    (fun v _ => (intOf v + 1).toNat)
  case atStart => exact ⟨n2, Q0, congrArg (Value.int .i64) (by have := EN2.out; omega), Nat.le_refl _, HL0, List.Perm.refl _, (by intro x h1 h2 h3; have := EN2.out; have := HL0.out; omega), HF5, Kept4.refl _ _ _ _ _ _⟩
  case round =>
    clear HF5
    obtain ⟨k, Q, rfl, hk, HL, HP, HH, HF, HK⟩ := hrel
    cases k with
    | succ k =>
      rw [show (((k + 1 : Nat) : Int) - 1) = (k : Int) from by omega]
      have hkn : k < n := by have := EN2.out; omega
      have C := zdown bS bN bK bU n k n n n n Q wr ap (by rw [HL.out]; omega) hn hkn HF.out (by rw [List.take_of_length_le (by rw [HL.out]; omega)]; exact HH.out)
      rw [List.take_of_length_le (by rw [HL.out]; omega), List.drop_eq_nil_of_le (by rw [HL.out]; omega)] at C
      have hsz := HK.out.size
      go_wp2_with fail
      refine C.mono ?_
      rintro e w6 ⟨rfl, P, hP, hH, hF, hK⟩
      rw [List.append_nil] at hF
      have HFn : Hid (Four w6 bS bN bK bU P) := hF
      have HKn : Hid (Kept4 bS bN bK bU w5.heap.size w5 w6) := HK.out.trans (hK.mono hsz)
      have HPn : Hid (P.Perm Q0) := hP.trans HP.out
      have HLn : Hid (P.length = n) := by unfold Hid; rw [hP.length_eq, HL.out]
      have HHn : Hid (Ht P k) := hH
      clear C hP hH hF hK HF HK HP HL HH
      go_wp2
      go_roundw
      case rel => exact ⟨k, P, rfl, by omega, HLn, HPn, HHn, HFn, HKn⟩
      case measure => simp [intOf]
    | zero =>
      rw [show (((0 : Nat) : Int) - 1) = -1 from rfl]
      have HS0 : Hid (Hs Q0 Q n) := by
        have := hs_start (by rw [HL.out, HL0.out]) HP.out HH.out; rw [HL.out] at this; exact this
      clear HP HH
      go_wp2_with fail
      go_loopw [12] (fun v wr => ∃ (e : Nat) (Q : List Tn), v = .int .i64 e ∧ e + 1 ≤ n ∧ Hid (Q.length = n) ∧ Hid (Hs Q0 Q (e + 1)) ∧ Hid (Four wr bS bN bK bU Q) ∧ Hid (Kept4 bS bN bK bU w5.heap.size w5 wr))
        (fun v _ => (intOf v).toNat)
      case atStart => exact ⟨n - 1, Q, congrArg (Value.int .i64) (by omega), by omega, HL, (by unfold Hid; rw [show n - 1 + 1 = n from by omega]; exact HS0.out), HF, HK⟩
      case round =>
        clear HL HS0 HF HK
        obtain ⟨e, Q, rfl, hen, HL, HS, HF, HK⟩ := hrel
        by_cases he : 1 ≤ e
        · obtain ⟨s0, n0, c0, u0, H0⟩ : ∃ s0 n0 c0 u0, Hid (ix Q 0 = (s0, n0, c0, u0)) := ⟨_, _, _, _, rfl⟩
          obtain ⟨s1, n1, c1, u1, H1⟩ : ∃ s1 n1 c1 u1, Hid (ix Q e = (s1, n1, c1, u1)) := ⟨_, _, _, _, rfl⟩
          obtain ⟨a0, a1, a2, a3⟩ := four_at HF.out 0 (by rw [HL.out]; omega)
          obtain ⟨d0, d1, d2, d3⟩ := four_at HF.out e (by rw [HL.out]; omega)
          rw [H0.out] at a0 a1 a2 a3
          rw [H1.out] at d0 d1 d2 d3
          simp only at a0 a1 a2 a3 d0 d1 d2 d3
          have f0 := rowI_frozen HF.out.1 0
          have f1 := rowI_frozen HF.out.2.1 0
          have f2 := rowI_frozen HF.out.2.2.1 0
          have f3 := rowI_frozen HF.out.2.2.2 0
          have h0 := rowI_frozen HF.out.1 e
          have h1 := rowI_frozen HF.out.2.1 e
          have h2 := rowI_frozen HF.out.2.2.1 e
          have h3 := rowI_frozen HF.out.2.2.2 e
          have p1 : ¬ bS = bN := ap.1
          have p2 : ¬ bS = bK := ap.2.1
          have p3 : ¬ bS = bU := ap.2.2.1
          have p4 : ¬ bN = bK := ap.2.2.2.1
          have p5 : ¬ bN = bU := ap.2.2.2.2.1
          have p6 : ¬ bK = bU := ap.2.2.2.2.2
          have p1' : ¬ bN = bS := fun h => p1 h.symm
          have p2' : ¬ bK = bS := fun h => p2 h.symm
          have p3' : ¬ bU = bS := fun h => p3 h.symm
          have p4' : ¬ bK = bN := fun h => p4 h.symm
          have p5' : ¬ bU = bN := fun h => p5 h.symm
          have p6' : ¬ bU = bK := fun h => p6 h.symm
          have he0 : ¬ e = 0 := by omega
          have he0' : ¬ 0 = e := by omega
          have hnn : (0 : Int) < (n : Int) := by omega
          have hei : (e : Int) < (n : Int) := by omega
          have HF8 : Hid (Four (swpW wr bS bN bK bU e s0 n0 c0 u0 s1 n1 c1 u1) bS bN bK bU (swp Q e)) := four_swp HF.out ap e H0.out H1.out
          have HK8 : Hid (Kept4 bS bN bK bU w5.heap.size w5 (swpW wr bS bN bK bU e s0 n0 c0 u0 s1 n1 c1 u1)) := HK.out.trans (kept4_swp _ _ _ _ _ _ _ _ _ _ _ _ _ _ _)
          clear HF HK H0 H1
          go_upto_region 37 with fail
          go_cut [] (fun wx => Hid (Four wx bS bN bK bU (swp Q e)) ∧ Hid (Kept4 bS bN bK bU w5.heap.size w5 wx))
          case first =>
            go_wp2_with fail
            go_meet
            case rel => exact ⟨HF8, HK8⟩
          case rest =>
          clear HF8 HK8 a0 a1 a2 a3 d0 d1 d2 d3 f0 f1 f2 f3 h0 h1 h2 h3 p1 p2 p3 p4 p5 p6 p1' p2' p3' p4' p5' p6'
          obtain ⟨HF, HK⟩ := hcut
          have hsz := HK.out.size
          have HC : Hid (∀ W : World, (Four W bS bN bK bU (swp Q e) ∧ Kept4 bS bN bK bU w5.heap.size w5 W) → Calls Try.prog 25 #[.slice (some ⟨bS, 0, none⟩) e n, .slice (some ⟨bN, 0, none⟩) e n, .slice (some ⟨bK, 0, none⟩) e n, .slice (some ⟨bU, 0, none⟩) e n, .int .i64 0] W fun r w' =>
              r = .returned (.tuple #[]) ∧ ∃ P, P.Perm ((swp Q e).take e) ∧ Ht P 0 ∧ Four w' bS bN bK bU (P ++ (swp Q e).drop e) ∧ Kept4 bS bN bK bU w5.heap.size w5 w') := by
            intro W hW
            refine (zdown bS bN bK bU e 0 n n n n (swp Q e) W ap (by rw [swp_len, HL.out]; omega) (by omega) (by omega) hW.1 (swp_ht HS.out (by omega))).mono ?_
            rintro r w' ⟨rfl, P, h1, h2, h3, h4⟩
            exact ⟨rfl, P, h1, h2, h3, hW.2.trans (h4.mono hW.2.size)⟩
          have hei2 : (e : Int) ≤ (n : Int) := by omega
          have hez : (0 : Int) ≤ (e : Int) := by omega
          go_upto_region 38 with fail
          have HD : Hid (Four wc.drew bS bN bK bU (swp Q e) ∧ Kept4 bS bN bK bU w5.heap.size w5 wc.drew) := ⟨HF.out, HK.out.os, HK.out.tape, HK.out.output, HK.out.size, HK.out.block⟩
          go_region_held3 (fun w' => True) (exact True.intro) ((go_at_call 25; refine (HC.out _ HD.out).mono ?_; rintro r w' ⟨rfl, P, hP, hH, hF, hK⟩))
          have HSn : Hid (Hs Q0 (P ++ (swp Q e).drop e) (e - 1 + 1)) := by
            have := hs_step HS.out (by omega) hP hH; unfold Hid; rw [show e - 1 + 1 = e from by omega]; exact this
          have HLn : Hid ((P ++ (swp Q e).drop e).length = n) := by unfold Hid; rw [HSn.out.len, HL0.out]
          have HFn : Hid (Four w' bS bN bK bU (P ++ (swp Q e).drop e)) := hF
          have HKn : Hid (Kept4 bS bN bK bU w5.heap.size w5 w') := hK
          clear HC HD HF HK HS HL hP hH hF hK
          go_wp2
          go_roundw
          case rel => exact ⟨e - 1, _, congrArg (Value.int .i64) (by omega), by omega, HLn, HSn, HFn, HKn⟩
          case measure => simp [intOf]; omega
        · obtain rfl : e = 0 := by omega
          have HRk : Hid (RowT wr gM 43 Q0) := rowT_kept4 HK.out HR5.out hs5 (by omega) (by omega) (by omega) (by omega)
          have C := sort_any gM n n Q0 wr HL0.out hn HRk.out
          have hsz := HK.out.size
          go_wp2_with fail
          refine C.mono ?_
          rintro r w6 ⟨rfl, M, hRM, hPM, hSM, hG⟩
          have HLM : Hid (M.length = n) := by unfold Hid; rw [hPM.length_eq, HL0.out]
          have HA : Hid (∀ j, j < n → ix Q j = ix M (n - 1 - j)) := by
            have := agree HS.out (by omega) hPM (by rw [HLM.out]; exact hSM); rw [HL.out] at this; exact this
          have HF6 : Hid (Four w6 bS bN bK bU Q) := four_kept HF.out hG (by simp; omega) (by simp; omega) (by simp; omega) (by simp; omega)
          have HR6 : Hid (RowT w6 gM 43 M) := hRM
          have HB6 : Hid (Below bS w w6) := by
            have b1 := kept4_below HK.out (B0 := bS) (by omega) (Nat.le_refl _) (by omega) (by omega) (by omega)
            have b2 : Below bS wr w6 := ⟨hG.os, hG.tape, hG.output, hG.size, fun k hk => hG.block k (by omega) (by simp; omega)⟩
            exact (HB05.out.trans b1).trans b2
          clear C hRM hPM hSM hG HF HK HS HRk
          go_wp2_with fail
          go_loopw [17] (fun v wx => ∃ j : Nat, v = .int .i64 j ∧ j ≤ n ∧ Below w6.heap.size w6 wx)
            (fun v _ => n - (intOf v).toNat)
          case atStart => exact ⟨0, rfl, by omega, Below.refl _ _⟩
          case round =>
            obtain ⟨j, rfl, hjn, hb⟩ := hrel
            have hsz6 := hb.size
            by_cases hj : j < n
            · obtain ⟨p, HPp⟩ : ∃ p, Hid (p = n - 1 - j) := ⟨_, rfl⟩
              have hpn : p < n := by have := HPp.out; omega
              have hpe : (n : Int) - 1 - (j : Int) = (p : Int) := by have := HPp.out; omega
              obtain ⟨s1, n1, c1, u1, H1⟩ : ∃ s1 n1 c1 u1, Hid (ix Q j = (s1, n1, c1, u1)) := ⟨_, _, _, _, rfl⟩
              have H2 : Hid (ix M p = (s1, n1, c1, u1)) := by unfold Hid; rw [HPp.out, ← HA.out j hj, H1.out]
              obtain ⟨a0, a1, a2, a3⟩ := four_at (four_below HF6.out hb) j (by rw [HL.out]; exact hj)
              rw [H1.out] at a0 a1 a2 a3
              obtain ⟨d0, d1, d2, d3⟩ := at_below (rowT_at HR6.out p (by rw [HLM.out]; exact hpn)) hb
              rw [H2.out] at d0 d1 d2 d3
              simp only at a0 a1 a2 a3 d0 d1 d2 d3
              have l4 := four_lt (four_below HF6.out hb)
              have l1 : bS < wr.heap.size := l4.1
              have l2 : bN < wr.heap.size := l4.2.1
              have l3 : bK < wr.heap.size := l4.2.2.1
              have l5 : bU < wr.heap.size := l4.2.2.2
              clear l4
              have hji : (j : Int) < (n : Int) := by omega
              go_upto_region 44 with fail
              go_quiet (fail)
              go_wp2
              go_roundw
              case rel => exact ⟨j + 1, by go_num, by omega, below_drewN (hb.alloc hsz6 _) _⟩
              case measure => simp [intOf]; omega
            · have hbf := HB6.out.trans (hb.mono (by have := (four_lt HF6.out).1; omega))
              have HBF : Hid (Below w.heap.size w wr) := by unfold Hid; rw [E1.out]; exact hbf
              clear hbf
              go_wp2
              go_ret
              exact ⟨rfl, HBF.out⟩
end Go.Proofs.Qxb6000020a
