/-
  The walk of FnPlaceDecodesAStream (9).
-/
import Derived.Test.Qxb6000020aStreamPlain
import Derived.Test.Qxb6000020aIdle
import Derived.Deep.DeepCutAuto
import Derived.WalkSmall
namespace Go.Proofs.Qxb6000020a
open Go.ChangeShapes Go.WideShapes Go.ChangeAt Go.RowKit
set_option linter.unusedVariables false

theorem seen_below {k : IntKind} {w w' : World} {a : Option Addr} {len : Nat} {zs : List Int} (h : Seen k w a len zs) (hb : Below w.heap.size w w') : Seen k w' a len zs := by
  intro hp
  obtain ⟨b, off, ha, hlt, hc⟩ := h hp
  exact ⟨b, off, ha, by have := hb.size; omega, fun j hj => (hb.cell (by exact hlt)).trans (hc j hj)⟩
theorem own_below {w w' : World} {B e : Nat} {v : Value} {n : Nat} {xs : List Value} (h : w.ownsRow B e 1 v n xs) (hb : Below w.heap.size w w') : w'.ownsRow B e 1 v n xs := by
  refine ⟨h.1, ?_⟩
  rcases h.2 with h2 | ⟨g, cap, cur, hv, hg, hh, r⟩
  · exact .inl h2
  · exact .inr ⟨g, cap, cur, hv, hg, by rw [hb.block g (lt_of_block hh)]; exact hh, r⟩
/-- the cells of a cloned row, at any later world -/
theorem row_cells {w w' : World} {B e g n : Nat} {k : IntKind} {zs : List Int} (h : w.ownsRow B e 1 (.slice (some ⟨g, 0, none⟩) n n) n (zs.map (Value.int k))) (hb : Below w.heap.size w w') :
    ∀ j, j < n → w'.cell? ⟨g, j, none⟩ = some (.int k (gt zs j)) := by
  intro j hj
  have := own_cells (own_below h hb) j hj
  rw [Nat.zero_add] at this
  rw [this]; simp [gt]

set_option maxRecDepth 100000 in
set_option maxHeartbeats 8000000 in
theorem stream_main (x0 x1 x2 x3 : Addr) (n k0 k1 k2 k3 : Nat) (zL zS zN zR : List Int) (w : World)
    (sL : Seen .i64 w (some x0) n zL) (sS : Seen .i64 w (some x1) n zS) (sN : Seen .i32 w (some x2) n zN) (sR : Seen .i64 w (some x3) n zR)
    (lL : n ≤ zL.length) (lS : n ≤ zS.length) (lN : n ≤ zN.length) (lR : n ≤ zR.length)
    (rL : ∀ j, -9223372036854775808 ≤ gt zL j ∧ gt zL j ≤ 9223372036854775807) (rS : ∀ j, -9223372036854775808 ≤ gt zS j ∧ gt zS j ≤ 9223372036854775807)
    (rN : ∀ j, -2147483648 ≤ gt zN j ∧ gt zN j ≤ 2147483647) (rR : ∀ j, -9223372036854775808 ≤ gt zR j ∧ gt zR j ≤ 9223372036854775807)
    (hn0 : 0 < n) (hn : n ≤ 4096) :
    Calls Try.prog 9 #[.slice (some x0) n k0, .slice (some x1) n k1, .slice (some x2) n k2, .slice (some x3) n k3] w fun e w' => e = .returned (.bool true) ∧ Below w.heap.size w w' := by
  obtain ⟨i0, hi, hz0, hz1, hz2⟩ := info_parts info5
  go_enter Try.func9, Try.ntmps9
  go_wp2_with (go_at_call 31; go_in)
  refine (cloneI x0 n k0 zL w sL lL (by omega)).mono ?_
  rintro e w1 ⟨rfl, ho1, hb1, hs1⟩
  replace sS := seen_below sS hb1
  replace sN := seen_below sN hb1
  replace sR := seen_below sR hb1
  clear sL
  go_wp2_with fail
  refine (clone64 x1 n k1 zS w1 sS lS (by omega)).mono ?_
  rintro e w2 ⟨rfl, ho2, hb2, hs2⟩
  replace sN := seen_below sN hb2
  replace sR := seen_below sR hb2
  clear sS
  go_wp2_with fail
  refine (clone32 x2 n k2 zN w2 sN lN (by omega)).mono ?_
  rintro e w3 ⟨rfl, ho3, hb3, hs3⟩
  replace sR := seen_below sR hb3
  clear sN
  go_wp2_with fail
  refine (cloneI x3 n k3 zR w3 sR lR (by omega)).mono ?_
  rintro e w4 ⟨rfl, ho4, hb4, hs4⟩
  clear sR
  have hb34 : Below w3.heap.size w3 w4 := hb4
  have hb24 : Below w2.heap.size w2 w4 := hb3.trans (hb34.mono (by omega))
  have hb14 : Below w1.heap.size w1 w4 := hb2.trans (hb24.mono (by omega))
  have hb04 : Below w.heap.size w w4 := hb1.trans (hb14.mono (by omega))
  have gtt : ∀ (z : List Int) j, j < n → gt (z.take n) j = gt z j := by
    intro z j hj; unfold gt; rw [List.getElem?_take, if_pos hj]
  have cL : ∀ j, j < n → w4.cell? ⟨w.heap.size, j, none⟩ = some (.int .i64 (gt zL j)) := fun j hj => by rw [row_cells ho1 hb14 j hj, gtt _ _ hj]
  have cS : ∀ j, j < n → w4.cell? ⟨w1.heap.size, j, none⟩ = some (.int .i64 (gt zS j)) := fun j hj => by rw [row_cells ho2 hb24 j hj, gtt _ _ hj]
  have cN : ∀ j, j < n → w4.cell? ⟨w2.heap.size, j, none⟩ = some (.int .i32 (gt zN j)) := fun j hj => by rw [row_cells ho3 hb34 j hj, gtt _ _ hj]
  have cR : ∀ j, j < n → w4.cell? ⟨w3.heap.size, j, none⟩ = some (.int .i64 (gt zR j)) := fun j hj => by rw [row_cells ho4 (Below.refl _ _) j hj, gtt _ _ hj]
  clear ho1 ho2 ho3 ho4 hb1 hb2 hb3 hb4 hb34 hb24 hb14 gtt
  have HC : Hid ((∀ j, j < n → w4.cell? ⟨w.heap.size, j, none⟩ = some (.int .i64 (gt zL j))) ∧ (∀ j, j < n → w4.cell? ⟨w1.heap.size, j, none⟩ = some (.int .i64 (gt zS j))) ∧ (∀ j, j < n → w4.cell? ⟨w2.heap.size, j, none⟩ = some (.int .i32 (gt zN j))) ∧ (∀ j, j < n → w4.cell? ⟨w3.heap.size, j, none⟩ = some (.int .i64 (gt zR j)))) := ⟨cL, cS, cN, cR⟩
  clear cL cS cN cR
  go_wp2_with (at_make; refine wpList_make_own _ rfl _ _ 22 rfl w4.heap.size 5 i0 (.int .u8 0) 1 Try.underlying22 hi hz0 hz1 .i64 .i64 _ (32 * n) rfl rfl (by omega) (by rw [hz2]; omega) (by unfold maxLen; omega) (Nat.le_refl _) ?_; intro w5 hown5 hgrow5)
  have hb5 : Below w4.heap.size w4 w5 := (Below.refl _ _).grown hgrow5 (Nat.le_refl _) (fun k h => by cases h)
  clear hgrow5
  go_loopw [10, 11, 12, 13, 14, 15, 16] (fun buf ps pl pser pss pst i wr => ∃ j m g c : Nat, j ≤ n ∧ m ≤ 61 * j ∧ Hid ((rcs zL zS zN zR j).length = m) ∧ i = .int .i64 j ∧ ps = .int .i64 (pr zS j) ∧ pl = .int .i64 (pr zL j) ∧ pser = .int .i64 (pr zR j) ∧ pss = .int .i64 (pd zS j) ∧ pst = .int .i64 (pd zL j) ∧
      buf = .slice (some ⟨g, 0, none⟩) m c ∧ Hid (wr.ownsRow w4.heap.size 5 1 buf m ((rcs zL zS zN zR j).map (Value.int .u8))) ∧ Below w4.heap.size w4 wr)
    (fun _ _ _ _ _ _ i _ => n - (intOf i).toNat)
  case atStart => exact ⟨0, 0, _, _, by omega, by omega, rfl, rfl, rfl, rfl, rfl, rfl, rfl, rfl, hown5, hb5⟩
  case round =>
    clear hown5 hb5
    obtain ⟨j, m, g, c, hj, hm, HM, rfl, rfl, rfl, rfl, rfl, rfl, rfl, ho, hb⟩ := hrel
    have hsz := hb.size
    by_cases hlt : j < n
    · have hcL : wr.cell? ⟨w.heap.size, j, none⟩ = some (.int .i64 (gt zL j)) := (hb.cell (by show w.heap.size < _; omega)).trans (HC.out.1 j hlt)
      have hcS : wr.cell? ⟨w1.heap.size, j, none⟩ = some (.int .i64 (gt zS j)) := (hb.cell (by show w1.heap.size < _; omega)).trans (HC.out.2.1 j hlt)
      have hcN : wr.cell? ⟨w2.heap.size, j, none⟩ = some (.int .i32 (gt zN j)) := (hb.cell (by show w2.heap.size < _; omega)).trans (HC.out.2.2.1 j hlt)
      have hcR : wr.cell? ⟨w3.heap.size, j, none⟩ = some (.int .i64 (gt zR j)) := (hb.cell (by show w3.heap.size < _; omega)).trans (HC.out.2.2.2 j hlt)
      go_upto_if 102 with fail
      go_cut [19] (fun s19 wx => s19 = .int .u8 (fv (c1 zR j) false false) ∧ wr = wx)
      case first =>
        cases h1 : (gt zR j == pr zR j)
        · have E : Hid (fv (c1 zR j) false false = 0) := by unfold Hid c1; rw [h1]; decide
          go_wp2_with fail
          go_meet
          case rel => exact ⟨by rw [E.out], rfl⟩
        · have E : Hid (fv (c1 zR j) false false = bits .or .u8 0 64) := by unfold Hid c1; rw [h1, fv_or1]
          go_wp2_with fail
          go_meet
          case rel => exact ⟨by rw [E.out], rfl⟩
      case rest =>
      obtain ⟨rfl, rfl⟩ := hcut
      go_upto_region 32 with fail
      go_cut [17, 18, 112] (fun s17 s18 s112 wx => s17 = .int .i64 (df zL j) ∧ s18 = .int .i64 (df zS j) ∧ s112 = .bool (c2 zL zS j) ∧ wr = wx)
      case first =>
        cases hA : (wrap64 (gt zL j - pr zL j) == pd zL j)
        · have E : Hid (c2 zL zS j = false) := by unfold Hid c2; rw [show (df zL j == pd zL j) = false from hA]; rfl
          go_wp2_with fail
          go_meet
          case rel => exact ⟨rfl, rfl, by rw [E.out], rfl⟩
        · cases hB : (wrap64 (gt zS j - pr zS j) == pd zS j)
          · have E : Hid (c2 zL zS j = false) := by unfold Hid c2; rw [show (df zL j == pd zL j) = true from hA, show (df zS j == pd zS j) = false from hB]; rfl
            go_wp2_with fail
            go_meet
            case rel => exact ⟨rfl, rfl, by rw [E.out], rfl⟩
          · have E : Hid (c2 zL zS j = true) := by unfold Hid c2; rw [show (df zL j == pd zL j) = true from hA, show (df zS j == pd zS j) = true from hB]; rfl
            go_wp2_with fail
            go_meet
            case rel => exact ⟨rfl, rfl, by rw [E.out], rfl⟩
      case rest =>
      obtain ⟨rfl, rfl, rfl, rfl⟩ := hcut
      go_upto_if 112 with fail
      go_cut [19] (fun s19 wx => s19 = .int .u8 (fv (c1 zR j) (c2 zL zS j) false) ∧ wr = wx)
      case first =>
        cases h2 : c2 zL zS j
        · have E : Hid (fv (c1 zR j) (c2 zL zS j) false = fv (c1 zR j) false false) := by unfold Hid; rw [h2]
          go_wp2_with fail
          go_meet
          case rel => exact ⟨by rw [E.out], rfl⟩
        · have E : Hid (fv (c1 zR j) (c2 zL zS j) false = bits .or .u8 (fv (c1 zR j) false false) 128) := by unfold Hid; rw [h2, fv_or2]
          go_wp2_with fail
          go_meet
          case rel => exact ⟨by rw [E.out], rfl⟩
      case rest =>
      obtain ⟨rfl, rfl⟩ := hcut
      go_upto_if 119 with fail
      go_cut [19] (fun s19 wx => s19 = .int .u8 (flg zL zS zN zR j) ∧ wr = wx)
      case first =>
        cases h3 : (gt zN j == 0)
        · have E : Hid (flg zL zS zN zR j = fv (c1 zR j) (c2 zL zS j) false) := by unfold Hid flg c3; rw [h3]
          go_wp2_with fail
          go_meet
          case rel => exact ⟨by rw [E.out], rfl⟩
        · have E : Hid (flg zL zS zN zR j = bits .or .u8 (fv (c1 zR j) (c2 zL zS j) false) 8) := by unfold Hid flg c3; rw [h3, fv_or3]
          go_wp2_with fail
          go_meet
          case rel => exact ⟨by rw [E.out], rfl⟩
      case rest =>
      obtain ⟨rfl, rfl⟩ := hcut
      obtain ⟨HD, hHD⟩ : ∃ HD, Hid (rc zL zS zN zR j = HD) := ⟨_, rfl⟩
      have hH1 : 1 ≤ HD.length := by rw [← hHD.out]; exact rc_len _ _ _ _ _
      have hH2 : HD.length ≤ 61 := by rw [← hHD.out]; exact rc_le _ _ _ _ _
      have hfb := fv_bd (c1 zR j) (c2 zL zS j) (c3 zN j)
      have HH : Hid (∀ W : World, Calls Try.prog 29 #[.int .u8 (flg zL zS zN zR j), .int .i64 (gt zR j), .int .i64 (df zL j), .int .i64 (df zS j), .int .i32 (gt zN j), .int .u64 0, .int .i32 0] W fun e w' =>
          ∃ v, e = .returned v ∧ Own W.heap.size W w' v HD 100) := fun W => hHD.out ▸
        header_any (flg zL zS zN zR j) (gt zR j) (df zL j) (df zS j) (gt zN j) 0 0 W hfb.1 hfb.2 (rR j).1 (rR j).2 (df_bd zL j).1 (df_bd zL j).2 (df_bd zS j).1 (df_bd zS j).2 (rN j).1 (rN j).2 (by omega) (by omega) (by omega) (by omega) _ rfl _ rfl
      go_upto_region 36 with fail
      go_cut [20] (fun s20 wx => ∃ g2 q2 : Nat, s20 = .slice (some ⟨g2, 0, none⟩) HD.length q2 ∧ wr.heap.size ≤ g2 ∧ g2 < wx.heap.size ∧ Hid (wx.ownsRow wr.heap.size 5 1 (.slice (some ⟨g2, 0, none⟩) HD.length q2) HD.length (HD.map (Value.int .u8))) ∧ Below wr.heap.size wr wx)
      case first =>
        go_region_with (go_at_call 29; refine (HH.out _).mono ?_; rintro e w' ⟨v, rfl, hov⟩; obtain ⟨g2, q2, rfl, hg2, hg3⟩ := own_shape hov.1 (by omega))
        all_goals
          go_wp2_with fail
          go_meet
          case rel => exact ⟨g2, q2, rfl, hg2, hg3, hov.1, (Below.refl _ wr).drew.trans hov.2.1⟩
      case rest =>
      clear HH
      obtain ⟨g2, q2, rfl, hg2, hg3, hh, hb6⟩ := hcut
      have hgl := (ho.out.lt g rfl)
      have hgne : g ≠ g2 := by omega
      have ho6 := own_below ho.out hb6
      have HO6 : Hid (wc.ownsRow w4.heap.size 5 1 (.slice (some ⟨g, 0, none⟩) m c) m ((rcs zL zS zN zR j).map (Value.int .u8))) := ho6
      have hb7 : Below w4.heap.size w4 wc := hb.trans (hb6.mono hsz)
      clear ho6 ho hb hb6 hcL hcS hcN hcR hgl
      go_wp2_with fail
      go_loopw [10, 21] (fun buf i wv => ∃ k g c : Nat, k ≤ HD.length ∧ i = .int .i64 k ∧ buf = .slice (some ⟨g, 0, none⟩) (m + k) c ∧ g ≠ g2 ∧ g2 < wv.heap.size ∧ Hid (wv.ownsRow w4.heap.size 5 1 (.slice (some ⟨g, 0, none⟩) (m + k) c) (m + k) ((rcs zL zS zN zR j ++ HD.take k).map (Value.int .u8))) ∧
          Hid (wv.ownsRow wr.heap.size 5 1 (.slice (some ⟨g2, 0, none⟩) HD.length q2) HD.length (HD.map (Value.int .u8))) ∧ Below w4.heap.size w4 wv)
        (fun _ i _ => HD.length - (intOf i).toNat)
      case atStart => exact ⟨0, g, c, by omega, rfl, rfl, hgne, hg3, (by unfold Hid; simpa using HO6.out), hh, hb7⟩
      case round =>
        clear HO6 hh hb7 hgne hg3
        obtain ⟨k, g, c, hk, rfl, rfl, hgne, hg3, ho, hh, hb⟩ := hrel
        have hsv := hb.size
        by_cases hkl : k < HD.length
        · have hcell := own_cells hh.out k hkl
          obtain ⟨d, hd⟩ : ∃ d, Hid (HD.getD k 0 = d) := ⟨_, rfl⟩
          rw [Nat.zero_add, hd.out] at hcell
          go_wp2_with (at_builtin; refine wpList_append_sep _ rfl _ _ 22 rfl w4.heap.size 5 i0 (.int .u8 0) 1 Try.underlying22 hi hz0 hz1 hz2 rfl _ _ _ _ rfl (ho.out.alloc _) ⟨_, 0, none⟩ 1 1 [.int .u8 d] rfl rfl (by omega) (cell_one_new _ _ _) (by intro u hu; simp at hu; subst hu; rfl) (by unfold maxLen; omega) (by omega) (by simp; omega) ?_; intro g' c' w3x hown1 hgrow1 hor)
          have R : w3x.ownsRow w4.heap.size 5 1 (.slice (some ⟨g', 0, none⟩) (m + (k + 1)) c') (m + (k + 1)) ((rcs zL zS zN zR j ++ HD.take (k + 1)).map (Value.int .u8)) := by
            rw [take_snoc HD k hkl, ← List.getD_eq_getElem?_getD, hd.out]; simpa [Nat.add_assoc] using hown1
          have hh2 := (hh.out.alloc (.cells #[.int .u8 d] 5)).kept hgrow1 (.inr (by simp [Value.ownBlock]; omega))
          have hs2 := hgrow1.size
          have hgn : g' ≠ g2 := by rcases hor with h | h; · omega
                                   · simp at h; omega
          have hb1 := (hb.alloc (by omega) (.cells #[.int .u8 d] 5)).grown hgrow1 (by simp; omega) (fun j hj => (ho.out.lt j hj).1)
          go_roundw
          case rel => exact ⟨k + 1, g', c', by omega, by go_num, rfl, hgn, (by simp at hs2; omega), R, hh2, hb1⟩
          case measure => simp [intOf]; omega
        · obtain rfl : k = HD.length := by omega
          have hcL := (hb.cell (p := ⟨w.heap.size, j, none⟩) (by show w.heap.size < _; omega)).trans (HC.out.1 j hlt)
          have hcS := (hb.cell (p := ⟨w1.heap.size, j, none⟩) (by show w1.heap.size < _; omega)).trans (HC.out.2.1 j hlt)
          have hcR := (hb.cell (p := ⟨w3.heap.size, j, none⟩) (by show w3.heap.size < _; omega)).trans (HC.out.2.2.2 j hlt)
          have R : Hid (wr.ownsRow w4.heap.size 5 1 (.slice (some ⟨g, 0, none⟩) (m + HD.length) c) (m + HD.length) ((rcs zL zS zN zR (j + 1)).map (Value.int .u8))) := by
            have := ho.out; rw [List.take_length] at this; unfold Hid; rw [show rcs zL zS zN zR (j + 1) = rcs zL zS zN zR j ++ HD from by rw [← hHD.out]; rfl]; exact this
          have HM1 : Hid ((rcs zL zS zN zR (j + 1)).length = m + HD.length) := by
            unfold Hid; rw [show rcs zL zS zN zR (j + 1) = rcs zL zS zN zR j ++ HD from by rw [← hHD.out]; rfl, List.length_append, HM.out]
          clear ho hh HM
          go_wp2
          go_roundw
          case rel => exact ⟨j + 1, m + HD.length, g, c, by omega, by omega, HM1, by go_num, rfl, rfl, rfl, rfl, rfl, rfl, R, hb⟩
          case measure => simp [intOf]; omega
    · obtain rfl : j = n := by omega
      have hgl := (ho.out.lt g rfl)
      have HB : Hid (∀ t, t < m → wr.cell? ⟨g, 0 + t, none⟩ = some (.int .u8 ((rcs zL zS zN zR j).getD t 0))) := own_cells ho.out
      have hmc : m ≤ c := by
        rcases ho.out.2 with ⟨h, _⟩ | ⟨_, _, _, h, _, _, h2, _⟩
        · cases h
        · cases h; exact h2
      have hbw := hb04.trans (hb.mono (by have := hb04.size; omega))
      have HC2 : Hid ((∀ t, t < j → wr.cell? ⟨w.heap.size, t, none⟩ = some (.int .i64 (gt zL t))) ∧ (∀ t, t < j → wr.cell? ⟨w1.heap.size, t, none⟩ = some (.int .i64 (gt zS t))) ∧ (∀ t, t < j → wr.cell? ⟨w2.heap.size, t, none⟩ = some (.int .i32 (gt zN t))) ∧ (∀ t, t < j → wr.cell? ⟨w3.heap.size, t, none⟩ = some (.int .i64 (gt zR t)))) :=
        ⟨fun t ht => (hb.cell (p := ⟨w.heap.size, t, none⟩) (by show w.heap.size < _; omega)).trans (HC.out.1 t ht), fun t ht => (hb.cell (p := ⟨w1.heap.size, t, none⟩) (by show w1.heap.size < _; omega)).trans (HC.out.2.1 t ht),
          fun t ht => (hb.cell (p := ⟨w2.heap.size, t, none⟩) (by show w2.heap.size < _; omega)).trans (HC.out.2.2.1 t ht), fun t ht => (hb.cell (p := ⟨w3.heap.size, t, none⟩) (by show w3.heap.size < _; omega)).trans (HC.out.2.2.2 t ht)⟩
      clear HC ho hb
      generalize wr = wb at *
      go_wp2_with fail
      go_loopw [22, 23, 24, 25, 26, 27, 28] (fun cs cl cr css cst off i wx => ∃ t q : Nat, t ≤ j ∧ Hid ((rcs zL zS zN zR t).length = q) ∧ q ≤ m ∧ i = .int .i64 t ∧ off = .int .i64 q ∧ cs = .int .i64 (pr zS t) ∧ cl = .int .i64 (pr zL t) ∧ cr = .int .i64 (pr zR t) ∧ css = .int .i64 (pd zS t) ∧ cst = .int .i64 (pd zL t) ∧ Below wb.heap.size wb wx)
        (fun _ _ _ _ _ _ i _ => j - (intOf i).toNat)
      case atStart => exact ⟨0, 0, by omega, rfl, by omega, rfl, rfl, rfl, rfl, rfl, rfl, rfl, Below.refl _ _⟩
      case round =>
        obtain ⟨t, q, ht, HQ, hqm, rfl, rfl, rfl, rfl, rfl, rfl, rfl, hb⟩ := hrel
        have hsz := hb.size
        by_cases hlt : t < j
        · obtain ⟨tl, htl⟩ := rcs_split zL zS zN zR j t hlt
          obtain ⟨HD, hHD⟩ : ∃ HD, Hid (rc zL zS zN zR t = HD) := ⟨_, rfl⟩
          obtain ⟨z, hz⟩ : ∃ z, Hid (HD.length = z) := ⟨_, rfl⟩
          have hH1 : 1 ≤ z := by rw [← hz.out, ← hHD.out]; exact rc_len _ _ _ _ _
          have hqs : q + z ≤ m := by
            have := HM.out; rw [htl, List.length_append, List.length_append, HQ.out, hHD.out, hz.out] at this; omega
          have hcq : ¬ c = q := by omega
          have hdrop : (rcs zL zS zN zR j).drop q = rc zL zS zN zR t ++ tl := by
            rw [htl, List.append_assoc, ← HQ.out, List.drop_left]
          have hfb := fv_bd (c1 zR t) (c2 zL zS t) (c3 zN t)
          have K := codec_any (pr zS t) (pr zL t) (pr zR t) (pd zS t) (pd zL t) g q (m - q) (c - q) ((rcs zL zS zN zR j).drop q) (flg zL zS zN zR t) (gt zR t) (df zL t) (df zS t) (gt zN t) 0 0 wr (by omega) (by omega)
            (fun u hu => by
              have h0 := HB.out (q + u) (by omega)
              rw [Nat.zero_add] at h0
              rw [hb.cell (p := ⟨g, q + u, none⟩) hgl.2, h0]; simp [List.getElem?_drop])
            (rng_drop (rng_rcs zL zS zN zR j) q) (rR t).1 (rR t).2 (df_bd zL t).1 (df_bd zL t).2 (df_bd zS t).1 (df_bd zS t).2 (rN t).1 (rN t).2 (by omega) (by omega) (by omega) (by omega)
            (by rw [show hdr (flg zL zS zN zR t) (gt zR t) (df zL t) (df zS t) (gt zN t) 0 0 = HD from hHD.out, hz.out]; omega)
            (by intro u hu; rw [hdrop]; show (rc zL zS zN zR t ++ tl)[u]?.getD 0 = (rc zL zS zN zR t)[u]?.getD 0; rw [List.getElem?_append_left (by exact hu)])
          rw [placed_rec zL zS zN zR t (rL t) (rS t), hHD.out, hz.out] at K
          unfold outV at K
          have hcL := (hb.cell (p := ⟨w.heap.size, t, none⟩) (by show w.heap.size < _; omega)).trans (HC2.out.1 t hlt)
          have hcS := (hb.cell (p := ⟨w1.heap.size, t, none⟩) (by show w1.heap.size < _; omega)).trans (HC2.out.2.1 t hlt)
          have hcN := (hb.cell (p := ⟨w2.heap.size, t, none⟩) (by show w2.heap.size < _; omega)).trans (HC2.out.2.2.1 t hlt)
          have hcR := (hb.cell (p := ⟨w3.heap.size, t, none⟩) (by show w3.heap.size < _; omega)).trans (HC2.out.2.2.2 t hlt)
          clear hdrop htl
          go_wp2_with fail
          refine K.mono ?_
          rintro e w6 ⟨rfl, hb6⟩
          have hs6 := hb6.size
          have dL := (hb6.cell (p := ⟨w.heap.size, t, none⟩) (by show w.heap.size < _; omega)).trans hcL
          have dS := (hb6.cell (p := ⟨w1.heap.size, t, none⟩) (by show w1.heap.size < _; omega)).trans hcS
          have dN := (hb6.cell (p := ⟨w2.heap.size, t, none⟩) (by show w2.heap.size < _; omega)).trans hcN
          have dR := (hb6.cell (p := ⟨w3.heap.size, t, none⟩) (by show w3.heap.size < _; omega)).trans hcR
          have hb7 := hb.trans (hb6.mono hsz)
          clear K hb6 hcL hcS hcN hcR
          have l1 : w.heap.size < w6.heap.size := by omega
          have l2 : w1.heap.size < w6.heap.size := by omega
          have l3 : w2.heap.size < w6.heap.size := by omega
          have l4 : w3.heap.size < w6.heap.size := by omega
          have hHp : (0 : Int) < (z : Int) := by omega
          have hHz : ¬ (z : Int) ≤ 0 := by omega
          have hti : (t : Int) < (j : Int) := by omega
          go_upto_region 58 with fail
          go_quiet (fail)
          have HQ1 : Hid ((rcs zL zS zN zR (t + 1)).length = q + z) := by
            unfold Hid; rw [show rcs zL zS zN zR (t + 1) = rcs zL zS zN zR t ++ HD from by rw [← hHD.out]; rfl, List.length_append, HQ.out, hz.out]
          have hs7 := hb7.size
          go_wp2
          go_roundw
          case rel => exact ⟨t + 1, q + z, by omega, HQ1, by omega, by go_num, by go_num, rfl, rfl, rfl, rfl, rfl, below_drewN (hb7.alloc hs7 _) _⟩
          case measure => simp [intOf]; omega
        · obtain rfl : q = m := by
            have h1 := HQ.out; have h2 := HM.out; rw [show t = j from by omega] at h1; omega
          have hbf := hbw.trans (hb.mono (by have := hbw.size; omega))
          go_wp2
          go_ret
          exact ⟨by simp, hbf⟩
end Go.Proofs.Qxb6000020a
