/-
  The walk of FnPlaceReadsBackOwnRecord (8).
-/
import Derived.Test.Qxb6000020aCodec
import Derived.BigQuiet
import Derived.Deep.QuietTactic
import Derived.Deep.DeepCutAuto
namespace Go.Proofs.Qxb6000020a
open Go.ChangeShapes Go.WideShapes Go.ChangeAt Go.RowKit
set_option linter.unusedVariables false

set_option maxRecDepth 100000 in
theorem ownrec_big (sec line series secStep step fl rS rSt rSS ns lb : Int) (a : Option Addr) (len cap : Nat) (w : World) (hm : len ≤ maxLen) (h : 1048576 < len) :
    Calls Try.prog 8 #[.int .i64 sec, .int .i64 line, .int .i64 series, .int .i64 secStep, .int .i64 step, .int .u8 fl, .int .i64 rS, .int .i64 rSt, .int .i64 rSS, .int .i32 ns, .int .u64 lb, .slice a len cap] w fun e w' => e = .returned (.bool true) ∧ w' = w := by
  unfold maxLen at hm
  go_enter Try.func8, Try.ntmps8
  go_wp2
  all_goals (go_ret; exact ⟨rfl, rfl⟩)

theorem rng_seg {b : Bool} {x : Int} (h0 : 0 ≤ x) (h1 : x < 18446744073709551616) : Rng (seg b x) := by
  unfold seg
  split
  · exact rng_enc h0 h1
  · intro j; simp
theorem rng_hdr {fl rS rSt rSS ns lb an : Int} (hf0 : 0 ≤ fl) (hf1 : fl ≤ 255) (ht0 : -9223372036854775808 ≤ rSt) (ht1 : rSt ≤ 9223372036854775807) (hq0 : -9223372036854775808 ≤ rSS) (hq1 : rSS ≤ 9223372036854775807)
    (hb0 : 0 ≤ lb) (hb1 : lb < 18446744073709551616) : Rng (hdr fl rS rSt rSS ns lb an) := by
  have hzt := zig_bd rSt ht0 ht1
  have hzq := zig_bd rSS hq0 hq1
  unfold hdr
  refine rng_append (rng_append (rng_append (rng_append (rng_append (rng_append ?_ (rng_seg (by omega) (by omega))) (rng_seg hzt.1 hzt.2)) (rng_seg hzq.1 hzq.2)) (rng_seg (by omega) (by omega))) (rng_seg hb0 hb1)) (rng_seg (by omega) (by omega))
  intro j
  cases j with
  | zero => simp; omega
  | succ j => simp
theorem wrap32_bd (x : Int) : -2147483648 ≤ wrap32 x ∧ wrap32 x ≤ 2147483647 := by unfold wrap32; omega

set_option maxRecDepth 100000 in
set_option maxHeartbeats 8000000 in
theorem ownrec_main (sec line series secStep step fl rS rSt rSS ns lb : Int) (a : Option Addr) (len cap : Nat) (zs : List Int) (w : World)
    (s0 : Seen .u8 w a len zs) (l0 : len ≤ zs.length) (r0 : Rng zs) (hl : len ≤ 1048576)
    (hf0 : 0 ≤ fl) (hf1 : fl ≤ 255)
    (hS0 : -9223372036854775808 ≤ rS) (hS1 : rS ≤ 9223372036854775807)
    (ht0 : -9223372036854775808 ≤ rSt) (ht1 : rSt ≤ 9223372036854775807) (hq0 : -9223372036854775808 ≤ rSS) (hq1 : rSS ≤ 9223372036854775807)
    (hn0 : -2147483648 ≤ ns) (hn1 : ns ≤ 2147483647) (hb0 : 0 ≤ lb) (hb1 : lb < 18446744073709551616) :
    Calls Try.prog 8 #[.int .i64 sec, .int .i64 line, .int .i64 series, .int .i64 secStep, .int .i64 step, .int .u8 fl, .int .i64 rS, .int .i64 rSt, .int .i64 rSS, .int .i32 ns, .int .u64 lb, .slice a len cap] w fun e w' => e = .returned (.bool true) ∧ Below w.heap.size w w' := by
  obtain ⟨i0, hi, hz0, hz1, hz2⟩ := info_parts info5
  have han := wrap32_bd (999999999 - ns)
  have C := header_any fl rS rSt rSS ns lb (wrap32 (999999999 - ns)) w hf0 hf1 hS0 hS1 ht0 ht1 hq0 hq1 hn0 hn1 hb0 hb1 han.1 han.2 _ rfl _ rfl
  obtain ⟨HD, hHD⟩ : ∃ HD, Hid (hdr fl rS rSt rSS ns lb (wrap32 (999999999 - ns)) = HD) := ⟨_, rfl⟩
  rw [hHD.out] at C
  have hH1 : 1 ≤ HD.length := by rw [← hHD.out]; simp [hdr]
  have hHr : Rng HD := by rw [← hHD.out]; exact rng_hdr hf0 hf1 ht0 ht1 hq0 hq1 hb0 hb1
  go_enter Try.func8, Try.ntmps8
  go_wp2_with (first
    | (go_at_call 28; go_in)
    | (go_at_call 29; refine C.mono ?_; rintro e w1 ⟨v1, rfl, ho1⟩; obtain ⟨g1, c1, rfl, hg1, hg2⟩ := own_shape ho1.1 (by omega); have hHl := ho1.2.2.2)
    | (at_make; refine wpList_make_own _ rfl _ _ 22 rfl w1.heap.size 5 i0 (.int .u8 0) 1 Try.underlying22 hi hz0 hz1 .i64 .i64 _ (HD.length + len) rfl rfl (by omega) (by rw [hz2]; omega) (by unfold maxLen; omega) (Nat.le_refl _) ?_; intro w2 hown2 hgrow2))
  have hb2 : Below w1.heap.size w1 w2 := (Below.refl _ _).grown hgrow2 (Nat.le_refl _) (fun k h => by cases h)
  have hw1 := ho1.2.1
  have hws := hw1.size
  have hch := own_cells ho1.1
  clear hgrow2 C ho1
  go_loopw [27, 28] (fun v i wr => ∃ k g c : Nat, k ≤ HD.length ∧ i = .int .i64 k ∧ v = .slice (some ⟨g, 0, none⟩) k c ∧ Hid (wr.ownsRow w1.heap.size 5 1 v k ((HD.take k).map (Value.int .u8))) ∧ Below w1.heap.size w1 wr)
    (fun _ i _ => HD.length - (intOf i).toNat)
  case atStart => exact ⟨0, _, _, by omega, rfl, rfl, hown2, hb2⟩
  case round =>
    clear hown2 hb2
    obtain ⟨k, g, c, hk, rfl, rfl, ho, hb⟩ := hrel
    have hsz := hb.size
    by_cases hlt : k < HD.length
    · have hcell := (hb.cell (p := ⟨g1, 0 + k, none⟩) (by exact hg2)).trans (hch k hlt)
      obtain ⟨d, hd⟩ : ∃ d, Hid (HD.getD k 0 = d) := ⟨_, rfl⟩
      rw [Nat.zero_add, hd.out] at hcell
      clear hch s0 r0
      go_wp2_with (at_builtin; refine wpList_append_own _ rfl _ _ 22 rfl w1.heap.size 5 i0 (.int .u8 0) 1 1 Try.underlying22 hi hz0 hz1 hz2 rfl (by decide) _ _ _ rfl (ho.out.alloc _) ⟨_, 0, none⟩ 1 1 [.int .u8 d] rfl rfl (cell_one_new _ _ _) (by intro u hu; simp at hu; subst hu; rfl) (by unfold maxLen; omega) (by omega) (by simp; omega) ?_; intro v1 w3 hown1 hgrow1 hnil1)
      obtain ⟨g', c', rfl, _, _⟩ := own_shape hown1 (by omega)
      have R : w3.ownsRow w1.heap.size 5 1 (.slice (some ⟨g', 0, none⟩) (k + 1) c') (k + 1) ((HD.take (k + 1)).map (Value.int .u8)) := by
        rw [take_snoc HD k hlt, ← List.getD_eq_getElem?_getD, hd.out]; simpa using hown1
      have hb1 := (hb.alloc (by omega) (.cells #[.int .u8 d] 5)).grown hgrow1 (by simp; omega) (fun j hj => (ho.out.lt j hj).1)
      go_roundw
      case rel => exact ⟨k + 1, g', c', by omega, by go_num, rfl, R, hb1⟩
      case measure => simp [intOf]; omega
    · obtain rfl : k = HD.length := by omega
      have HO : Hid (wr.ownsRow w1.heap.size 5 1 (.slice (some ⟨g, 0, none⟩) HD.length c) HD.length (HD.map (Value.int .u8))) := by
        have := ho.out; rw [List.take_length] at this; exact this
      have hb2 := hb
      clear ho hb hch
      go_wp2_with fail
      go_loopw [27, 29] (fun v i wr => ∃ j g c : Nat, j ≤ len ∧ i = .int .i64 j ∧ v = .slice (some ⟨g, 0, none⟩) (HD.length + j) c ∧ Hid (wr.ownsRow w1.heap.size 5 1 v (HD.length + j) ((HD ++ zs.take j).map (Value.int .u8))) ∧ Below w1.heap.size w1 wr)
        (fun _ i _ => len - (intOf i).toNat)
      case atStart => exact ⟨0, g, c, by omega, rfl, rfl, (by unfold Hid; simpa using HO.out), hb2⟩
      case round =>
        clear HO hb2
        obtain ⟨j, g, c, hj, rfl, rfl, ho, hb⟩ := hrel
        have hsz := hb.size
        by_cases hlt : j < len
        · obtain ⟨b, off, rfl, hbw, hc⟩ := s0 (by omega)
          have hcell := ((hb.cell (p := ⟨b, off + j, none⟩) (by show b < _; omega)).trans (hw1.cell (p := ⟨b, off + j, none⟩) (by exact hbw))).trans (hc j hlt)
          obtain ⟨d, hd⟩ : ∃ d, Hid (zs.getD j 0 = d) := ⟨_, rfl⟩
          rw [hd.out] at hcell
          clear hc r0
          go_wp2_with (at_builtin; refine wpList_append_own _ rfl _ _ 22 rfl w1.heap.size 5 i0 (.int .u8 0) 1 1 Try.underlying22 hi hz0 hz1 hz2 rfl (by decide) _ _ _ rfl (ho.out.alloc _) ⟨_, 0, none⟩ 1 1 [.int .u8 d] rfl rfl (cell_one_new _ _ _) (by intro u hu; simp at hu; subst hu; rfl) (by unfold maxLen; omega) (by omega) (by simp; omega) ?_; intro v1 w3 hown1 hgrow1 hnil1)
          obtain ⟨g', c', rfl, _, _⟩ := own_shape hown1 (by omega)
          have R : w3.ownsRow w1.heap.size 5 1 (.slice (some ⟨g', 0, none⟩) (HD.length + (j + 1)) c') (HD.length + (j + 1)) ((HD ++ zs.take (j + 1)).map (Value.int .u8)) := by
            rw [take_snoc zs j (by omega), ← List.getD_eq_getElem?_getD, hd.out]; simpa [Nat.add_assoc] using hown1
          have hb1 := (hb.alloc (by omega) (.cells #[.int .u8 d] 5)).grown hgrow1 (by simp; omega) (fun j hj => (ho.out.lt j hj).1)
          go_roundw
          case rel => exact ⟨j + 1, g', c', by omega, by go_num, rfl, R, hb1⟩
          case measure => simp [intOf]; omega
        · obtain rfl : j = len := by omega
          have hrg : Rng (HD ++ zs.take j) := rng_append hHr (rng_take r0 j)
          obtain ⟨_, _, hv, _, hg⟩ := own_shape ho.out (by omega)
          cases hv
          have K := codec_any sec line series secStep step g 0 (HD.length + j) c (HD ++ zs.take j) fl rS rSt rSS ns lb (wrap32 (999999999 - ns)) wr hg (by omega) (own_cells ho.out) hrg hS0 hS1 ht0 ht1 hq0 hq1 hn0 hn1 hb0 hb1 han.1 han.2
            (by rw [hHD.out]; omega) (by rw [hHD.out]; intro t ht; rw [List.getElem?_append_left ht])
          have hbf := hw1.trans (hb.mono hws)
          clear ho hrg s0 r0 hb
          go_wp2_with fail
          refine K.mono ?_
          rintro e w4 ⟨rfl, hb4⟩
          have hbz := hbf.trans (hb4.mono hbf.size)
          clear K hb4 hbf
          have hN : (hdr fl rS rSt rSS ns lb (wrap32 (999999999 - ns))).length = HD.length := by rw [hHD.out]
          simp only [placed, outV, hN]
          go_upto_if 108 with fail
          go_cut [31] (fun s31 wx => s31 = .int .i64 (wS fl rS series) ∧ wx = w4.alloc (.cells #[.int .i64 HD.length, .int .i64 (wS fl rS series), .int .i64 (wrap64 (line + wSt fl rSt step)), .int .i64 (wrap64 (sec + wSt fl rSS secStep)), .int .i32 (wN fl ns), .int .i64 (wA fl (wrap64 (sec + wSt fl rSS secStep)) lb), .int .i32 (wAn fl (wrap32 (999999999 - ns)) ns), .int .u8 fl, .int .i64 (wrap64 (sec + wSt fl rSS secStep)), .int .i64 (wrap64 (line + wSt fl rSt step)), .int .i64 (wS fl rS series), .int .i64 (wSt fl rSS secStep), .int .i64 (wSt fl rSt step)] 49))
          case first =>
            cases h1 : (bits .and .u8 fl 64 == 0)
            · have E0 : Hid (wS fl rS series = series) := by unfold Hid; simp [wS, z64, h1]
              go_wp2_with fail
              go_meet
              case rel => exact ⟨by rw [E0.out], rfl⟩
            · have E0 : Hid (wS fl rS series = rS) := by unfold Hid; simp [wS, z64, h1]
              go_wp2_with fail
              go_meet
              case rel => exact ⟨by rw [E0.out], rfl⟩
          case rest =>
          obtain ⟨rfl, rfl⟩ := hcut
          go_upto_if 114 with fail
          go_cut [32, 33] (fun s32 s33 wx => s32 = .int .i64 (wSt fl rSt step) ∧ s33 = .int .i64 (wSt fl rSS secStep) ∧ wx = w4.alloc (.cells #[.int .i64 HD.length, .int .i64 (wS fl rS series), .int .i64 (wrap64 (line + wSt fl rSt step)), .int .i64 (wrap64 (sec + wSt fl rSS secStep)), .int .i32 (wN fl ns), .int .i64 (wA fl (wrap64 (sec + wSt fl rSS secStep)) lb), .int .i32 (wAn fl (wrap32 (999999999 - ns)) ns), .int .u8 fl, .int .i64 (wrap64 (sec + wSt fl rSS secStep)), .int .i64 (wrap64 (line + wSt fl rSt step)), .int .i64 (wS fl rS series), .int .i64 (wSt fl rSS secStep), .int .i64 (wSt fl rSt step)] 49))
          case first =>
            cases h2 : (bits .and .u8 fl 128 == 0)
            · have E0 : Hid (wSt fl rSt step = step) := by unfold Hid; simp [wSt, z128, h2]
              have E1 : Hid (wSt fl rSS secStep = secStep) := by unfold Hid; simp [wSt, z128, h2]
              go_wp2_with fail
              go_meet
              case rel => exact ⟨by rw [E0.out], by rw [E1.out], rfl⟩
            · have E0 : Hid (wSt fl rSt step = rSt) := by unfold Hid; simp [wSt, z128, h2]
              have E1 : Hid (wSt fl rSS secStep = rSS) := by unfold Hid; simp [wSt, z128, h2]
              go_wp2_with fail
              go_meet
              case rel => exact ⟨by rw [E0.out], by rw [E1.out], rfl⟩
          case rest =>
          obtain ⟨rfl, rfl, rfl⟩ := hcut
          go_upto_if 125 with fail
          go_cut [36] (fun s36 wx => s36 = .int .i32 (wN fl ns) ∧ wx = w4.alloc (.cells #[.int .i64 HD.length, .int .i64 (wS fl rS series), .int .i64 (wrap64 (line + wSt fl rSt step)), .int .i64 (wrap64 (sec + wSt fl rSS secStep)), .int .i32 (wN fl ns), .int .i64 (wA fl (wrap64 (sec + wSt fl rSS secStep)) lb), .int .i32 (wAn fl (wrap32 (999999999 - ns)) ns), .int .u8 fl, .int .i64 (wrap64 (sec + wSt fl rSS secStep)), .int .i64 (wrap64 (line + wSt fl rSt step)), .int .i64 (wS fl rS series), .int .i64 (wSt fl rSS secStep), .int .i64 (wSt fl rSt step)] 49))
          case first =>
            cases h3 : (bits .and .u8 fl 8 == 0)
            · have E0 : Hid (wN fl ns = 0) := by unfold Hid; simp [wN, z8, h3]
              go_wp2_with fail
              go_meet
              case rel => exact ⟨by rw [E0.out], rfl⟩
            · have E0 : Hid (wN fl ns = ns) := by unfold Hid; simp [wN, z8, h3]
              go_wp2_with fail
              go_meet
              case rel => exact ⟨by rw [E0.out], rfl⟩
          case rest =>
          obtain ⟨rfl, rfl⟩ := hcut
          go_upto_if 131 with fail
          go_cut [37, 38] (fun s37 s38 wx => s37 = .int .i64 (wA fl (wrap64 (sec + wSt fl rSS secStep)) lb) ∧ s38 = .int .i32 (wAn fl (wrap32 (999999999 - ns)) ns) ∧ wx = w4.alloc (.cells #[.int .i64 HD.length, .int .i64 (wS fl rS series), .int .i64 (wrap64 (line + wSt fl rSt step)), .int .i64 (wrap64 (sec + wSt fl rSS secStep)), .int .i32 (wN fl ns), .int .i64 (wA fl (wrap64 (sec + wSt fl rSS secStep)) lb), .int .i32 (wAn fl (wrap32 (999999999 - ns)) ns), .int .u8 fl, .int .i64 (wrap64 (sec + wSt fl rSS secStep)), .int .i64 (wrap64 (line + wSt fl rSt step)), .int .i64 (wS fl rS series), .int .i64 (wSt fl rSS secStep), .int .i64 (wSt fl rSt step)] 49))
          case first =>
            cases h4 : (bits .and .u8 fl 4 != 0)
            · have E0 : Hid (wA fl (wrap64 (sec + wSt fl rSS secStep)) lb = (wrap64 (sec + wSt fl rSS secStep))) := by unfold Hid; simp [wA, l4, h4]
              have E1 : Hid (wAn fl (wrap32 (999999999 - ns)) ns = wN fl ns) := by unfold Hid; simp [wAn, l4, h4]
              go_wp2_with fail
              go_meet
              case rel => exact ⟨by rw [E0.out], by rw [E1.out], rfl⟩
            · cases h3 : (bits .and .u8 fl 8 == 0)
              · have E0 : Hid (wA fl (wrap64 (sec + wSt fl rSS secStep)) lb = wrap64 ((wrap64 (sec + wSt fl rSS secStep)) - wrap64 lb)) := by unfold Hid; simp [wA, l4, h4]
                have E1 : Hid (wAn fl (wrap32 (999999999 - ns)) ns = 0) := by unfold Hid; simp [wAn, l4, h4, z8, h3]
                go_wp2_with fail
                go_meet
                case rel => exact ⟨by rw [E0.out], by rw [E1.out], rfl⟩
              · have E0 : Hid (wA fl (wrap64 (sec + wSt fl rSS secStep)) lb = wrap64 ((wrap64 (sec + wSt fl rSS secStep)) - wrap64 lb)) := by unfold Hid; simp [wA, l4, h4]
                have E1 : Hid (wAn fl (wrap32 (999999999 - ns)) ns = (wrap32 (999999999 - ns))) := by unfold Hid; simp [wAn, l4, h4, z8, h3]
                go_wp2_with fail
                go_meet
                case rel => exact ⟨by rw [E0.out], by rw [E1.out], rfl⟩
          case rest =>
          obtain ⟨rfl, rfl, rfl⟩ := hcut
          go_wp2
          go_ret
          exact ⟨by simp, (hbz.alloc hbz.size _)⟩
end Go.Proofs.Qxb6000020a
