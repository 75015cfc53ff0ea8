/-
  The walk of FnLongUvarintAtReadsBackEncoding (4).
-/
import Derived.Test.Qxb6000020aPut
import Derived.Test.Qxb6000020aCommon
namespace Go.Proofs.Qxb6000020a
open Go.ChangeShapes Go.WideShapes Go.ChangeAt Go.RowKit

def Rng (l : List Int) : Prop := ∀ j : Nat, 0 ≤ l[j]?.getD 0 ∧ l[j]?.getD 0 ≤ 255
theorem rng_append {a b : List Int} (ha : Rng a) (hb : Rng b) : Rng (a ++ b) := by
  intro j
  rw [List.getElem?_append]
  split
  · exact ha j
  · exact hb _
theorem rng_take {a : List Int} (ha : Rng a) (k : Nat) : Rng (a.take k) := by
  intro j
  rw [List.getElem?_take]
  split
  · exact ha j
  · simp
theorem rng_enc {x : Int} (h0 : 0 ≤ x) (h1 : x < 18446744073709551616) : Rng (enc x) := by
  obtain ⟨n, _, _, _, _, _, h⟩ := enc_ok x h0 h1
  exact h

theorem reads_back_big (a0 : Option Addr) (len0 cap0 : Nat) (x : Int) (a2 : Option Addr) (len2 cap2 : Nat) (w : World) (hm0 : len0 ≤ maxLen) (hm2 : len2 ≤ maxLen) (h : 524288 < len0 ∨ (len0 ≤ 524288 ∧ 524288 < len2)) :
    Calls Try.prog 4 #[.slice a0 len0 cap0, .int .u64 x, .slice a2 len2 cap2] w fun e w' => e = .returned (.bool true) ∧ w' = w := by
  unfold maxLen at hm0 hm2
  rcases h with h | ⟨h, h'⟩
  · go_enter Try.func4, Try.ntmps4
    go_wp2
    all_goals (go_ret; exact ⟨rfl, rfl⟩)
  · go_enter Try.func4, Try.ntmps4
    go_wp2
    all_goals (go_ret; exact ⟨rfl, rfl⟩)

set_option maxHeartbeats 2000000 in
theorem reads_back (a0 : Option Addr) (len0 cap0 : Nat) (z0 : List Int) (x : Int) (a2 : Option Addr) (len2 cap2 : Nat) (z2 : List Int) (w : World)
    (s0 : Seen .u8 w a0 len0 z0) (l0 : len0 ≤ z0.length) (r0 : ∀ j : Nat, 0 ≤ z0[j]?.getD 0 ∧ z0[j]?.getD 0 ≤ 255)
    (s2 : Seen .u8 w a2 len2 z2) (l2 : len2 ≤ z2.length) (r2 : ∀ j : Nat, 0 ≤ z2[j]?.getD 0 ∧ z2[j]?.getD 0 ≤ 255)
    (h0 : len0 ≤ 524288) (h2 : len2 ≤ 524288) (hx0 : 0 ≤ x) (hx1 : x < 18446744073709551616) :
    Calls Try.prog 4 #[.slice a0 len0 cap0, .int .u64 x, .slice a2 len2 cap2] w fun e w' => e = .returned (.bool true) ∧ Below w.heap.size w w' := by
  obtain ⟨i0, hi, hz0, hz1, hz2⟩ := info_parts info5
  obtain ⟨E, HE⟩ : ∃ E, Hid ((enc x).length = E) := ⟨_, rfl⟩
  have hel : 1 ≤ E ∧ E ≤ 10 := by have := enc_len x hx0 hx1; rw [HE.out] at this; exact this
  go_enter Try.func4, Try.ntmps4
  go_wp2_with (first
    | (at_make; refine wpList_make_own _ rfl _ _ 22 rfl w.heap.size 5 i0 (.int .u8 0) 1 Try.underlying22 hi hz0 hz1 .i64 .i64 _ (len0 + 10 + len2) rfl rfl (by omega) (by rw [hz2]; omega) (by unfold maxLen; omega) (Nat.le_refl _) ?_; intro w0 hown0 hgrow0)
    | (go_at_call 14; go_in))
  have hb0 : Below w.heap.size w w0 := (Below.refl _ _).grown hgrow0 (Nat.le_refl _) (fun k h => by cases h)
  clear hgrow0
  go_loopw [7, 8] (fun v i wr => ∃ k g c : Nat, k ≤ len0 ∧ i = .int .i64 k ∧ v = .slice (some ⟨g, 0, none⟩) k c ∧ Hid (wr.ownsRow w.heap.size 5 1 v k ((z0.take k).map (Value.int .u8))) ∧ Below w.heap.size w wr)
    (fun _ i _ => len0 - (intOf i).toNat)
  case atStart => exact ⟨0, _, _, by omega, rfl, rfl, hown0, hb0⟩
  case round =>
    clear hown0 hb0
    obtain ⟨k, g, c, hk, rfl, rfl, ho, hb⟩ := hrel
    have hsz := hb.size
    by_cases hlt : k < len0
    · obtain ⟨b, off, rfl, hbw, hc⟩ := s0 (by omega)
      have hcell : wr.cell? ⟨b, off + k, none⟩ = some (.int .u8 (z0.getD k 0)) := (hb.cell (by exact hbw)).trans (hc k hlt)
      clear hc s2 r0 r2
      go_wp2_with (at_builtin; refine wpList_append_own _ rfl _ _ 22 rfl w.heap.size 5 i0 (.int .u8 0) 1 1 Try.underlying22 hi hz0 hz1 hz2 rfl (by decide) _ _ _ rfl (ho.out.alloc _) ⟨wr.heap.size, 0, none⟩ 1 1 [.int .u8 (z0.getD k 0)] rfl rfl (cell_one_new _ _ _) (by intro u hu; simp at hu; subst hu; rfl) (by unfold maxLen; omega) (by omega) (by simp; omega) ?_; intro v1 w1 hown1 hgrow1 hnil1)
      obtain ⟨g', c', rfl, _, _⟩ := own_shape hown1 (by omega)
      have R : w1.ownsRow w.heap.size 5 1 (.slice (some ⟨g', 0, none⟩) (k + 1) c') (k + 1) ((z0.take (k + 1)).map (Value.int .u8)) := by
        rw [take_snoc z0 k (by omega)]; simpa using hown1
      have hb1 := (hb.alloc (by omega) (.cells #[.int .u8 (z0.getD k 0)] 5)).grown hgrow1 (by simp; omega) (fun j hj => (ho.out.lt j hj).1)
      go_roundw
      case rel => exact ⟨k + 1, g', c', by omega, by go_num, rfl, R, hb1⟩
      case measure => simp [intOf]; omega
    · obtain rfl : k = len0 := by omega
      have ho' : wr.ownsRow w.heap.size 5 1 (.slice (some ⟨g, 0, none⟩) k c) (z0.take k).length ((z0.take k).map (Value.int .u8)) := by
        rw [List.length_take, Nat.min_eq_left l0]; exact ho.out
      clear ho
      go_wp2_with (go_at_call 15; refine (put_any w.heap.size _ (z0.take k) x _ hsz hx0 hx1 (by simp; omega) ho').mono ?_; rintro e w1 ⟨v1, rfl, hown1, hb1⟩; rw [show (z0.take k ++ enc x).length = k + E from by rw [List.length_append, List.length_take, Nat.min_eq_left l0, HE.out]] at hown1; obtain ⟨g1, c1, rfl, hg1, hg2⟩ := own_shape hown1 (by omega))
      have hb2 := hb.trans hb1
      have HO : Hid (w1.ownsRow w.heap.size 5 1 (.slice (some ⟨g1, 0, none⟩) (k + E) c1) (k + E) ((z0.take k ++ enc x).map (Value.int .u8))) := hown1
      clear ho' hown1 hb1 hb s0
      go_loopw [7, 11] (fun v i wr => ∃ j g c : Nat, j ≤ len2 ∧ i = .int .i64 j ∧ v = .slice (some ⟨g, 0, none⟩) (k + E + j) c ∧ Hid (wr.ownsRow w.heap.size 5 1 v (k + E + j) ((z0.take k ++ enc x ++ z2.take j).map (Value.int .u8))) ∧ Below w.heap.size w wr)
        (fun _ i _ => len2 - (intOf i).toNat)
      case atStart => exact ⟨0, g1, c1, by omega, rfl, rfl, (by unfold Hid; simpa using HO.out), hb2⟩
      case round =>
        clear HO hb2 hg1 hg2
        obtain ⟨j, g, c, hj, rfl, rfl, ho, hb⟩ := hrel
        have hsz := hb.size
        by_cases hlt : j < len2
        · obtain ⟨b, off, rfl, hbw, hc⟩ := s2 (by omega)
          have hcell := (hb.cell (p := ⟨b, off + j, none⟩) (by exact hbw)).trans (hc j hlt)
          clear hc r0 r2
          go_wp2_with (at_builtin; refine wpList_append_own _ rfl _ _ 22 rfl w.heap.size 5 i0 (.int .u8 0) 1 1 Try.underlying22 hi hz0 hz1 hz2 rfl (by decide) _ _ _ rfl (ho.out.alloc _) ⟨_, 0, none⟩ 1 1 [.int .u8 (z2.getD j 0)] rfl rfl (cell_one_new _ _ _) (by intro u hu; simp at hu; subst hu; rfl) (by unfold maxLen; omega) (by omega) (by simp; omega) ?_; intro v1 w1 hown1 hgrow1 hnil1)
          obtain ⟨g', c', rfl, _, _⟩ := own_shape hown1 (by omega)
          have R : w1.ownsRow w.heap.size 5 1 (.slice (some ⟨g', 0, none⟩) (k + E + (j + 1)) c') (k + E + (j + 1)) ((z0.take k ++ enc x ++ z2.take (j + 1)).map (Value.int .u8)) := by
            rw [take_snoc z2 j (by omega)]; simpa [Nat.add_assoc] using hown1
          have hb1 := (hb.alloc (by omega) (.cells #[.int .u8 (z2.getD j 0)] 5)).grown hgrow1 (by simp; omega) (fun j hj => (ho.out.lt j hj).1)
          go_roundw
          case rel => exact ⟨j + 1, g', c', by omega, by go_num, rfl, R, hb1⟩
          case measure => simp [intOf]; omega
        · obtain rfl : j = len2 := by omega
          have hrd : Rd (k + E + j) (z0.take k ++ enc x ++ z2.take j) k x (k + E) := by
            have := rd_enc (z0.take k ++ enc x ++ z2.take j) (k + E + j) k x hx0 hx1 (by rw [HE.out]; omega) (by
              intro t ht
              have hk : (z0.take k).length = k := by rw [List.length_take]; omega
              rw [List.append_assoc, List.getElem?_append_right (by omega), hk, Nat.add_sub_cancel_left, List.getElem?_append_left ht])
            rw [HE.out] at this; exact this
          have hrg : Rng (z0.take k ++ enc x ++ z2.take j) := rng_append (rng_append (rng_take r0 k) (rng_enc hx0 hx1)) (rng_take r2 j)
          have C := zzlong_any g 0 (k + E + j) c k _ x (k + E) _ (by omega) (own_cells ho.out) hrg hrd
          clear ho hrd hrg s2 r0 r2
          go_wp2_with (go_at_call 12; refine C.mono ?_; rintro e w' ⟨rfl, rfl⟩)
          go_ret
          exact ⟨by simp, hb⟩
end Go.Proofs.Qxb6000020a
