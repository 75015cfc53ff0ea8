/-
  The walks of jpb1Escape (9) and FnEscapedWellAcceptsEveryEscapedToken (4).
-/
import Derived.Test.Qxb6600640aWalk
import Derived.Maps.AppendAt
import Derived.Laws.IdiomStrings
namespace Go.Proofs.Qxb6600640a
open Go.RowKit

theorem info5 : (Try.prog.info? 5).map (fun i => (i.zero, i.size, i.bytes)) = some (some (.int .u8 0), 1, 1) := by kernel_rfl

theorem own_shape {w : World} {B e : Nat} {v : Value} {n : Nat} {xs : List Value} (h : w.ownsRow B e 1 v n xs) (hn : 0 < n) : ∃ g c, v = .slice (some ⟨g, 0, none⟩) n c ∧ B ≤ g ∧ g < w.heap.size := by
  rcases h.2 with ⟨_, h0⟩ | ⟨g, cap, cur, rfl, hg, hh, _⟩
  · omega
  · exact ⟨g, cap, rfl, hg, lt_of_block hh⟩
def bv (l : List UInt8) : List Value := l.map fun c => .int .u8 (c.toNat : Int)
theorem bv_append (a b : List UInt8) : bv (a ++ b) = bv a ++ bv b := by simp [bv]
theorem take_at (s : ByteArray) (k : Nat) (h : k < s.size) : s.data.toList.take (k + 1) = s.data.toList.take k ++ [s[k]] := by
  rw [List.take_succ_eq_append_getElem (by simpa using h)]; rfl
theorem cells_two (w : World) (x y : Value) (t : TypeId) : ∀ j u, [x, y][j]? = some u → (w.alloc (.cells #[x, y] t)).cell? ((⟨w.heap.size, 0, none⟩ : Addr).add j) = some u := by
  intro j u hj
  match j, hj with
  | 0, hj => simp at hj; subst hj; simp [Addr.add]
  | 1, hj => simp at hj; subst hj; simp [Addr.add]
  | j + 2, hj => simp at hj

set_option maxHeartbeats 2000000 in
theorem escape_any (s : ByteArray) (w : World) (h : s.size ≤ 1048576) :
    Calls Try.prog 9 #[.string s] w fun e w' => e = .returned (.string ⟨(esc s.data.toList).toArray⟩) ∧ Below w.heap.size w w' := by
  obtain ⟨i0, hi, hz0, hz1, hz2⟩ := info_parts info5
  go_enter Try.func9, Try.ntmps9
  go_wp2_with (at_make; refine wpList_make_own _ rfl _ _ 25 rfl w.heap.size 5 i0 (.int .u8 0) 1 Try.underlying25 hi hz0 hz1 .i64 .i64 _ (2 * s.size) rfl rfl (by omega) (by rw [hz2]; omega) (by unfold maxLen; omega) (Nat.le_refl _) ?_; intro w0 hown0 hgrow0)
  have hb0 : Below w.heap.size w w0 := (Below.refl _ _).grown hgrow0 (Nat.le_refl _) (fun k h => by cases h)
  clear hgrow0
  go_loopw [3, 4] (fun v i wr => ∃ k n g c : Nat, k ≤ s.size ∧ n ≤ 2 * k ∧ i = .int .i64 k ∧ v = .slice (some ⟨g, 0, none⟩) n c ∧ Hid ((esc (s.data.toList.take k)).length = n) ∧ Hid (wr.ownsRow w.heap.size 5 1 v n (bv (esc (s.data.toList.take k)))) ∧ Below w.heap.size w wr)
    (fun _ i _ => s.size - (intOf i).toNat)
  case atStart => exact ⟨0, 0, _, _, Nat.zero_le _, Nat.le_refl _, rfl, rfl, rfl, hown0, hb0⟩
  case round =>
    clear hown0 hb0
    obtain ⟨k, n, g, c, hk, hn, rfl, rfl, HN, ho, hb⟩ := hrel
    have hsz := hb.size
    by_cases hlt : k < s.size
    · have HS : Hid (esc (s.data.toList.take (k + 1)) = esc (s.data.toList.take k) ++ esc1 s[k]) := by
        unfold Hid; rw [take_at s k hlt, esc_snoc]
      by_cases hc : s[k] = 126
      · have hc' : (((s[k]).toNat : Int) == 126) = true := by rw [hc]; rfl
        have H1 : Hid (esc1 s[k] = [126, 48]) := by unfold Hid; simp [esc1, hc]
        clear hc
        go_wp2_with (at_builtin; refine wpList_append_own _ rfl _ _ 25 rfl w.heap.size 5 i0 (.int .u8 0) 1 1 Try.underlying25 hi hz0 hz1 hz2 rfl (by decide) _ _ _ rfl (ho.out.alloc _) ⟨_, 0, none⟩ 2 2 [.int .u8 126, .int .u8 48] rfl rfl (cells_two _ _ _ _) (by intro u hu; simp at hu; rcases hu with rfl | rfl <;> rfl) (by unfold maxLen; omega) (by omega) (by simp; omega) ?_; intro v1 w1 hown1 hgrow1 hnil1)
        obtain ⟨g', c', rfl, _, _⟩ := own_shape hown1 (by omega)
        have R : w1.ownsRow w.heap.size 5 1 (.slice (some ⟨g', 0, none⟩) (n + 2) c') (n + 2) (bv (esc (s.data.toList.take (k + 1)))) := by
          rw [HS.out, H1.out, bv_append]; simpa [bv] using hown1
        have hb1 := (hb.alloc (by omega) (.cells #[.int .u8 126, .int .u8 48] 5)).grown hgrow1 (by simp; omega) (fun j hj => (ho.out.lt j hj).1)
        go_roundw
        case rel => exact ⟨k + 1, n + 2, g', c', by omega, by omega, by go_num, rfl, (by unfold Hid; rw [HS.out, H1.out, List.length_append, HN.out]; rfl), R, hb1⟩
        case measure => simp [intOf]; omega
      · have hc' : (((s[k]).toNat : Int) == 126) = false := by
          simp; intro h; exact hc (UInt8.toNat_inj.1 (by show _ = 126; omega))
        by_cases hc2 : s[k] = 47
        · have hc2' : (((s[k]).toNat : Int) == 47) = true := by rw [hc2]; rfl
          have H1 : Hid (esc1 s[k] = [126, 49]) := by unfold Hid; simp [esc1, hc2]
          clear hc hc2
          go_wp2_with (at_builtin; refine wpList_append_own _ rfl _ _ 25 rfl w.heap.size 5 i0 (.int .u8 0) 1 1 Try.underlying25 hi hz0 hz1 hz2 rfl (by decide) _ _ _ rfl (ho.out.alloc _) ⟨_, 0, none⟩ 2 2 [.int .u8 126, .int .u8 49] rfl rfl (cells_two _ _ _ _) (by intro u hu; simp at hu; rcases hu with rfl | rfl <;> rfl) (by unfold maxLen; omega) (by omega) (by simp; omega) ?_; intro v1 w1 hown1 hgrow1 hnil1)
          obtain ⟨g', c', rfl, _, _⟩ := own_shape hown1 (by omega)
          have R : w1.ownsRow w.heap.size 5 1 (.slice (some ⟨g', 0, none⟩) (n + 2) c') (n + 2) (bv (esc (s.data.toList.take (k + 1)))) := by
            rw [HS.out, H1.out, bv_append]; simpa [bv] using hown1
          have hb1 := (hb.alloc (by omega) (.cells #[.int .u8 126, .int .u8 49] 5)).grown hgrow1 (by simp; omega) (fun j hj => (ho.out.lt j hj).1)
          go_roundw
          case rel => exact ⟨k + 1, n + 2, g', c', by omega, by omega, by go_num, rfl, (by unfold Hid; rw [HS.out, H1.out, List.length_append, HN.out]; rfl), R, hb1⟩
          case measure => simp [intOf]; omega
        · have hc2' : (((s[k]).toNat : Int) == 47) = false := by
            simp; intro h; exact hc2 (UInt8.toNat_inj.1 (by show _ = 47; omega))
          have H1 : Hid (esc1 s[k] = [s[k]]) := by unfold Hid; simp [esc1, hc, hc2]
          clear hc hc2
          go_wp2_with (at_builtin; refine wpList_append_own _ rfl _ _ 25 rfl w.heap.size 5 i0 (.int .u8 0) 1 1 Try.underlying25 hi hz0 hz1 hz2 rfl (by decide) _ _ _ rfl (ho.out.alloc _) ⟨_, 0, none⟩ 1 1 [.int .u8 ((s[k]).toNat : Int)] rfl rfl (cell_one_new _ _ _) (by intro u hu; simp at hu; subst hu; rfl) (by unfold maxLen; omega) (by omega) (by simp; omega) ?_; intro v1 w1 hown1 hgrow1 hnil1)
          obtain ⟨g', c', rfl, _, _⟩ := own_shape hown1 (by omega)
          have R : w1.ownsRow w.heap.size 5 1 (.slice (some ⟨g', 0, none⟩) (n + 1) c') (n + 1) (bv (esc (s.data.toList.take (k + 1)))) := by
            rw [HS.out, H1.out, bv_append]; simpa [bv] using hown1
          have hb1 := (hb.alloc (by omega) (.cells #[.int .u8 ((s[k]).toNat : Int)] 5)).grown hgrow1 (by simp; omega) (fun j hj => (ho.out.lt j hj).1)
          go_roundw
          case rel => exact ⟨k + 1, n + 1, g', c', by omega, by omega, by go_num, rfl, (by unfold Hid; rw [HS.out, H1.out, List.length_append, HN.out]; rfl), R, hb1⟩
          case measure => simp [intOf]; omega
    · obtain rfl : k = s.size := by omega
      have HT : Hid (s.data.toList.take s.size = s.data.toList) := by unfold Hid; apply List.take_of_length_le; simp
      have hcv : (convert 25 9 (.slice (some ⟨g, 0, none⟩) n c)).run Try.prog wr = .ok (.string ⟨(esc s.data.toList).toArray⟩) wr := by
        have hN := HN.out
        have h1 := ho.out
        rw [HT.out] at hN h1
        rw [← hN]
        refine run_convert_bytes_back wr 25 9 5 ⟨g, 0, none⟩ c (esc s.data.toList) Try.underlying25 Try.underlying5 Try.underlying9 (fun j hj => ?_)
        have := h1.cellAt j (by omega)
        have e : (⟨g, 0, none⟩ : Addr).add j = ⟨g, j, none⟩ := by cases j <;> simp [Addr.add]
        rw [e, this]
        simp [bv, hj]
      clear ho HN
      go_wp2
      go_ret
      exact ⟨rfl, hb⟩

theorem accepts_big (s : ByteArray) (w : World) (hs : s.size ≤ maxLen) (h : 1048576 < s.size) :
    Calls Try.prog 4 #[.string s] w fun e w' => e = .returned (.bool true) ∧ Below w.heap.size w w' := by
  unfold maxLen at hs
  go_enter Try.func4, Try.ntmps4
  go_wp2
  all_goals (go_ret; exact ⟨rfl, Below.refl _ _⟩)

theorem accepts_main (s : ByteArray) (w : World) (h : s.size ≤ 1048576) :
    Calls Try.prog 4 #[.string s] w fun e w' => e = .returned (.bool true) ∧ Below w.heap.size w w' := by
  have hl : (⟨(esc s.data.toList).toArray⟩ : ByteArray).size ≤ maxLen := by
    have h1 := esc_len s.data.toList
    have h2 : s.data.toList.length = s.size := by simp
    have h3 : (⟨(esc s.data.toList).toArray⟩ : ByteArray).size = (esc s.data.toList).length := by simp [ByteArray.size]
    unfold maxLen; omega
  have hok : ok (⟨(esc s.data.toList).toArray⟩ : ByteArray).data.toList = true := by simp [ok_esc]
  generalize hE : (⟨(esc s.data.toList).toArray⟩ : ByteArray) = E at *
  have C : Calls Try.prog 9 #[.string s] w fun e w' => e = .returned (.string E) ∧ Below w.heap.size w w' := by
    rw [← hE]; exact escape_any s w h
  clear hE
  have W : ∀ W, Calls Try.prog 7 #[.string E] W fun e w' => e = .returned (.bool true) ∧ w' = W := by
    intro W; rw [← hok]; exact zzwell_any E W hl
  have HW : Hid (∀ W, Calls Try.prog 7 #[.string E] W fun e w' => e = .returned (.bool true) ∧ w' = W) := W
  clear W hok hl
  go_enter Try.func4, Try.ntmps4
  go_wp2_with (first
    | (go_at_call 8; go_in)
    | (go_at_call 9; refine C.mono ?_; rintro e w1 ⟨rfl, hb⟩)
    | (go_at_call 7; refine (HW.out _).mono ?_; rintro e w2 ⟨rfl, rfl⟩))
  go_ret
  exact ⟨rfl, hb⟩
end Go.Proofs.Qxb6600640a
