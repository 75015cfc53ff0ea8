/-
  The walk of zzHB1PutUvarint (15).
-/
import Derived.Test.Qxb6000020aProg
import Derived.Test.Qxb6000020aEnc
import Derived.WalkKit
import Derived.Below
import Derived.Maps.AppendAt
namespace Go.Proofs.Qxb6000020a
open Go.RowKit

theorem info5 : (Try.prog.info? 5).map (fun i => (i.zero, i.size, i.bytes)) = some (some (.int .u8 0), 1, 1) := by kernel_rfl

theorem or128 (x : Int) : bits .or .u8 (x % 256) 128 = x % 128 + 128 := by
  have h := u8_or_nat (x % 256).toNat 128 (by omega) (by omega)
  have e : (((x % 256).toNat : Nat) : Int) = x % 256 := by omega
  rw [e] at h
  have e2 : ((128 : Nat) : Int) = 128 := rfl
  rw [e2] at h
  rw [h]
  have : ∀ y : Nat, y < 256 → y ||| 128 = y % 128 + 128 := by decide +kernel
  rw [this _ (by omega)]
  omega

set_option maxHeartbeats 1000000 in
theorem put_any (B : Nat) (v : Value) (bs : List Int) (x : Int) (w : World) (hB : B ≤ w.heap.size) (h0 : 0 ≤ x) (h1 : x < 18446744073709551616) (hl : bs.length ≤ 140737488355000)
    (hown : w.ownsRow B 5 1 v bs.length (bs.map (Value.int .u8))) :
    Calls Try.prog 15 #[v, .int .u64 x] w fun e w' =>
      ∃ v', e = .returned v' ∧ w'.ownsRow B 5 1 v' (bs ++ enc x).length ((bs ++ enc x).map (Value.int .u8)) ∧ Below B w w' := by
  obtain ⟨i0, hi, hz0, hz1, hz2⟩ := info_parts info5
  go_enter Try.func15, Try.ntmps15
  go_wp2
  go_loopw [0, 1] (fun u t wr => ∃ (f : Nat) (done : List Int) (xk : Int), f ≤ 9 ∧ Hid (enc x = done ++ encF (f + 1) xk) ∧ Hid (done.length + f = 9) ∧ 0 ≤ xk ∧ xk < 18446744073709551616 ∧ Hid (xk < 2 ^ (7 * (f + 1))) ∧
      t = .int .u64 xk ∧ Hid (wr.ownsRow B 5 1 u (bs ++ done).length ((bs ++ done).map (Value.int .u8))) ∧ Below B w wr ∧ B ≤ wr.heap.size)
    (fun _ t _ => (intOf t).toNat)
  case atStart => exact ⟨9, [], x, by omega, rfl, rfl, h0, h1, (by show x < 2 ^ (7 * (9 + 1)); have : (2 : Int) ^ (7 * (9 + 1)) = 1180591620717411303424 := by decide
                                                                   omega), rfl, (by simpa [Hid] using hown), Below.refl _ _, hB⟩
  case round =>
    obtain ⟨f, done, xk, hf, henc, hdl, hx0, hx1, hxf, rfl, ho, hbel, hB'⟩ := hrel
    have hor := or128 xk
    have hdl9 : done.length ≤ 9 := by have := hdl.out; omega
    have hlen : (bs ++ done).length ≤ 140737488355009 := by simp; omega
    by_cases hbig : 128 ≤ xk
    · go_wp2_with (at_builtin; refine wpList_append_own _ rfl _ _ 22 rfl B 5 i0 (.int .u8 0) 1 1 Try.underlying22 hi hz0 hz1 hz2 rfl (by decide) _ _ _ rfl (ho.out.alloc _) ⟨wr.heap.size, 0, none⟩ 1 1 [.int .u8 (xk % 128 + 128)] rfl rfl (cell_one_new _ _ _) (by intro u hu; simp at hu; subst hu; rfl) (by unfold maxLen; omega) (by omega) (by simp; omega) ?_; intro v1 w1 hown1 hgrow1 hnil1)
      have hf0 : f ≠ 0 := by
        intro h; subst h; have := hxf.out; simp at this; omega
      obtain ⟨f', rfl⟩ : ∃ f', f = f' + 1 := ⟨f - 1, by omega⟩
      have R : w1.ownsRow B 5 1 v1 (bs ++ (done ++ [xk % 128 + 128])).length ((bs ++ (done ++ [xk % 128 + 128])).map (Value.int .u8)) := by
        simpa [Nat.add_assoc] using hown1
      have hb1 := (hbel.alloc (by omega) (.cells #[.int .u8 (xk % 128 + 128)] 5)).grown hgrow1 (by simp; omega) (fun j hj => (ho.out.lt j hj).1)
      go_roundw
      case rel => exact ⟨f', done ++ [xk % 128 + 128], xk / 128, by omega, (by have := henc.out; rw [encF_big hbig] at this; show enc x = _; rw [this]; simp), (by have := hdl.out; show _ = _; simp; omega), by omega, by omega, (by have := hxf.out; rw [pow7] at this; show _ < _; omega), rfl, R, hb1, by have := hgrow1.size; simp at this; omega⟩
      case measure => simp [intOf]; omega
    · go_wp2_with (at_builtin; refine wpList_append_own _ rfl _ _ 22 rfl B 5 i0 (.int .u8 0) 1 1 Try.underlying22 hi hz0 hz1 hz2 rfl (by decide) _ _ _ rfl (ho.out.alloc _) ⟨wr.heap.size, 0, none⟩ 1 1 [.int .u8 xk] rfl rfl (cell_one_new _ _ _) (by intro u hu; simp at hu; subst hu; rfl) (by unfold maxLen; omega) (by omega) (by simp; omega) ?_; intro v1 w1 hown1 hgrow1 hnil1)
      go_ret
      have R : w1.ownsRow B 5 1 v1 (bs ++ enc x).length ((bs ++ enc x).map (Value.int .u8)) := by
        rw [henc.out, encF_small (by omega)]
        simpa [Nat.add_assoc] using hown1
      have hb1 := (hbel.alloc (by omega) (.cells #[.int .u8 xk] 5)).grown hgrow1 (by simp; omega) (fun j hj => (ho.out.lt j hj).1)
      exact ⟨_, rfl, by simpa using R, hb1⟩
end Go.Proofs.Qxb6000020a
