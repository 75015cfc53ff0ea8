/-
  The walk of zzHB1Header (29).
-/
import Derived.Test.Qxb6000020aZig
import Derived.Test.Qxb6000020aPut
import Derived.Test.Qxb6000020aReadsBack
import Derived.WalkSpells
namespace Go.Proofs.Qxb6000020a
open Go.ChangeShapes Go.WideShapes Go.ChangeAt Go.RowKit
set_option linter.unusedVariables false

/-- a row of bytes that the call owns, at most m long -/
def Own (B : Nat) (w0 W : World) (v : Value) (bs : List Int) (m : Nat) : Prop :=
  W.ownsRow B 5 1 v bs.length (bs.map (Value.int .u8)) ∧ Below B w0 W ∧ B ≤ W.heap.size ∧ bs.length ≤ m

theorem put_own {B : Nat} {w0 W : World} {v : Value} {bs : List Int} {m : Nat} {x : Int} (h : Own B w0 W v bs m) (hm : m ≤ 1000000000) (h0 : 0 ≤ x) (h1 : x < 18446744073709551616) :
    Calls Try.prog 15 #[v, .int .u64 x] W fun e W' => ∃ v', e = .returned v' ∧ Own B w0 W' v' (bs ++ enc x) (m + 10) := by
  obtain ⟨ho, hb, hB, hl⟩ := h
  refine (put_any B v bs x W hB h0 h1 (by omega) ho).mono ?_
  rintro e w' ⟨v', rfl, ho', hb'⟩
  refine ⟨v', rfl, ho', hb.trans hb', by have := hb'.size; omega, ?_⟩
  have := enc_len x h0 h1
  rw [List.length_append]; omega

def z64 (fl : Int) : Bool := bits .and .u8 fl 64 == 0
def z128 (fl : Int) : Bool := bits .and .u8 fl 128 == 0
def z8 (fl : Int) : Bool := bits .and .u8 fl 8 == 0
def l4 (fl : Int) : Bool := bits .and .u8 fl 4 != 0
def seg (b : Bool) (x : Int) : List Int := if b then enc x else []
def hdr (fl rS rSt rSS ns lb an : Int) : List Int :=
  [fl] ++ seg (z64 fl) (rS % 18446744073709551616) ++ seg (z128 fl) (zig rSt) ++ seg (z128 fl) (zig rSS) ++ seg (z8 fl) (ns % 4294967296) ++ seg (l4 fl) lb ++ seg (l4 fl && z8 fl) (an % 4294967296)

theorem own_first {w w0 w1 : World} {v1 : Value} {fl : Int} {o : Obj} {r : Option Nat} (hgrow0 : w.grownBy w0 none)
    (hown1 : w1.ownsRow w.heap.size 5 1 v1 (0 + 1) ([] ++ [Value.int .u8 fl])) (hgrow1 : (w0.alloc o).grownBy w1 r) (hr : r = some w.heap.size) : Own w.heap.size w w1 v1 [fl] 1 := by
  have hb0 : Below w.heap.size w w0 := (Below.refl _ _).grown hgrow0 (Nat.le_refl _) (fun k h => by cases h)
  have hs0 := hb0.size
  have hb1 := (hb0.alloc hs0 o).grown hgrow1 (by simp; omega) (fun j hj => by rw [hr] at hj; cases hj; exact Nat.le_refl _)
  exact ⟨by simpa using hown1, hb1, hb1.size, by simp⟩

theorem own_widen {B : Nat} {w0 W : World} {v : Value} {bs bs' : List Int} {m m' : Nat} (h : Own B w0 W v bs m) (e : bs = bs') (hm : m ≤ m') : Own B w0 W v bs' m' := by
  subst e; exact ⟨h.1, h.2.1, h.2.2.1, by have := h.2.2.2; omega⟩

set_option maxHeartbeats 4000000 in
theorem header_any (fl rS rSt rSS ns lb an : Int) (w : World) (hf0 : 0 ≤ fl) (hf1 : fl ≤ 255) (hS0 : -9223372036854775808 ≤ rS) (hS1 : rS ≤ 9223372036854775807)
    (ht0 : -9223372036854775808 ≤ rSt) (ht1 : rSt ≤ 9223372036854775807) (hq0 : -9223372036854775808 ≤ rSS) (hq1 : rSS ≤ 9223372036854775807)
    (hn0 : -2147483648 ≤ ns) (hn1 : ns ≤ 2147483647) (hb0 : 0 ≤ lb) (hb1 : lb < 18446744073709551616) (ha0 : -2147483648 ≤ an) (ha1 : an ≤ 2147483647)
    (b1 : Bool) (H1 : (bits .and .u8 fl 64 == 0) = b1) (b2 : Bool) (H2 : (bits .and .u8 fl 128 == 0) = b2) :
    Calls Try.prog 29 #[.int .u8 fl, .int .i64 rS, .int .i64 rSt, .int .i64 rSS, .int .i32 ns, .int .u64 lb, .int .i32 an] w fun e w' =>
      ∃ v, e = .returned v ∧ Own w.heap.size w w' v (hdr fl rS rSt rSS ns lb an) 100 := by
  obtain ⟨i0, hi, hz0, hz1, hz2⟩ := info_parts info5
  have hzt := zig_bd rSt ht0 ht1
  have hzq := zig_bd rSS hq0 hq1
  have hwS : 0 ≤ IntKind.u64.wrap rS ∧ IntKind.u64.wrap rS < 18446744073709551616 := by rw [IntKind.wrap_u64]; omega
  cases b1 <;> cases b2 <;> rcases hd : (bits .and .u8 fl 8 == 0) <;> rcases hl : (bits .and .u8 fl 4 != 0)
  all_goals
    go_enter Try.func29, Try.ntmps29
    go_wp2_with (first
      | (at_make; refine wpList_make_own _ rfl _ _ 22 rfl w.heap.size 5 i0 (.int .u8 0) 1 Try.underlying22 hi hz0 hz1 .i64 .i64 _ 64 rfl rfl (by omega) (by rw [hz2]; omega) (by unfold maxLen; omega) (Nat.le_refl _) ?_; intro w0 hown0 hgrow0)
      | (at_builtin; refine wpList_append_own _ rfl _ _ 22 rfl w.heap.size 5 i0 (.int .u8 0) 1 1 Try.underlying22 hi hz0 hz1 hz2 rfl (by decide) _ _ _ rfl (hown0.alloc _) ⟨_, 0, none⟩ 1 1 [.int .u8 fl] rfl rfl (cell_one_new _ _ _) (by intro u hu; simp at hu; subst hu; rfl) (by unfold maxLen; omega) (by omega) (by have := hgrow0.size; simp; omega) ?_; intro v1 w1 hown1 hgrow1 hnil1; have ho1 := own_first hgrow0 hown1 hgrow1 rfl; clear hown0 hgrow0 hown1 hgrow1 hnil1)
      | (go_at_call 37; refine (zig_any _ _ (by omega) (by omega)).mono ?_; rintro e w' ⟨rfl, rfl⟩)
      | (go_at_call 15; refine (put_own (by assumption) (by omega) (by omega) (by omega)).mono ?_; rintro e w' ⟨v', rfl, ho'⟩))
    go_ret
    refine ⟨_, rfl, ?_⟩
    refine own_widen (by assumption) ?_ (by omega)
    simp [hdr, seg, z64, z128, z8, l4, H1, H2, hd, hl, IntKind.wrap_u64]
end Go.Proofs.Qxb6000020a
