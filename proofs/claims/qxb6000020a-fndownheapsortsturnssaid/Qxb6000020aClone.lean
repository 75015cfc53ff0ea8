/-
  The walks of the clones: zzHB1CloneBytes (11), zzHB1CloneI64 (19), zzHB1CloneI32 (20), zzHB1CloneInt (21).
-/
import Derived.Test.Qxb6000020aCommon
import Derived.WalkSpells
namespace Go.Proofs.Qxb6000020a
open Go.ChangeShapes Go.WideShapes Go.ChangeAt Go.RowKit

/-- what a clone holds when k of its cells are filled -/
def cl (zs : List Int) (len k : Nat) : List Int := zs.take k ++ List.replicate (len - k) 0
theorem cl_zero (zs : List Int) (len : Nat) : cl zs len 0 = List.replicate len 0 := by simp [cl]
theorem cl_full (zs : List Int) (len : Nat) : cl zs len len = zs.take len := by simp [cl]
theorem cl_set (zs : List Int) (len k : Nat) (hk : k < len) (hl : len ≤ zs.length) : (cl zs len k).set k (zs.getD k 0) = cl zs len (k + 1) := by
  unfold cl
  obtain ⟨m, hm⟩ : ∃ m, len - k = m + 1 := ⟨len - k - 1, by omega⟩
  rw [hm, show len - (k + 1) = m from by omega, take_snoc zs k (by omega), List.replicate_succ]
  rw [List.set_append_right _ _ (by simp; omega)]
  simp [Nat.min_eq_left (show k ≤ zs.length by omega)]
theorem cl_set_map (zs : List Int) (len k : Nat) (κ : IntKind) (hk : k < len) (hl : len ≤ zs.length) : ((cl zs len k).map (Value.int κ)).set k (.int κ (zs.getD k 0)) = (cl zs len (k + 1)).map (Value.int κ) := by
  rw [← cl_set zs len k hk hl, List.map_set]
theorem made_cl (zs : List Int) (len : Nat) (κ : IntKind) : (madeCells (Value.int κ 0).cells (len * 1)).toList = (cl zs len 0).map (Value.int κ) := by
  rw [cl_zero, show (Value.int κ 0).cells = #[.int κ 0] from rfl, toList_madeCells_one]
  simp

theorem info_c8 : (Try.prog.info? 5).map (fun i => (i.zero, i.size, i.bytes)) = some (some (.int .u8 0), 1, 1) := by kernel_rfl

theorem clone8_nil (w : World) : Calls Try.prog 11 #[.slice none 0 0] w fun e w' => e = .returned (.slice none 0 0) ∧ w' = w := by
  have q : ∀ (w : World) (a : Option Addr) (n c n' c' : Nat), (binOp .eql 22 (.slice a n c) (.slice none n' c')).run Try.prog w = .ok (.bool a.isNone) w := fun w a n c n' c' => Lib.run_eql_slice_nil w _ _ a n c n' c' Try.underlying22
  go_enter Try.func11, Try.ntmps11
  go_wp2
  go_ret
  exact ⟨rfl, rfl⟩

set_option maxHeartbeats 1000000 in
theorem clone8 (x : Addr) (len cap : Nat) (zs : List Int) (w : World) (s0 : Seen .u8 w (some x) len zs) (l0 : len ≤ zs.length) (hl : len ≤ 1048576) :
    Calls Try.prog 11 #[.slice (some x) len cap] w fun e w' => e = .returned (.slice (some ⟨w.heap.size, 0, none⟩) len len) ∧
      w'.ownsRow w.heap.size 5 1 (.slice (some ⟨w.heap.size, 0, none⟩) len len) len ((zs.take len).map (Value.int .u8)) ∧ Below w.heap.size w w' ∧ w.heap.size < w'.heap.size := by
  obtain ⟨i0, hi, hz0, hz1, hz2⟩ := info_parts info_c8
  have q : ∀ (w : World) (a : Option Addr) (n c n' c' : Nat), (binOp .eql 22 (.slice a n c) (.slice none n' c')).run Try.prog w = .ok (.bool a.isNone) w := fun w a n c n' c' => Lib.run_eql_slice_nil w _ _ a n c n' c' Try.underlying22
  go_enter Try.func11, Try.ntmps11
  go_wp2_with (at_make; refine wpList_make_full _ rfl _ _ 22 rfl w.heap.size 5 i0 (.int .u8 0) 1 Try.underlying22 hi hz0 hz1 .i64 .i64 _ _ len rfl rfl rfl rfl (by rw [hz2]; omega) (by unfold maxLen; omega) (Nat.le_refl _) ?_; intro w0 hown0 hgrow0)
  have hb0 : Below w.heap.size w w0 := (Below.refl _ _).grown hgrow0 (Nat.le_refl _) (fun k h => by cases h)
  rw [made_cl zs len .u8] at hown0
  clear hgrow0 q
  go_loopw [4] (fun i wr => ∃ k : Nat, k ≤ len ∧ i = .int .i64 k ∧ Hid (wr.ownsRow w.heap.size 5 1 (.slice (some ⟨w.heap.size, 0, none⟩) len len) len ((cl zs len k).map (Value.int .u8))) ∧ Below w.heap.size w wr)
    (fun i _ => len - (intOf i).toNat)
  case atStart => exact ⟨0, by omega, rfl, hown0, hb0⟩
  case round =>
    clear hown0 hb0
    obtain ⟨k, hk, rfl, ho, hb⟩ := hrel
    have hsz := hb.size
    by_cases hlt : k < len
    · obtain ⟨b, off, hx, hbw, hc⟩ := s0 (by omega)
      cases hx
      have hcell : wr.cell? ⟨b, off + k, none⟩ = some (.int .u8 (zs.getD k 0)) := (hb.cell (by exact hbw)).trans (hc k hlt)
      have hfz := ho.out.frozenAt k
      obtain ⟨v, hv⟩ : ∃ v, wr.cell? ⟨w.heap.size, k, none⟩ = some v := ⟨_, by have := own_cells ho.out k hlt; rw [Nat.zero_add] at this; exact this⟩
      have R := (ho.out.stored k (.int .u8 (zs.getD k 0))).1
      rw [cl_set_map zs len k .u8 hlt l0] at R
      have HR : Hid ((wr.setCell ⟨w.heap.size, k, none⟩ (.int .u8 (zs.getD k 0))).ownsRow w.heap.size 5 1 (.slice (some ⟨w.heap.size, 0, none⟩) len len) len ((cl zs len (k + 1)).map (Value.int .u8))) := R
      have hb1 := hb.setCell (p := ⟨w.heap.size, k, none⟩) (Nat.le_refl _) (.int .u8 (zs.getD k 0))
      clear hc R
      go_wp2
      go_roundw
      case rel => exact ⟨k + 1, by omega, by go_num, by simpa using HR, by simpa using hb1⟩
      case measure => simp [intOf]; omega
    · obtain rfl : k = len := by omega
      go_wp2
      go_ret
      have h1 := ho.out
      rw [cl_full] at h1
      refine ⟨rfl, by simpa using h1, hb, ?_⟩
      rcases h1.2 with ⟨h2, _⟩ | ⟨g, cap, cur, h2, _, hh, _⟩
      · cases h2
      · cases h2; exact lt_of_block hh

theorem info_c64 : (Try.prog.info? 2).map (fun i => (i.zero, i.size, i.bytes)) = some (some (.int .i64 0), 1, 8) := by kernel_rfl

theorem clone64_nil (w : World) : Calls Try.prog 19 #[.slice none 0 0] w fun e w' => e = .returned (.slice none 0 0) ∧ w' = w := by
  have q : ∀ (w : World) (a : Option Addr) (n c n' c' : Nat), (binOp .eql 30 (.slice a n c) (.slice none n' c')).run Try.prog w = .ok (.bool a.isNone) w := fun w a n c n' c' => Lib.run_eql_slice_nil w _ _ a n c n' c' Try.underlying30
  go_enter Try.func19, Try.ntmps19
  go_wp2
  go_ret
  exact ⟨rfl, rfl⟩

set_option maxHeartbeats 1000000 in
theorem clone64 (x : Addr) (len cap : Nat) (zs : List Int) (w : World) (s0 : Seen .i64 w (some x) len zs) (l0 : len ≤ zs.length) (hl : len ≤ 1048576) :
    Calls Try.prog 19 #[.slice (some x) len cap] w fun e w' => e = .returned (.slice (some ⟨w.heap.size, 0, none⟩) len len) ∧
      w'.ownsRow w.heap.size 2 1 (.slice (some ⟨w.heap.size, 0, none⟩) len len) len ((zs.take len).map (Value.int .i64)) ∧ Below w.heap.size w w' ∧ w.heap.size < w'.heap.size := by
  obtain ⟨i0, hi, hz0, hz1, hz2⟩ := info_parts info_c64
  have q : ∀ (w : World) (a : Option Addr) (n c n' c' : Nat), (binOp .eql 30 (.slice a n c) (.slice none n' c')).run Try.prog w = .ok (.bool a.isNone) w := fun w a n c n' c' => Lib.run_eql_slice_nil w _ _ a n c n' c' Try.underlying30
  go_enter Try.func19, Try.ntmps19
  go_wp2_with (at_make; refine wpList_make_full _ rfl _ _ 30 rfl w.heap.size 2 i0 (.int .i64 0) 1 Try.underlying30 hi hz0 hz1 .i64 .i64 _ _ len rfl rfl rfl rfl (by rw [hz2]; omega) (by unfold maxLen; omega) (Nat.le_refl _) ?_; intro w0 hown0 hgrow0)
  have hb0 : Below w.heap.size w w0 := (Below.refl _ _).grown hgrow0 (Nat.le_refl _) (fun k h => by cases h)
  rw [made_cl zs len .i64] at hown0
  clear hgrow0 q
  go_loopw [4] (fun i wr => ∃ k : Nat, k ≤ len ∧ i = .int .i64 k ∧ Hid (wr.ownsRow w.heap.size 2 1 (.slice (some ⟨w.heap.size, 0, none⟩) len len) len ((cl zs len k).map (Value.int .i64))) ∧ Below w.heap.size w wr)
    (fun i _ => len - (intOf i).toNat)
  case atStart => exact ⟨0, by omega, rfl, hown0, hb0⟩
  case round =>
    clear hown0 hb0
    obtain ⟨k, hk, rfl, ho, hb⟩ := hrel
    have hsz := hb.size
    by_cases hlt : k < len
    · obtain ⟨b, off, hx, hbw, hc⟩ := s0 (by omega)
      cases hx
      have hcell : wr.cell? ⟨b, off + k, none⟩ = some (.int .i64 (zs.getD k 0)) := (hb.cell (by exact hbw)).trans (hc k hlt)
      have hfz := ho.out.frozenAt k
      obtain ⟨v, hv⟩ : ∃ v, wr.cell? ⟨w.heap.size, k, none⟩ = some v := ⟨_, by have := own_cells ho.out k hlt; rw [Nat.zero_add] at this; exact this⟩
      have R := (ho.out.stored k (.int .i64 (zs.getD k 0))).1
      rw [cl_set_map zs len k .i64 hlt l0] at R
      have HR : Hid ((wr.setCell ⟨w.heap.size, k, none⟩ (.int .i64 (zs.getD k 0))).ownsRow w.heap.size 2 1 (.slice (some ⟨w.heap.size, 0, none⟩) len len) len ((cl zs len (k + 1)).map (Value.int .i64))) := R
      have hb1 := hb.setCell (p := ⟨w.heap.size, k, none⟩) (Nat.le_refl _) (.int .i64 (zs.getD k 0))
      clear hc R
      go_wp2
      go_roundw
      case rel => exact ⟨k + 1, by omega, by go_num, by simpa using HR, by simpa using hb1⟩
      case measure => simp [intOf]; omega
    · obtain rfl : k = len := by omega
      go_wp2
      go_ret
      have h1 := ho.out
      rw [cl_full] at h1
      refine ⟨rfl, by simpa using h1, hb, ?_⟩
      rcases h1.2 with ⟨h2, _⟩ | ⟨g, cap, cur, h2, _, hh, _⟩
      · cases h2
      · cases h2; exact lt_of_block hh

theorem info_c32 : (Try.prog.info? 21).map (fun i => (i.zero, i.size, i.bytes)) = some (some (.int .i32 0), 1, 4) := by kernel_rfl

theorem clone32_nil (w : World) : Calls Try.prog 20 #[.slice none 0 0] w fun e w' => e = .returned (.slice none 0 0) ∧ w' = w := by
  have q : ∀ (w : World) (a : Option Addr) (n c n' c' : Nat), (binOp .eql 31 (.slice a n c) (.slice none n' c')).run Try.prog w = .ok (.bool a.isNone) w := fun w a n c n' c' => Lib.run_eql_slice_nil w _ _ a n c n' c' Try.underlying31
  go_enter Try.func20, Try.ntmps20
  go_wp2
  go_ret
  exact ⟨rfl, rfl⟩

set_option maxHeartbeats 1000000 in
theorem clone32 (x : Addr) (len cap : Nat) (zs : List Int) (w : World) (s0 : Seen .i32 w (some x) len zs) (l0 : len ≤ zs.length) (hl : len ≤ 1048576) :
    Calls Try.prog 20 #[.slice (some x) len cap] w fun e w' => e = .returned (.slice (some ⟨w.heap.size, 0, none⟩) len len) ∧
      w'.ownsRow w.heap.size 21 1 (.slice (some ⟨w.heap.size, 0, none⟩) len len) len ((zs.take len).map (Value.int .i32)) ∧ Below w.heap.size w w' ∧ w.heap.size < w'.heap.size := by
  obtain ⟨i0, hi, hz0, hz1, hz2⟩ := info_parts info_c32
  have q : ∀ (w : World) (a : Option Addr) (n c n' c' : Nat), (binOp .eql 31 (.slice a n c) (.slice none n' c')).run Try.prog w = .ok (.bool a.isNone) w := fun w a n c n' c' => Lib.run_eql_slice_nil w _ _ a n c n' c' Try.underlying31
  go_enter Try.func20, Try.ntmps20
  go_wp2_with (at_make; refine wpList_make_full _ rfl _ _ 31 rfl w.heap.size 21 i0 (.int .i32 0) 1 Try.underlying31 hi hz0 hz1 .i64 .i64 _ _ len rfl rfl rfl rfl (by rw [hz2]; omega) (by unfold maxLen; omega) (Nat.le_refl _) ?_; intro w0 hown0 hgrow0)
  have hb0 : Below w.heap.size w w0 := (Below.refl _ _).grown hgrow0 (Nat.le_refl _) (fun k h => by cases h)
  rw [made_cl zs len .i32] at hown0
  clear hgrow0 q
  go_loopw [4] (fun i wr => ∃ k : Nat, k ≤ len ∧ i = .int .i64 k ∧ Hid (wr.ownsRow w.heap.size 21 1 (.slice (some ⟨w.heap.size, 0, none⟩) len len) len ((cl zs len k).map (Value.int .i32))) ∧ Below w.heap.size w wr)
    (fun i _ => len - (intOf i).toNat)
  case atStart => exact ⟨0, by omega, rfl, hown0, hb0⟩
  case round =>
    clear hown0 hb0
    obtain ⟨k, hk, rfl, ho, hb⟩ := hrel
    have hsz := hb.size
    by_cases hlt : k < len
    · obtain ⟨b, off, hx, hbw, hc⟩ := s0 (by omega)
      cases hx
      have hcell : wr.cell? ⟨b, off + k, none⟩ = some (.int .i32 (zs.getD k 0)) := (hb.cell (by exact hbw)).trans (hc k hlt)
      have hfz := ho.out.frozenAt k
      obtain ⟨v, hv⟩ : ∃ v, wr.cell? ⟨w.heap.size, k, none⟩ = some v := ⟨_, by have := own_cells ho.out k hlt; rw [Nat.zero_add] at this; exact this⟩
      have R := (ho.out.stored k (.int .i32 (zs.getD k 0))).1
      rw [cl_set_map zs len k .i32 hlt l0] at R
      have HR : Hid ((wr.setCell ⟨w.heap.size, k, none⟩ (.int .i32 (zs.getD k 0))).ownsRow w.heap.size 21 1 (.slice (some ⟨w.heap.size, 0, none⟩) len len) len ((cl zs len (k + 1)).map (Value.int .i32))) := R
      have hb1 := hb.setCell (p := ⟨w.heap.size, k, none⟩) (Nat.le_refl _) (.int .i32 (zs.getD k 0))
      clear hc R
      go_wp2
      go_roundw
      case rel => exact ⟨k + 1, by omega, by go_num, by simpa using HR, by simpa using hb1⟩
      case measure => simp [intOf]; omega
    · obtain rfl : k = len := by omega
      go_wp2
      go_ret
      have h1 := ho.out
      rw [cl_full] at h1
      refine ⟨rfl, by simpa using h1, hb, ?_⟩
      rcases h1.2 with ⟨h2, _⟩ | ⟨g, cap, cur, h2, _, hh, _⟩
      · cases h2
      · cases h2; exact lt_of_block hh

theorem info_cI : (Try.prog.info? 3).map (fun i => (i.zero, i.size, i.bytes)) = some (some (.int .i64 0), 1, 8) := by kernel_rfl

theorem cloneI_nil (w : World) : Calls Try.prog 21 #[.slice none 0 0] w fun e w' => e = .returned (.slice none 0 0) ∧ w' = w := by
  have q : ∀ (w : World) (a : Option Addr) (n c n' c' : Nat), (binOp .eql 32 (.slice a n c) (.slice none n' c')).run Try.prog w = .ok (.bool a.isNone) w := fun w a n c n' c' => Lib.run_eql_slice_nil w _ _ a n c n' c' Try.underlying32
  go_enter Try.func21, Try.ntmps21
  go_wp2
  go_ret
  exact ⟨rfl, rfl⟩

set_option maxHeartbeats 1000000 in
theorem cloneI (x : Addr) (len cap : Nat) (zs : List Int) (w : World) (s0 : Seen .i64 w (some x) len zs) (l0 : len ≤ zs.length) (hl : len ≤ 1048576) :
    Calls Try.prog 21 #[.slice (some x) len cap] w fun e w' => e = .returned (.slice (some ⟨w.heap.size, 0, none⟩) len len) ∧
      w'.ownsRow w.heap.size 3 1 (.slice (some ⟨w.heap.size, 0, none⟩) len len) len ((zs.take len).map (Value.int .i64)) ∧ Below w.heap.size w w' ∧ w.heap.size < w'.heap.size := by
  obtain ⟨i0, hi, hz0, hz1, hz2⟩ := info_parts info_cI
  have q : ∀ (w : World) (a : Option Addr) (n c n' c' : Nat), (binOp .eql 32 (.slice a n c) (.slice none n' c')).run Try.prog w = .ok (.bool a.isNone) w := fun w a n c n' c' => Lib.run_eql_slice_nil w _ _ a n c n' c' Try.underlying32
  go_enter Try.func21, Try.ntmps21
  go_wp2_with (at_make; refine wpList_make_full _ rfl _ _ 32 rfl w.heap.size 3 i0 (.int .i64 0) 1 Try.underlying32 hi hz0 hz1 .i64 .i64 _ _ len rfl rfl rfl rfl (by rw [hz2]; omega) (by unfold maxLen; omega) (Nat.le_refl _) ?_; intro w0 hown0 hgrow0)
  have hb0 : Below w.heap.size w w0 := (Below.refl _ _).grown hgrow0 (Nat.le_refl _) (fun k h => by cases h)
  rw [made_cl zs len .i64] at hown0
  clear hgrow0 q
  go_loopw [4] (fun i wr => ∃ k : Nat, k ≤ len ∧ i = .int .i64 k ∧ Hid (wr.ownsRow w.heap.size 3 1 (.slice (some ⟨w.heap.size, 0, none⟩) len len) len ((cl zs len k).map (Value.int .i64))) ∧ Below w.heap.size w wr)
    (fun i _ => len - (intOf i).toNat)
  case atStart => exact ⟨0, by omega, rfl, hown0, hb0⟩
  case round =>
    clear hown0 hb0
    obtain ⟨k, hk, rfl, ho, hb⟩ := hrel
    have hsz := hb.size
    by_cases hlt : k < len
    · obtain ⟨b, off, hx, hbw, hc⟩ := s0 (by omega)
      cases hx
      have hcell : wr.cell? ⟨b, off + k, none⟩ = some (.int .i64 (zs.getD k 0)) := (hb.cell (by exact hbw)).trans (hc k hlt)
      have hfz := ho.out.frozenAt k
      obtain ⟨v, hv⟩ : ∃ v, wr.cell? ⟨w.heap.size, k, none⟩ = some v := ⟨_, by have := own_cells ho.out k hlt; rw [Nat.zero_add] at this; exact this⟩
      have R := (ho.out.stored k (.int .i64 (zs.getD k 0))).1
      rw [cl_set_map zs len k .i64 hlt l0] at R
      have HR : Hid ((wr.setCell ⟨w.heap.size, k, none⟩ (.int .i64 (zs.getD k 0))).ownsRow w.heap.size 3 1 (.slice (some ⟨w.heap.size, 0, none⟩) len len) len ((cl zs len (k + 1)).map (Value.int .i64))) := R
      have hb1 := hb.setCell (p := ⟨w.heap.size, k, none⟩) (Nat.le_refl _) (.int .i64 (zs.getD k 0))
      clear hc R
      go_wp2
      go_roundw
      case rel => exact ⟨k + 1, by omega, by go_num, by simpa using HR, by simpa using hb1⟩
      case measure => simp [intOf]; omega
    · obtain rfl : k = len := by omega
      go_wp2
      go_ret
      have h1 := ho.out
      rw [cl_full] at h1
      refine ⟨rfl, by simpa using h1, hb, ?_⟩
      rcases h1.2 with ⟨h2, _⟩ | ⟨g, cap, cur, h2, _, hh, _⟩
      · cases h2
      · cases h2; exact lt_of_block hh
end Go.Proofs.Qxb6000020a
