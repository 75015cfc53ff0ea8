/-
  The walks of escapedWell (11), ZZescapedWell (7) and FnEscapedWellCountModel (3).
-/
import Derived.Test.Qxb6600640aProg
import Derived.Test.Qxb6600640aPlain
import Derived.WalkKit
import Derived.Below
namespace Go.Proofs.Qxb6600640a
open Go.RowKit

theorem drop_at (s : ByteArray) (k : Nat) (h : k < s.size) : s.data.toList.drop k = s[k] :: s.data.toList.drop (k + 1) := by
  rw [List.drop_eq_getElem_cons (by simpa using h)]; rfl
theorem drop_past (s : ByteArray) (k : Nat) (h : s.size ≤ k) : s.data.toList.drop k = [] := List.drop_eq_nil_of_le (by simpa using h)
theorem byte_eq (c : UInt8) (n : Nat) (hn : n < 256) : (c = UInt8.ofNat n) ↔ (c.toNat : Int) = n := by
  constructor
  · rintro rfl; simp; omega
  · intro h; apply UInt8.toNat_inj.1; simp; omega

set_option maxHeartbeats 1000000 in
theorem well_any (s : ByteArray) (w : World) (hs : s.size ≤ maxLen) :
    Calls Try.prog 11 #[.string s] w fun e w' => e = .returned (.bool (ok s.data.toList)) ∧ w' = w := by
  unfold maxLen at hs
  go_enter Try.func11, Try.ntmps11
  go_wp2
  go_loop [3] (fun i => ∃ k : Nat, k ≤ s.size ∧ i = .int .i64 k ∧ Hid (ok (s.data.toList.drop k) = ok s.data.toList)) (fun i => s.size - (intOf i).toNat)
  case atStart => exact ⟨0, Nat.zero_le _, rfl, rfl⟩
  case round =>
    obtain ⟨k, hk, rfl, HR⟩ := hrel
    by_cases hlt : k < s.size
    · have hd := drop_at s k hlt
      have HD : Hid (s.data.toList.drop k = s[k] :: s.data.toList.drop (k + 1)) := hd
      clear hd
      by_cases hc : s[k] = 126
      · have hc' : (((s[k]).toNat : Int) != 126) = false := by rw [hc]; rfl
        have HC : Hid (s[k] = 126) := hc
        clear hc
        by_cases h1 : k + 1 < s.size
        · have HD1 : Hid (s.data.toList.drop (k + 1) = s[k + 1] :: s.data.toList.drop (k + 1 + 1)) := drop_at s (k + 1) h1
          have hsz : ((k : Int) + 1 == (s.size : Int)) = false := by simp; omega
          by_cases h48 : s[k + 1] = 48
          · have hb : (((s[k + 1]).toNat : Int) != 48) = false := by rw [h48]; rfl
            have HE : Hid (ok (s.data.toList.drop (k + 1 + 1)) = ok s.data.toList) := by
              unfold Hid; rw [← HR.out, HD.out, HD1.out, HC.out, h48]; simp [ok]
            clear h48
            go_wp2
            go_round
            case rel => exact ⟨k + 1 + 1, by omega, by go_num, HE⟩
            case measure => simp [intOf]; omega
          · have hb : (((s[k + 1]).toNat : Int) != 48) = true := by
              simp; intro h; exact h48 (UInt8.toNat_inj.1 (by show _ = 48; omega))
            by_cases h49 : s[k + 1] = 49
            · have hb2 : (((s[k + 1]).toNat : Int) != 49) = false := by rw [h49]; rfl
              have HE : Hid (ok (s.data.toList.drop (k + 1 + 1)) = ok s.data.toList) := by
                unfold Hid; rw [← HR.out, HD.out, HD1.out, HC.out, h49]; simp [ok]
              clear h48 h49
              go_wp2
              go_round
              case rel => exact ⟨k + 1 + 1, by omega, by go_num, HE⟩
              case measure => simp [intOf]; omega
            · have hb2 : (((s[k + 1]).toNat : Int) != 49) = true := by
                simp; intro h; exact h49 (UInt8.toNat_inj.1 (by show _ = 49; omega))
              have HE : Hid (ok s.data.toList = false) := by
                unfold Hid; rw [← HR.out, HD.out, HD1.out, HC.out]; simp [ok, h48, h49]
              clear h48 h49
              go_wp2
              go_ret
              exact ⟨by rw [HE.out]; rfl, rfl⟩
        · have hsz : ((k : Int) + 1 == (s.size : Int)) = true := by simp; omega
          have HE : Hid (ok s.data.toList = false) := by
            unfold Hid; rw [← HR.out, HD.out, HC.out, drop_past s (k + 1) (by omega)]; rfl
          go_wp2
          go_ret
          exact ⟨by rw [HE.out]; rfl, rfl⟩
      · have hc' : (((s[k]).toNat : Int) != 126) = true := by
          simp; intro h; exact hc (UInt8.toNat_inj.1 (by show _ = 126; omega))
        have HE : Hid (ok (s.data.toList.drop (k + 1)) = ok s.data.toList) := by
          unfold Hid; rw [← HR.out, HD.out, ok_skip _ _ hc]
        clear hc
        go_wp2
        go_round
        case rel => exact ⟨k + 1, by omega, by go_num, HE⟩
        case measure => simp [intOf]; omega
    · go_wp2
      go_ret
      exact ⟨by rw [← HR.out, drop_past s k (by omega)]; rfl, rfl⟩

theorem zzwell_any (s : ByteArray) (w : World) (hs : s.size ≤ maxLen) :
    Calls Try.prog 7 #[.string s] w fun e w' => e = .returned (.bool (ok s.data.toList)) ∧ w' = w := by
  go_enter Try.func7, Try.ntmps7
  go_wp2_with (go_at_call 11; refine (well_any s _ hs).mono ?_; rintro e w' ⟨rfl, rfl⟩)
  go_ret
  exact ⟨rfl, rfl⟩

theorem count_big (s : ByteArray) (w : World) (hs : s.size ≤ maxLen) (h : 1048576 < s.size) :
    Calls Try.prog 3 #[.string s] w fun e w' => e = .returned (.bool true) ∧ w' = w := by
  unfold maxLen at hs
  go_enter Try.func3, Try.ntmps3
  go_wp2
  all_goals (go_ret; exact ⟨rfl, rfl⟩)

theorem es_short (l : List UInt8) (h : l.length ≤ 1) : es l = 0 := by
  match l, h with
  | [], _ => rfl
  | [_], _ => rfl
  | _ :: _ :: _, h => simp at h
theorem count_end (l : List UInt8) : (ok l == (((tl l : Nat) : Int) == ((es l : Nat) : Int))) = true := by
  rw [ok_is]
  by_cases h : tl l = es l
  · simp [h]
  · have : ¬ ((tl l : Nat) : Int) = ((es l : Nat) : Int) := by omega
    simp [h, this]

set_option maxHeartbeats 2000000 in
theorem count_main (s : ByteArray) (w : World) (h : s.size ≤ 1048576) :
    Calls Try.prog 3 #[.string s] w fun e w' => e = .returned (.bool true) ∧ w' = w := by
  have hs : s.size ≤ maxLen := by unfold maxLen; omega
  have HL : Hid (s.data.toList.length = s.size) := by unfold Hid; simp
  go_enter Try.func3, Try.ntmps3
  go_wp2_with (go_at_call 6; go_in)
  go_loop [3, 4] (fun n i => ∃ k t : Nat, k ≤ s.size ∧ t ≤ k ∧ i = .int .i64 k ∧ n = .int .i64 t ∧ Hid (t + tl (s.data.toList.drop k) = tl s.data.toList)) (fun _ i => s.size - (intOf i).toNat)
  case atStart => exact ⟨0, 0, Nat.zero_le _, Nat.le_refl _, rfl, rfl, (by unfold Hid; simp)⟩
  case round =>
    obtain ⟨k, t, hk, htk, rfl, rfl, HR⟩ := hrel
    by_cases hlt : k < s.size
    · have HD : Hid (s.data.toList.drop k = s[k] :: s.data.toList.drop (k + 1)) := drop_at s k hlt
      by_cases hc : s[k] = 126
      · have hc' : (((s[k]).toNat : Int) == 126) = true := by rw [hc]; rfl
        have HE : Hid (t + 1 + tl (s.data.toList.drop (k + 1)) = tl s.data.toList) := by
          unfold Hid; have := HR.out; rw [HD.out, tl, if_pos hc] at this; omega
        clear hc
        go_wp2
        go_round
        case rel => exact ⟨k + 1, t + 1, by omega, by omega, by go_num, by go_num, HE⟩
        case measure => simp [intOf]; omega
      · have hc' : (((s[k]).toNat : Int) == 126) = false := by
          simp; intro h; exact hc (UInt8.toNat_inj.1 (by show _ = 126; omega))
        have HE : Hid (t + tl (s.data.toList.drop (k + 1)) = tl s.data.toList) := by
          unfold Hid; have := HR.out; rw [HD.out, tl, if_neg hc] at this; omega
        clear hc
        go_wp2
        go_round
        case rel => exact ⟨k + 1, t, by omega, by omega, by go_num, by go_num, HE⟩
        case measure => simp [intOf]; omega
    · have HT : Hid (t = tl s.data.toList) := by
        unfold Hid; have := HR.out; rw [drop_past s k (by omega)] at this; simpa [tl] using this
      clear HR
      go_wp2_with fail
      go_loop [5, 6] (fun n i => ∃ k t : Nat, k ≤ s.size ∧ t ≤ k ∧ i = .int .i64 k ∧ n = .int .i64 t ∧ Hid (t + es (s.data.toList.drop k) = es s.data.toList)) (fun _ i => s.size - (intOf i).toNat)
      case atStart => exact ⟨0, 0, Nat.zero_le _, Nat.le_refl _, rfl, rfl, (by unfold Hid; simp)⟩
      case round =>
        obtain ⟨k2, t2, hk2, htk2, rfl, rfl, HR⟩ := hrel
        by_cases hlt2 : k2 + 1 < s.size
        · have hlt3 : k2 < s.size := by omega
          have HD : Hid (s.data.toList.drop k2 = s[k2] :: s.data.toList.drop (k2 + 1)) := drop_at s k2 hlt3
          have HD1 : Hid (s.data.toList.drop (k2 + 1) = s[k2 + 1] :: s.data.toList.drop (k2 + 1 + 1)) := drop_at s (k2 + 1) hlt2
          by_cases hc : s[k2] = 126
          · have hc' : (((s[k2]).toNat : Int) == 126) = true := by rw [hc]; rfl
            by_cases h48 : s[k2 + 1] = 48
            · have hb : (((s[k2 + 1]).toNat : Int) == 48) = true := by rw [h48]; rfl
              have HE : Hid (t2 + 1 + es (s.data.toList.drop (k2 + 1)) = es s.data.toList) := by
                unfold Hid; have := HR.out; rw [HD.out, HD1.out, es, if_pos ⟨hc, .inl h48⟩, ← HD1.out] at this; omega
              clear hc h48
              go_wp2
              go_round
              case rel => exact ⟨k2 + 1, t2 + 1, by omega, by omega, by go_num, by go_num, HE⟩
              case measure => simp [intOf]; omega
            · have hb : (((s[k2 + 1]).toNat : Int) == 48) = false := by
                simp; intro h; exact h48 (UInt8.toNat_inj.1 (by show _ = 48; omega))
              by_cases h49 : s[k2 + 1] = 49
              · have hb2 : (((s[k2 + 1]).toNat : Int) == 49) = true := by rw [h49]; rfl
                have HE : Hid (t2 + 1 + es (s.data.toList.drop (k2 + 1)) = es s.data.toList) := by
                  unfold Hid; have := HR.out; rw [HD.out, HD1.out, es, if_pos ⟨hc, .inr h49⟩, ← HD1.out] at this; omega
                clear hc h48 h49
                go_wp2
                go_round
                case rel => exact ⟨k2 + 1, t2 + 1, by omega, by omega, by go_num, by go_num, HE⟩
                case measure => simp [intOf]; omega
              · have hb2 : (((s[k2 + 1]).toNat : Int) == 49) = false := by
                  simp; intro h; exact h49 (UInt8.toNat_inj.1 (by show _ = 49; omega))
                have HE : Hid (t2 + es (s.data.toList.drop (k2 + 1)) = es s.data.toList) := by
                  unfold Hid; have := HR.out; rw [HD.out, HD1.out, es, if_neg (fun x => x.2.elim h48 h49), ← HD1.out] at this; omega
                clear hc h48 h49
                go_wp2
                go_round
                case rel => exact ⟨k2 + 1, t2, by omega, by omega, by go_num, by go_num, HE⟩
                case measure => simp [intOf]; omega
          · have hc' : (((s[k2]).toNat : Int) == 126) = false := by
              simp; intro h; exact hc (UInt8.toNat_inj.1 (by show _ = 126; omega))
            have HE : Hid (t2 + es (s.data.toList.drop (k2 + 1)) = es s.data.toList) := by
              unfold Hid; have := HR.out; rw [HD.out, es_skip _ _ hc] at this; exact this
            clear hc
            go_wp2
            go_round
            case rel => exact ⟨k2 + 1, t2, by omega, by omega, by go_num, by go_num, HE⟩
            case measure => simp [intOf]; omega
        · have HT2 : Hid (t2 = es s.data.toList) := by
            unfold Hid; have := HR.out; rw [es_short _ (by rw [List.length_drop, HL.out]; omega)] at this; omega
          clear HR
          go_wp2_with (go_at_call 7; refine (zzwell_any s _ hs).mono ?_; rintro e w' ⟨rfl, rfl⟩)
          go_ret
          refine ⟨?_, rfl⟩
          rw [HT.out, HT2.out]
          simp only [count_end]
          rfl
end Go.Proofs.Qxb6600640a
