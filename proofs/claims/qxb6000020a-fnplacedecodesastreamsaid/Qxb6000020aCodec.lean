/-
  ZZHB1CodecPlace (30) reads back the record that zzHB1Header (29) writes: all cases of the flags in one contract.
-/
import Derived.Test.Qxb6000020aPlace1
import Derived.Test.Qxb6000020aPlace2
import Derived.Test.Qxb6000020aPlace3
import Derived.Test.Qxb6000020aPlace4
namespace Go.Proofs.Qxb6000020a
open Go.ChangeShapes Go.WideShapes Go.ChangeAt Go.RowKit
set_option linter.unusedVariables false
set_option linter.unusedSimpArgs false

def qAt (vals : List Int) (k : Nat) : Nat := 1 + ((vals.take k).flatMap enc).length

theorem chain (vals : List Int) (hv : ∀ v ∈ vals, 0 ≤ v ∧ v < 18446744073709551616) (zs : List Int) (len : Nat) (fl : Int) (hle : (fl :: vals.flatMap enc).length ≤ len)
    (hag : ∀ j, j < (fl :: vals.flatMap enc).length → zs[j]?.getD 0 = (fl :: vals.flatMap enc)[j]?.getD 0) (k : Nat) (hk : k < vals.length) :
    Rd len zs (qAt vals k) (vals[k]?.getD 0) (qAt vals (k + 1)) := by
  have hgk : vals[k]?.getD 0 = vals[k] := by simp [hk]
  rw [hgk]
  have ht : vals.take (k + 1) = vals.take k ++ [vals[k]] := by rw [List.take_succ_eq_append_getElem hk]
  have hd : vals = vals.take k ++ vals[k] :: vals.drop (k + 1) := by
    rw [← List.drop_eq_getElem_cons hk, List.take_append_drop]
  have hb := hv vals[k] (List.getElem_mem hk)
  have hq : qAt vals (k + 1) = qAt vals k + (enc vals[k]).length := by
    unfold qAt; rw [ht, List.flatMap_append, List.length_append]; simp only [List.flatMap_cons, List.flatMap_nil, List.append_nil]; omega
  have hfl : vals.flatMap enc = (vals.take k).flatMap enc ++ (enc vals[k] ++ (vals.drop (k + 1)).flatMap enc) := by
    have := congrArg (List.flatMap enc) hd
    rw [List.flatMap_append, List.flatMap_cons] at this
    exact this
  rw [hq]
  have hlen : (fl :: vals.flatMap enc).length = qAt vals k + (enc vals[k]).length + ((vals.drop (k + 1)).flatMap enc).length := by
    rw [hfl]; unfold qAt; rw [List.length_cons, List.length_append, List.length_append]; omega
  refine rd_enc zs len (qAt vals k) vals[k] hb.1 hb.2 (by omega) (fun j hj => ?_)
  rw [hag (qAt vals k + j) (by omega), hfl]
  have hpre : (fl :: (vals.take k).flatMap enc).length = qAt vals k := by unfold qAt; rw [List.length_cons]; omega
  rw [← List.cons_append, List.getElem?_append_right (by omega), hpre, Nat.add_sub_cancel_left, List.getElem?_append_left hj]

theorem reads_of {w : World} {b off len cap : Nat} {zs : List Int} (hbw : b < w.heap.size) (hlm : len ≤ 9223372036854775000)
    (hc : ∀ j, j < len → w.cell? ⟨b, off + j, none⟩ = some (.int .u8 (zs.getD j 0))) (hr : Rng zs) {q : Nat} {v : Int} {t : Nat} (h : Rd len zs q v t) : Reads w b off len cap q v t :=
  fun W hW => uv_any b off len cap q zs v t W hlm (fun j hj => (hW.cell (by exact hbw)).trans (hc j hj)) hr h

theorem conv64 (x : Int) (h0 : -9223372036854775808 ≤ x) (h1 : x ≤ 9223372036854775807) : wrap64 (x % 18446744073709551616) = x := by unfold wrap64; omega
theorem conv32 (x : Int) (h0 : -2147483648 ≤ x) (h1 : x ≤ 2147483647) : wrap32 (x % 4294967296) = x := by unfold wrap32; omega

def wS (fl rS series : Int) : Int := if z64 fl then rS else series
def wSt (fl rSt step : Int) : Int := if z128 fl then rSt else step
def wN (fl ns : Int) : Int := if z8 fl then ns else 0
def wA (fl T lb : Int) : Int := if l4 fl then wrap64 (T - wrap64 lb) else T
def wAn (fl an ns : Int) : Int := if l4 fl then (if z8 fl then an else 0) else wN fl ns
def outV (N S L T Tn A An fl SS St : Int) : Value :=
  .agg #[.int .i64 N, .int .i64 S, .int .i64 L, .int .i64 T, .int .i32 Tn, .int .i64 A, .int .i32 An, .int .u8 fl, .int .i64 T, .int .i64 L, .int .i64 S, .int .i64 SS, .int .i64 St]
/-- what place gives for a record of hdr .. -/
def placed (sec line series secStep step fl rS rSt rSS ns lb an : Int) : Value :=
  outV (hdr fl rS rSt rSS ns lb an).length (wS fl rS series) (wrap64 (line + wSt fl rSt step)) (wrap64 (sec + wSt fl rSS secStep)) (wN fl ns) (wA fl (wrap64 (sec + wSt fl rSS secStep)) lb) (wAn fl an ns) fl (wSt fl rSS secStep) (wSt fl rSt step)

set_option maxHeartbeats 1000000 in
theorem codec_any (sec line series secStep step : Int) (b off len cap : Nat) (zs : List Int) (fl rS rSt rSS ns lb an : Int) (w : World) (hbw : b < w.heap.size) (hlm : len ≤ 9223372036854775000)
    (hc : ∀ j, j < len → w.cell? ⟨b, off + j, none⟩ = some (.int .u8 (zs.getD j 0))) (hr : Rng zs)
    (hS0 : -9223372036854775808 ≤ rS) (hS1 : rS ≤ 9223372036854775807)
    (ht0 : -9223372036854775808 ≤ rSt) (ht1 : rSt ≤ 9223372036854775807) (hq0 : -9223372036854775808 ≤ rSS) (hq1 : rSS ≤ 9223372036854775807)
    (hn0 : -2147483648 ≤ ns) (hn1 : ns ≤ 2147483647) (hb0 : 0 ≤ lb) (hb1 : lb < 18446744073709551616) (ha0 : -2147483648 ≤ an) (ha1 : an ≤ 2147483647)
    (hle : (hdr fl rS rSt rSS ns lb an).length ≤ len) (hag : ∀ j, j < (hdr fl rS rSt rSS ns lb an).length → zs[j]?.getD 0 = (hdr fl rS rSt rSS ns lb an)[j]?.getD 0) :
    Calls Try.prog 30 #[.int .i64 sec, .int .i64 line, .int .i64 series, .int .i64 secStep, .int .i64 step, .slice (some ⟨b, off, none⟩) len cap] w fun e w' =>
      e = .returned (placed sec line series secStep step fl rS rSt rSS ns lb an) ∧ Below w.heap.size w w' := by
  have hzt := zig_bd rSt ht0 ht1
  have hzq := zig_bd rSS hq0 hq1
  have cS := conv64 rS hS0 hS1
  have cN := conv32 ns hn0 hn1
  have cA := conv32 an ha0 ha1
  have hlen : 0 < len := by
    have : 0 < (hdr fl rS rSt rSS ns lb an).length := by simp [hdr]
    omega
  have hc0 : w.cell? ⟨b, off, none⟩ = some (.int .u8 fl) := by
    have h1 := hc 0 hlen
    have h2 := hag 0 (by simp [hdr])
    have h3 : (hdr fl rS rSt rSS ns lb an)[0]?.getD 0 = fl := by simp [hdr]
    rw [h3] at h2
    rw [Nat.add_zero] at h1
    rw [h1]
    simpa using h2
  cases h1 : z64 fl <;> cases h2 : z128 fl <;> cases h3 : z8 fl <;> cases h4 : l4 fl
  · have hH : hdr fl rS rSt rSS ns lb an = [fl] := by simp [hdr, seg, h1, h2, h3, h4]
    refine (codec_ffff sec line series secStep step b off len cap fl (fun k => k) w hbw hlen hlm hc0 h1 h2 h3 h4).mono ?_
    rintro e w' ⟨rfl, hb⟩
    exact ⟨by simp [placed, outV, wS, wSt, wN, wA, wAn, hH, h1, h2, h3, h4], hb⟩
  · have hH : hdr fl rS rSt rSS ns lb an = fl :: ([lb] : List Int).flatMap enc := by simp [hdr, seg, h1, h2, h3, h4]
    have hN : (hdr fl rS rSt rSS ns lb an).length = qAt [lb] 1 := by rw [hH]; simp [qAt]; omega
    rw [hH] at hag hle
    have C := fun k hk => reads_of (cap := cap) hbw hlm hc hr (chain [lb] (by intro v hv; simp at hv; omega) zs len fl hle hag k hk)
    refine (codec_ffft sec line series secStep step b off len cap fl (lb) (qAt [lb]) w hbw hlen hlm hc0 (C 0 (by simp)) (by rw [← hN, hH]; exact hle)  h1 h2 h3 h4).mono ?_
    rintro e w' ⟨rfl, hb⟩
    exact ⟨by simp [placed, outV, wS, wSt, wN, wA, wAn, hN, h1, h2, h3, h4, cS, cN, cA, unzig_zig], hb⟩
  · have hH : hdr fl rS rSt rSS ns lb an = fl :: ([ns % 4294967296] : List Int).flatMap enc := by simp [hdr, seg, h1, h2, h3, h4]
    have hN : (hdr fl rS rSt rSS ns lb an).length = qAt [ns % 4294967296] 1 := by rw [hH]; simp [qAt]; omega
    rw [hH] at hag hle
    have C := fun k hk => reads_of (cap := cap) hbw hlm hc hr (chain [ns % 4294967296] (by intro v hv; simp at hv; omega) zs len fl hle hag k hk)
    refine (codec_fftf sec line series secStep step b off len cap fl (ns % 4294967296) (qAt [ns % 4294967296]) w hbw hlen hlm hc0 (C 0 (by simp)) (by rw [← hN, hH]; exact hle)  h1 h2 h3 h4).mono ?_
    rintro e w' ⟨rfl, hb⟩
    exact ⟨by simp [placed, outV, wS, wSt, wN, wA, wAn, hN, h1, h2, h3, h4, cS, cN, cA, unzig_zig], hb⟩
  · have hH : hdr fl rS rSt rSS ns lb an = fl :: ([ns % 4294967296, lb, an % 4294967296] : List Int).flatMap enc := by simp [hdr, seg, h1, h2, h3, h4]
    have hN : (hdr fl rS rSt rSS ns lb an).length = qAt [ns % 4294967296, lb, an % 4294967296] 3 := by rw [hH]; simp [qAt]; omega
    rw [hH] at hag hle
    have C := fun k hk => reads_of (cap := cap) hbw hlm hc hr (chain [ns % 4294967296, lb, an % 4294967296] (by intro v hv; simp at hv; omega) zs len fl hle hag k hk)
    refine (codec_fftt sec line series secStep step b off len cap fl (ns % 4294967296) (lb) (an % 4294967296) (qAt [ns % 4294967296, lb, an % 4294967296]) w hbw hlen hlm hc0 (C 0 (by simp)) (C 1 (by simp)) (C 2 (by simp)) (by rw [← hN, hH]; exact hle)  h1 h2 h3 h4).mono ?_
    rintro e w' ⟨rfl, hb⟩
    exact ⟨by simp [placed, outV, wS, wSt, wN, wA, wAn, hN, h1, h2, h3, h4, cS, cN, cA, unzig_zig], hb⟩
  · have hH : hdr fl rS rSt rSS ns lb an = fl :: ([zig rSt, zig rSS] : List Int).flatMap enc := by simp [hdr, seg, h1, h2, h3, h4]
    have hN : (hdr fl rS rSt rSS ns lb an).length = qAt [zig rSt, zig rSS] 2 := by rw [hH]; simp [qAt]; omega
    rw [hH] at hag hle
    have C := fun k hk => reads_of (cap := cap) hbw hlm hc hr (chain [zig rSt, zig rSS] (by intro v hv; simp at hv; omega) zs len fl hle hag k hk)
    refine (codec_ftff sec line series secStep step b off len cap fl (zig rSt) (zig rSS) (qAt [zig rSt, zig rSS]) w hbw hlen hlm hc0 (C 0 (by simp)) (C 1 (by simp)) (by rw [← hN, hH]; exact hle) (by omega) (by omega) h1 h2 h3 h4).mono ?_
    rintro e w' ⟨rfl, hb⟩
    exact ⟨by simp [placed, outV, wS, wSt, wN, wA, wAn, hN, h1, h2, h3, h4, cS, cN, cA, unzig_zig], hb⟩
  · have hH : hdr fl rS rSt rSS ns lb an = fl :: ([zig rSt, zig rSS, lb] : List Int).flatMap enc := by simp [hdr, seg, h1, h2, h3, h4]
    have hN : (hdr fl rS rSt rSS ns lb an).length = qAt [zig rSt, zig rSS, lb] 3 := by rw [hH]; simp [qAt]; omega
    rw [hH] at hag hle
    have C := fun k hk => reads_of (cap := cap) hbw hlm hc hr (chain [zig rSt, zig rSS, lb] (by intro v hv; simp at hv; omega) zs len fl hle hag k hk)
    refine (codec_ftft sec line series secStep step b off len cap fl (zig rSt) (zig rSS) (lb) (qAt [zig rSt, zig rSS, lb]) w hbw hlen hlm hc0 (C 0 (by simp)) (C 1 (by simp)) (C 2 (by simp)) (by rw [← hN, hH]; exact hle) (by omega) (by omega) h1 h2 h3 h4).mono ?_
    rintro e w' ⟨rfl, hb⟩
    exact ⟨by simp [placed, outV, wS, wSt, wN, wA, wAn, hN, h1, h2, h3, h4, cS, cN, cA, unzig_zig], hb⟩
  · have hH : hdr fl rS rSt rSS ns lb an = fl :: ([zig rSt, zig rSS, ns % 4294967296] : List Int).flatMap enc := by simp [hdr, seg, h1, h2, h3, h4]
    have hN : (hdr fl rS rSt rSS ns lb an).length = qAt [zig rSt, zig rSS, ns % 4294967296] 3 := by rw [hH]; simp [qAt]; omega
    rw [hH] at hag hle
    have C := fun k hk => reads_of (cap := cap) hbw hlm hc hr (chain [zig rSt, zig rSS, ns % 4294967296] (by intro v hv; simp at hv; omega) zs len fl hle hag k hk)
    refine (codec_fttf sec line series secStep step b off len cap fl (zig rSt) (zig rSS) (ns % 4294967296) (qAt [zig rSt, zig rSS, ns % 4294967296]) w hbw hlen hlm hc0 (C 0 (by simp)) (C 1 (by simp)) (C 2 (by simp)) (by rw [← hN, hH]; exact hle) (by omega) (by omega) h1 h2 h3 h4).mono ?_
    rintro e w' ⟨rfl, hb⟩
    exact ⟨by simp [placed, outV, wS, wSt, wN, wA, wAn, hN, h1, h2, h3, h4, cS, cN, cA, unzig_zig], hb⟩
  · have hH : hdr fl rS rSt rSS ns lb an = fl :: ([zig rSt, zig rSS, ns % 4294967296, lb, an % 4294967296] : List Int).flatMap enc := by simp [hdr, seg, h1, h2, h3, h4]
    have hN : (hdr fl rS rSt rSS ns lb an).length = qAt [zig rSt, zig rSS, ns % 4294967296, lb, an % 4294967296] 5 := by rw [hH]; simp [qAt]; omega
    rw [hH] at hag hle
    have C := fun k hk => reads_of (cap := cap) hbw hlm hc hr (chain [zig rSt, zig rSS, ns % 4294967296, lb, an % 4294967296] (by intro v hv; simp at hv; omega) zs len fl hle hag k hk)
    refine (codec_fttt sec line series secStep step b off len cap fl (zig rSt) (zig rSS) (ns % 4294967296) (lb) (an % 4294967296) (qAt [zig rSt, zig rSS, ns % 4294967296, lb, an % 4294967296]) w hbw hlen hlm hc0 (C 0 (by simp)) (C 1 (by simp)) (C 2 (by simp)) (C 3 (by simp)) (C 4 (by simp)) (by rw [← hN, hH]; exact hle) (by omega) (by omega) h1 h2 h3 h4).mono ?_
    rintro e w' ⟨rfl, hb⟩
    exact ⟨by simp [placed, outV, wS, wSt, wN, wA, wAn, hN, h1, h2, h3, h4, cS, cN, cA, unzig_zig], hb⟩
  · have hH : hdr fl rS rSt rSS ns lb an = fl :: ([rS % 18446744073709551616] : List Int).flatMap enc := by simp [hdr, seg, h1, h2, h3, h4]
    have hN : (hdr fl rS rSt rSS ns lb an).length = qAt [rS % 18446744073709551616] 1 := by rw [hH]; simp [qAt]; omega
    rw [hH] at hag hle
    have C := fun k hk => reads_of (cap := cap) hbw hlm hc hr (chain [rS % 18446744073709551616] (by intro v hv; simp at hv; omega) zs len fl hle hag k hk)
    refine (codec_tfff sec line series secStep step b off len cap fl (rS % 18446744073709551616) (qAt [rS % 18446744073709551616]) w hbw hlen hlm hc0 (C 0 (by simp)) (by rw [← hN, hH]; exact hle)  h1 h2 h3 h4).mono ?_
    rintro e w' ⟨rfl, hb⟩
    exact ⟨by simp [placed, outV, wS, wSt, wN, wA, wAn, hN, h1, h2, h3, h4, cS, cN, cA, unzig_zig], hb⟩
  · have hH : hdr fl rS rSt rSS ns lb an = fl :: ([rS % 18446744073709551616, lb] : List Int).flatMap enc := by simp [hdr, seg, h1, h2, h3, h4]
    have hN : (hdr fl rS rSt rSS ns lb an).length = qAt [rS % 18446744073709551616, lb] 2 := by rw [hH]; simp [qAt]; omega
    rw [hH] at hag hle
    have C := fun k hk => reads_of (cap := cap) hbw hlm hc hr (chain [rS % 18446744073709551616, lb] (by intro v hv; simp at hv; omega) zs len fl hle hag k hk)
    refine (codec_tfft sec line series secStep step b off len cap fl (rS % 18446744073709551616) (lb) (qAt [rS % 18446744073709551616, lb]) w hbw hlen hlm hc0 (C 0 (by simp)) (C 1 (by simp)) (by rw [← hN, hH]; exact hle)  h1 h2 h3 h4).mono ?_
    rintro e w' ⟨rfl, hb⟩
    exact ⟨by simp [placed, outV, wS, wSt, wN, wA, wAn, hN, h1, h2, h3, h4, cS, cN, cA, unzig_zig], hb⟩
  · have hH : hdr fl rS rSt rSS ns lb an = fl :: ([rS % 18446744073709551616, ns % 4294967296] : List Int).flatMap enc := by simp [hdr, seg, h1, h2, h3, h4]
    have hN : (hdr fl rS rSt rSS ns lb an).length = qAt [rS % 18446744073709551616, ns % 4294967296] 2 := by rw [hH]; simp [qAt]; omega
    rw [hH] at hag hle
    have C := fun k hk => reads_of (cap := cap) hbw hlm hc hr (chain [rS % 18446744073709551616, ns % 4294967296] (by intro v hv; simp at hv; omega) zs len fl hle hag k hk)
    refine (codec_tftf sec line series secStep step b off len cap fl (rS % 18446744073709551616) (ns % 4294967296) (qAt [rS % 18446744073709551616, ns % 4294967296]) w hbw hlen hlm hc0 (C 0 (by simp)) (C 1 (by simp)) (by rw [← hN, hH]; exact hle)  h1 h2 h3 h4).mono ?_
    rintro e w' ⟨rfl, hb⟩
    exact ⟨by simp [placed, outV, wS, wSt, wN, wA, wAn, hN, h1, h2, h3, h4, cS, cN, cA, unzig_zig], hb⟩
  · have hH : hdr fl rS rSt rSS ns lb an = fl :: ([rS % 18446744073709551616, ns % 4294967296, lb, an % 4294967296] : List Int).flatMap enc := by simp [hdr, seg, h1, h2, h3, h4]
    have hN : (hdr fl rS rSt rSS ns lb an).length = qAt [rS % 18446744073709551616, ns % 4294967296, lb, an % 4294967296] 4 := by rw [hH]; simp [qAt]; omega
    rw [hH] at hag hle
    have C := fun k hk => reads_of (cap := cap) hbw hlm hc hr (chain [rS % 18446744073709551616, ns % 4294967296, lb, an % 4294967296] (by intro v hv; simp at hv; omega) zs len fl hle hag k hk)
    refine (codec_tftt sec line series secStep step b off len cap fl (rS % 18446744073709551616) (ns % 4294967296) (lb) (an % 4294967296) (qAt [rS % 18446744073709551616, ns % 4294967296, lb, an % 4294967296]) w hbw hlen hlm hc0 (C 0 (by simp)) (C 1 (by simp)) (C 2 (by simp)) (C 3 (by simp)) (by rw [← hN, hH]; exact hle)  h1 h2 h3 h4).mono ?_
    rintro e w' ⟨rfl, hb⟩
    exact ⟨by simp [placed, outV, wS, wSt, wN, wA, wAn, hN, h1, h2, h3, h4, cS, cN, cA, unzig_zig], hb⟩
  · have hH : hdr fl rS rSt rSS ns lb an = fl :: ([rS % 18446744073709551616, zig rSt, zig rSS] : List Int).flatMap enc := by simp [hdr, seg, h1, h2, h3, h4]
    have hN : (hdr fl rS rSt rSS ns lb an).length = qAt [rS % 18446744073709551616, zig rSt, zig rSS] 3 := by rw [hH]; simp [qAt]; omega
    rw [hH] at hag hle
    have C := fun k hk => reads_of (cap := cap) hbw hlm hc hr (chain [rS % 18446744073709551616, zig rSt, zig rSS] (by intro v hv; simp at hv; omega) zs len fl hle hag k hk)
    refine (codec_ttff sec line series secStep step b off len cap fl (rS % 18446744073709551616) (zig rSt) (zig rSS) (qAt [rS % 18446744073709551616, zig rSt, zig rSS]) w hbw hlen hlm hc0 (C 0 (by simp)) (C 1 (by simp)) (C 2 (by simp)) (by rw [← hN, hH]; exact hle) (by omega) (by omega) h1 h2 h3 h4).mono ?_
    rintro e w' ⟨rfl, hb⟩
    exact ⟨by simp [placed, outV, wS, wSt, wN, wA, wAn, hN, h1, h2, h3, h4, cS, cN, cA, unzig_zig], hb⟩
  · have hH : hdr fl rS rSt rSS ns lb an = fl :: ([rS % 18446744073709551616, zig rSt, zig rSS, lb] : List Int).flatMap enc := by simp [hdr, seg, h1, h2, h3, h4]
    have hN : (hdr fl rS rSt rSS ns lb an).length = qAt [rS % 18446744073709551616, zig rSt, zig rSS, lb] 4 := by rw [hH]; simp [qAt]; omega
    rw [hH] at hag hle
    have C := fun k hk => reads_of (cap := cap) hbw hlm hc hr (chain [rS % 18446744073709551616, zig rSt, zig rSS, lb] (by intro v hv; simp at hv; omega) zs len fl hle hag k hk)
    refine (codec_ttft sec line series secStep step b off len cap fl (rS % 18446744073709551616) (zig rSt) (zig rSS) (lb) (qAt [rS % 18446744073709551616, zig rSt, zig rSS, lb]) w hbw hlen hlm hc0 (C 0 (by simp)) (C 1 (by simp)) (C 2 (by simp)) (C 3 (by simp)) (by rw [← hN, hH]; exact hle) (by omega) (by omega) h1 h2 h3 h4).mono ?_
    rintro e w' ⟨rfl, hb⟩
    exact ⟨by simp [placed, outV, wS, wSt, wN, wA, wAn, hN, h1, h2, h3, h4, cS, cN, cA, unzig_zig], hb⟩
  · have hH : hdr fl rS rSt rSS ns lb an = fl :: ([rS % 18446744073709551616, zig rSt, zig rSS, ns % 4294967296] : List Int).flatMap enc := by simp [hdr, seg, h1, h2, h3, h4]
    have hN : (hdr fl rS rSt rSS ns lb an).length = qAt [rS % 18446744073709551616, zig rSt, zig rSS, ns % 4294967296] 4 := by rw [hH]; simp [qAt]; omega
    rw [hH] at hag hle
    have C := fun k hk => reads_of (cap := cap) hbw hlm hc hr (chain [rS % 18446744073709551616, zig rSt, zig rSS, ns % 4294967296] (by intro v hv; simp at hv; omega) zs len fl hle hag k hk)
    refine (codec_tttf sec line series secStep step b off len cap fl (rS % 18446744073709551616) (zig rSt) (zig rSS) (ns % 4294967296) (qAt [rS % 18446744073709551616, zig rSt, zig rSS, ns % 4294967296]) w hbw hlen hlm hc0 (C 0 (by simp)) (C 1 (by simp)) (C 2 (by simp)) (C 3 (by simp)) (by rw [← hN, hH]; exact hle) (by omega) (by omega) h1 h2 h3 h4).mono ?_
    rintro e w' ⟨rfl, hb⟩
    exact ⟨by simp [placed, outV, wS, wSt, wN, wA, wAn, hN, h1, h2, h3, h4, cS, cN, cA, unzig_zig], hb⟩
  · have hH : hdr fl rS rSt rSS ns lb an = fl :: ([rS % 18446744073709551616, zig rSt, zig rSS, ns % 4294967296, lb, an % 4294967296] : List Int).flatMap enc := by simp [hdr, seg, h1, h2, h3, h4]
    have hN : (hdr fl rS rSt rSS ns lb an).length = qAt [rS % 18446744073709551616, zig rSt, zig rSS, ns % 4294967296, lb, an % 4294967296] 6 := by rw [hH]; simp [qAt]; omega
    rw [hH] at hag hle
    have C := fun k hk => reads_of (cap := cap) hbw hlm hc hr (chain [rS % 18446744073709551616, zig rSt, zig rSS, ns % 4294967296, lb, an % 4294967296] (by intro v hv; simp at hv; omega) zs len fl hle hag k hk)
    refine (codec_tttt sec line series secStep step b off len cap fl (rS % 18446744073709551616) (zig rSt) (zig rSS) (ns % 4294967296) (lb) (an % 4294967296) (qAt [rS % 18446744073709551616, zig rSt, zig rSS, ns % 4294967296, lb, an % 4294967296]) w hbw hlen hlm hc0 (C 0 (by simp)) (C 1 (by simp)) (C 2 (by simp)) (C 3 (by simp)) (C 4 (by simp)) (C 5 (by simp)) (by rw [← hN, hH]; exact hle) (by omega) (by omega) h1 h2 h3 h4).mono ?_
    rintro e w' ⟨rfl, hb⟩
    exact ⟨by simp [placed, outV, wS, wSt, wN, wA, wAn, hN, h1, h2, h3, h4, cS, cN, cA, unzig_zig], hb⟩
end Go.Proofs.Qxb6000020a
