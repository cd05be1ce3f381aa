import Derived.Test.YbulkbtyaKit
import Derived.Laws.BitsAllLaws
import Derived.Laws.DeepBits32
set_option linter.unusedVariables false
namespace Go.Proofs.Ybulkbtya
open Go.RowKit

theorem u64_and_top (n : Nat) (h : n < 1073741824) : bits .and .u64 (n : Int) 9223372036854775808 = 0 := by
  show IntKind.u64.wrap ((BitVec.ofInt 64 (n : Int) &&& BitVec.ofInt 64 9223372036854775808).toNat : Int) = _
  have h1 : (BitVec.ofInt 64 9223372036854775808).toNat = 2 ^ 63 := by decide
  have h2 : (BitVec.ofInt 64 (n : Int)).toNat = n := by
    rw [BitVec.toNat_ofInt]
    simp
    omega
  rw [BitVec.toNat_and, h1, h2]
  have : n &&& 2 ^ 63 = 0 := by
    apply Nat.eq_of_testBit_eq
    intro i
    rw [Nat.testBit_and, Nat.testBit_two_pow]
    by_cases hi : 63 = i
    · subst hi
      simp [Nat.testBit_lt_two_pow (show n < 2 ^ 63 by omega)]
    · simp [hi]
  rw [this]
  rfl

theorem u64_or_zero (n : Nat) (h : n < 1000000000) : bits .or .u64 0 (n : Int) = (n : Int) := by
  show IntKind.u64.wrap ((BitVec.ofInt 64 0 ||| BitVec.ofInt 64 (n : Int)).toNat : Int) = _
  have h2 : (BitVec.ofInt 64 (n : Int)).toNat = n := by
    rw [BitVec.toNat_ofInt]
    simp
    omega
  rw [BitVec.toNat_or, h2, show (BitVec.ofInt 64 0).toNat = 0 from rfl, Nat.zero_or]
  show (n : Int) % 18446744073709551616 = n
  omega

theorem nsec_zero (b : Nat) (w : World) (h : w.cell? ⟨b, 0, none⟩ = some (.int .u64 0)) :
    Calls Yba.prog 17 #[.pointer (some ⟨b, 0, none⟩)] w fun e w' => e = .returned (.int .i32 0) ∧ w' = w := by
  have hb : bits .and .u64 0 1073741823 = 0 := by decide
  go_enter Yba.func17, Yba.ntmps17
  go_wp2
  go_ret
  exact ⟨rfl, rfl⟩

set_option maxRecDepth 100000 in
theorem addSec_any (b n : Nat) (d : Int) (w : World) (hn : n < 1073741824) (h0 : w.cell? ⟨b, 0, none⟩ = some (.int .u64 (n : Int))) (h1 : w.cell? ⟨b, 1, none⟩ = some (.int .i64 0)) (hf : w.frozen? ⟨b, 1, none⟩ = false)
    (hd1 : -9223372036854775808 ≤ d) (hd2 : d ≤ 9223372036854775807) :
    Calls Yba.prog 18 #[.pointer (some ⟨b, 0, none⟩), .int .i64 d] w fun e w' => e = .returned (.tuple #[]) ∧ w' = w.setCell ⟨b, 1, none⟩ (.int .i64 d) := by
  have ht := u64_and_top n hn
  have hw : wrap64 d = d := by unfold wrap64; omega
  go_enter Yba.func18, Yba.ntmps18
  go_wp2
  go_end0
  exact ⟨rfl, rfl⟩

/-- time.Time{}.Add(d): the seconds, and the nanoseconds below them. -/
def tsec (d : Int) : Int := if d.tmod 1000000000 < 0 then d.tdiv 1000000000 - 1 else d.tdiv 1000000000
def tns (d : Int) : Nat := (if d.tmod 1000000000 < 0 then d.tmod 1000000000 + 1000000000 else d.tmod 1000000000).toNat
theorem tns_lt (d : Int) : tns d < 1000000000 := by
  have h1 := Int.tmod_lt_of_pos d (b := 1000000000) (by decide)
  unfold tns
  split <;> omega

set_option maxRecDepth 100000 in
set_option maxHeartbeats 1000000 in
theorem add_any (d : Int) (w : World) (hd1 : -9223372036854775808 ≤ d) (hd2 : d ≤ 9223372036854775807) :
    Calls Yba.prog 8 #[.agg #[.int .u64 0, .int .i64 0, .pointer none], .int .i64 d] w fun e w' => e = .returned (.agg #[.int .u64 (tns d : Int), .int .i64 (tsec d), .pointer none]) ∧ Chg (fun _ => False) w w' := by
  have e1 := Int.mul_tdiv_add_tmod d 1000000000
  have e2 := Int.tmod_lt_of_pos d (b := 1000000000) (by decide)
  have e3 := Int.lt_tmod_of_pos d (b := 1000000000) (by decide)
  have hr : wrap32 (d.tmod 1000000000) = d.tmod 1000000000 := by unfold wrap32; omega
  have hb0 : bits .andNot .u64 0 1073741823 = 0 := by decide
  have hta := u64_and_top (tns d) (by have := tns_lt d; omega)
  by_cases hneg : d.tmod 1000000000 < 0
  · have hq : tsec d = d.tdiv 1000000000 - 1 := if_pos hneg
    have ht : ((tns d : Nat) : Int) = d.tmod 1000000000 + 1000000000 := by unfold tns; rw [if_pos hneg]; omega
    have hd3 : decide (1000000000 ≤ d.tmod 1000000000) = false := by simp; omega
    have hd4 : decide (d.tmod 1000000000 < 0) = true := by simp; omega
    have hor : bits .or .u64 0 (d.tmod 1000000000 + 1000000000) = ((tns d : Nat) : Int) := by rw [← ht]; exact u64_or_zero _ (tns_lt d)
    clear ht
    go_enter Yba.func8, Yba.ntmps8
    go_wp2_with fail
    refine (nsec_zero _ _ ?_).mono ?_
    · simp [go_sem]
    rintro e w' ⟨rfl, rfl⟩
    go_wp2_with fail
    refine (addSec_any _ (tns d) _ _ (by have := tns_lt d; omega) ?_ ?_ ?_ (by omega) (by omega)).mono ?_
    · simp [go_sem]
    · simp [go_sem]
    · simp [go_sem]
    rintro e w' ⟨rfl, rfl⟩
    go_wp2_with fail
    refine bodyPost_ret (by simp [results, Yba.results8, go_sem]; try rfl) rfl ?_
    rw [hq]
    exact ⟨rfl, ((Chg.refl _ _).alloc _).alloc _⟩
  · have hq : tsec d = d.tdiv 1000000000 := if_neg hneg
    have ht : ((tns d : Nat) : Int) = d.tmod 1000000000 := by unfold tns; rw [if_neg hneg]; omega
    have hd3 : decide (1000000000 ≤ d.tmod 1000000000) = false := by simp; omega
    have hd4 : decide (d.tmod 1000000000 < 0) = false := by simp; omega
    have hor : bits .or .u64 0 (d.tmod 1000000000) = ((tns d : Nat) : Int) := by rw [← ht]; exact u64_or_zero _ (tns_lt d)
    clear ht
    go_enter Yba.func8, Yba.ntmps8
    go_wp2_with fail
    refine (nsec_zero _ _ ?_).mono ?_
    · simp [go_sem]
    rintro e w' ⟨rfl, rfl⟩
    go_wp2_with fail
    refine (addSec_any _ (tns d) _ _ (by have := tns_lt d; omega) ?_ ?_ ?_ (by omega) (by omega)).mono ?_
    · simp [go_sem]
    · simp [go_sem]
    · simp [go_sem]
    rintro e w' ⟨rfl, rfl⟩
    go_wp2_with fail
    refine bodyPost_ret (by simp [results, Yba.results8, go_sem]; try rfl) rfl ?_
    rw [hq]
    exact ⟨rfl, ((Chg.refl _ _).alloc _).alloc _⟩
end Go.Proofs.Ybulkbtya
