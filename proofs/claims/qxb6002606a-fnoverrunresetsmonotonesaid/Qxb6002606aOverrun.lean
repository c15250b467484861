/-
  THE CALLEES OF FnOverrunResetsMonotone: zzBytes_.., attrHeaderLen, overrunResets and their exports.
-/
import Derived.Test.Qxb6002606aBase
namespace Go.Proofs.Qxb6002606a.Base
open Go.RowKit

/-- the Extended Length bit -/
def xt (c : Int) : Bool := bits .and .u8 c 16 != 0
/-- the header's length -/
def hln (c : Int) : Int := if xt c = true then 4 else 3
theorem hln_or (c : Int) : hln c = 3 ∨ hln c = 4 := by unfold hln; split <;> simp

set_option maxHeartbeats 400000 in
theorem ahl_any (c : Int) (w : World) : Calls Try.prog 23 #[.int .u8 c] w fun e w' => e = .returned (.int .i64 (hln c)) ∧ w' = w := by
  by_cases h : xt c = true
  · have HL : Hid (hln c = 4) := by simp [Hid, hln, h]
    unfold xt at h
    go_enter Try.func23, Try.ntmps23
    go_wp2
    go_ret
    exact ⟨by rw [HL.out]; rfl, rfl⟩
  · have HL : Hid (hln c = 3) := by simp [Hid, hln, h]
    have h' : (bits .and .u8 c 16 != 0) = false := by simpa [xt] using h
    go_enter Try.func23, Try.ntmps23
    go_wp2
    go_ret
    exact ⟨by rw [HL.out]; rfl, rfl⟩

set_option maxHeartbeats 400000 in
theorem zzahl_any (c : Int) (w : World) : Calls Try.prog 13 #[.int .u8 c] w fun e w' => e = .returned (.int .i64 (hln c)) ∧ w' = w := by
  go_enter Try.func13, Try.ntmps13
  go_wp2_with (go_at_call 23; refine (ahl_any _ _).mono ?_; rintro e w ⟨rfl, rfl⟩)
  go_ret
  exact ⟨rfl, rfl⟩

/-- the second octet is 14 or 15 -/
def mpp (zs : List Int) : Bool := decide (2 ≤ zs.length) && (zs.getD 1 0 == 14 || zs.getD 1 0 == 15)
/-- what overrunResets answers -/
def orr (zs : List Int) (read : Bool) : Bool := mpp zs || (!read && decide (hln (zs.getD 0 0) ≤ zs.length))

set_option maxHeartbeats 800000 in
theorem or_any (g len cap : Nat) (zs : List Int) (r : Bool) (w : World) (hz : zs.length = len) (h1 : 1 ≤ len) (hl : len ≤ 1048576)
    (hc : ∀ i, i < len → w.cell? ⟨g, i, none⟩ = some (.int .u8 (zs.getD i 0))) :
    Calls Try.prog 22 #[.slice (some ⟨g, 0, none⟩) len cap, .bool r] w fun e w' => e = .returned (.bool (orr zs r)) ∧ w' = w := by
  have hc0 := hc 0 (by omega)
  obtain ⟨c0, hc0e⟩ : ∃ c, c = zs.getD 0 0 := ⟨_, rfl⟩
  by_cases h2 : 2 ≤ len
  · have hc1 := hc 1 (by omega)
    obtain ⟨c1, hc1e⟩ : ∃ c, c = zs.getD 1 0 := ⟨_, rfl⟩
    have HO : Hid (orr zs r = ((c1 == 14 || c1 == 15) || (!r && decide (hln c0 ≤ len)))) := by
      simp only [Hid, orr, mpp, hz, h2, decide_true, Bool.true_and, ← hc0e, ← hc1e]
    rw [← hc0e] at hc0
    rw [← hc1e] at hc1
    clear hc0e hc1e hc
    by_cases e14 : (c1 == 14) = true
    · have : c1 = 14 := by simpa using e14
      subst this
      go_enter Try.func22, Try.ntmps22
      go_wp2
      go_ret
      exact ⟨by rw [HO.out]; simp, rfl⟩
    · have f14 : (c1 == 14) = false := by simpa using e14
      by_cases e15 : (c1 == 15) = true
      · have : c1 = 15 := by simpa using e15
        subst this
        go_enter Try.func22, Try.ntmps22
        go_wp2
        go_ret
        exact ⟨by rw [HO.out]; simp, rfl⟩
      · have f15 : (c1 == 15) = false := by simpa using e15
        have HO' : Hid (orr zs r = (!r && decide (hln c0 ≤ len))) := by simp [Hid, HO.out, f14, f15]
        clear HO e14 e15
        cases r
        · go_enter Try.func22, Try.ntmps22
          go_wp2_with (go_at_call 23; refine (ahl_any _ _).mono ?_; rintro e w ⟨rfl, rfl⟩)
          go_ret
          exact ⟨by rw [HO'.out]; simp, rfl⟩
        · go_enter Try.func22, Try.ntmps22
          go_wp2
          go_ret
          exact ⟨by rw [HO'.out]; simp, rfl⟩
  · have hl1 : len = 1 := by omega
    subst hl1
    have HO : Hid (orr zs r = (!r && decide (hln c0 ≤ 1))) := by
      simp only [Hid, orr, mpp, hz, ← hc0e]
      simp
    rw [← hc0e] at hc0
    clear hc0e hc
    cases r
    · go_enter Try.func22, Try.ntmps22
      go_wp2_with (go_at_call 23; refine (ahl_any _ _).mono ?_; rintro e w ⟨rfl, rfl⟩)
      go_ret
      exact ⟨by rw [HO.out]; simp, rfl⟩
    · go_enter Try.func22, Try.ntmps22
      go_wp2
      go_ret
      exact ⟨by rw [HO.out]; simp, rfl⟩

set_option maxHeartbeats 400000 in
theorem zzor_any (g len cap : Nat) (zs : List Int) (r : Bool) (w : World) (hz : zs.length = len) (h1 : 1 ≤ len) (hl : len ≤ 1048576)
    (hc : ∀ i, i < len → w.cell? ⟨g, i, none⟩ = some (.int .u8 (zs.getD i 0))) :
    Calls Try.prog 12 #[.slice (some ⟨g, 0, none⟩) len cap, .bool r] w fun e w' => e = .returned (.bool (orr zs r)) ∧ w' = w := by
  go_enter Try.func12, Try.ntmps12
  go_wp2_with (go_at_call 22; refine (or_any _ _ _ zs _ _ hz h1 hl hc).mono ?_; rintro e w ⟨rfl, rfl⟩)
  go_ret
  exact ⟨rfl, rfl⟩

set_option maxHeartbeats 400000 in
theorem bytes10_yes (a b : Option Addr) (l c m d : Nat) (w : World) (hl : l + m ≤ 1048576) :
    Calls Try.prog 10 #[.slice a l c, .slice b m d] w fun e w' => e = .returned (.bool true) ∧ w' = w := by
  go_enter Try.func10, Try.ntmps10
  go_wp2
  go_ret
  exact ⟨rfl, rfl⟩
set_option maxHeartbeats 400000 in
theorem bytes10_no (a b : Option Addr) (l c m d : Nat) (w : World) (hl : ¬ l + m ≤ 1048576) (h1 : l ≤ maxLen) (h2 : m ≤ maxLen) :
    Calls Try.prog 10 #[.slice a l c, .slice b m d] w fun e w' => e = .returned (.bool false) ∧ w' = w := by
  unfold maxLen at h1 h2
  by_cases hA : l ≤ 1048576
  · by_cases hB : m ≤ 1048576
    · go_enter Try.func10, Try.ntmps10
      go_wp2
      go_ret
      exact ⟨rfl, rfl⟩
    · go_enter Try.func10, Try.ntmps10
      go_wp2
      go_ret
      exact ⟨rfl, rfl⟩
  · go_enter Try.func10, Try.ntmps10
    go_wp2
    go_ret
    exact ⟨rfl, rfl⟩
end Go.Proofs.Qxb6002606a.Base
