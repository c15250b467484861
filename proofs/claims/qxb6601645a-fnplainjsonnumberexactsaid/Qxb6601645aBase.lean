/-
  SHARED BY THIS SEAT's LAWS: bytes of a text, runs of positions, pjb1IsDigit, pjb1IsSpace, pjb1SkipSpace.
-/
import Derived.Test.Qxb6601645aRows
import Derived.WalkKit
import Derived.ProofKit
import Derived.OpenShut
import Derived.ShutString
import Derived.Below
import Derived.Deep.QuietTactic
import Derived.BigQuiet
namespace Go.Proofs.Qxb6601645a.Base
open Go.RowKit

theorem hide {p : Prop} (h : p) : Hid p := h

/-- the byte at position t, 0 past the end -/
def bt (s : ByteArray) (t : Nat) : Int := if h : t < s.size then (s[t].toNat : Int) else 0
theorem bt_eq {s : ByteArray} {t : Nat} (h : t < s.size) : bt s t = (s[t].toNat : Int) := by simp [bt, h]
theorem bt_bd (s : ByteArray) (t : Nat) : 0 ≤ bt s t ∧ bt s t ≤ 255 := by
  unfold bt
  split
  · have := s[t].toNat_lt; omega
  · omega

def isDg (c : Int) : Bool := decide (48 ≤ c ∧ c ≤ 57)
def isSp (c : Int) : Bool := decide (c = 32 ∨ c = 9 ∨ c = 10 ∨ c = 13)
/-- from i on, j is the first position below n at which p fails, or n -/
def Run (p : Nat → Bool) (i n j : Nat) : Prop := i ≤ j ∧ j ≤ n ∧ (∀ t, i ≤ t → t < j → p t = true) ∧ (j < n → p j = false)

theorem Run.same {p : Nat → Bool} {i n j j' : Nat} (h : Run p i n j) (h' : Run p i n j') : j = j' := by
  obtain ⟨a1, a2, a3, a4⟩ := h
  obtain ⟨b1, b2, b3, b4⟩ := h'
  rcases Nat.lt_trichotomy j j' with hlt | he | hgt
  · have := a4 (by omega); have := b3 j a1 hlt; simp_all
  · exact he
  · have := b4 (by omega); have := a3 j' b1 hgt; simp_all

theorem all_step {p : Nat → Bool} {i k : Nat} (h : ∀ t, i ≤ t → t < k → p t = true) (hk : p k = true) : ∀ t, i ≤ t → t < k + 1 → p t = true := fun t h1 h2 => by
  by_cases e : t = k
  · rw [e]; exact hk
  · exact h t h1 (by omega)

set_option maxHeartbeats 400000 in
theorem digit_any (c : Int) (w : World) : Calls Try.prog 18 #[.int .u8 c] w fun e w' => e = .returned (.bool (isDg c)) ∧ w' = w := by
  by_cases h1 : 48 ≤ c
  · by_cases h2 : c ≤ 57
    · have HD : Hid (isDg c = true) := by simp [Hid, isDg, h1, h2]
      go_enter Try.func18, Try.ntmps18
      go_wp2
      go_ret
      exact ⟨by rw [HD.out]; rfl, rfl⟩
    · have HD : Hid (isDg c = false) := by simp [Hid, isDg, h2]
      have h2' : decide (c ≤ 57) = false := by simpa using h2
      go_enter Try.func18, Try.ntmps18
      go_wp2
      go_ret
      exact ⟨by rw [HD.out]; rfl, rfl⟩
  · have HD : Hid (isDg c = false) := by simp [Hid, isDg, h1]
    go_enter Try.func18, Try.ntmps18
    go_wp2
    go_ret
    exact ⟨by rw [HD.out]; rfl, rfl⟩

set_option maxHeartbeats 400000 in
theorem space_any (c : Int) (w : World) : Calls Try.prog 28 #[.int .u8 c] w fun e w' => e = .returned (.bool (isSp c)) ∧ w' = w := by
  have HS : Hid (isSp c = (((c == 32 || c == 9) || c == 10) || c == 13)) := by
    rw [Hid, Bool.eq_iff_iff]; simp [isSp, or_assoc]
  go_enter Try.func28, Try.ntmps28
  go_wp2
  all_goals
    go_ret
    refine ⟨?_, rfl⟩
    rw [HS.out]
  all_goals simp [*]

set_option maxHeartbeats 400000 in
theorem skip_any (s : ByteArray) (i : Nat) (w : World) (hs : s.size ≤ 1048576) (hi : i ≤ s.size) :
    Calls Try.prog 22 #[.string s, .int .i64 i] w fun e w' => ∃ j : Nat, e = .returned (.int .i64 j) ∧ Run (fun t => isSp (bt s t)) i s.size j ∧ w' = w := by
  go_enter Try.func22, Try.ntmps22
  go_wp2
  go_loop [1] (fun j => ∃ k : Nat, k ≤ s.size ∧ i ≤ k ∧ j = .int .i64 k ∧ ∀ t, i ≤ t → t < k → isSp (bt s t) = true) (fun j => s.size - (intOf j).toNat)
  case atStart => exact ⟨i, hi, Nat.le_refl _, rfl, fun t h1 h2 => by omega⟩
  case round =>
    obtain ⟨k, hk, hik, rfl, hall⟩ := hrel
    have HA := hide hall
    clear hall
    by_cases hlt : k < s.size
    · have hb := bt_eq hlt
      by_cases hp : isSp (bt s k) = true
      · have HS := hide (all_step HA.out hp)
        rw [hb] at hp
        clear hb
        go_wp2_with (go_at_call 28; refine (space_any _ _).mono ?_; rintro e w ⟨rfl, rfl⟩)
        go_round
        case rel => exact ⟨k + 1, by omega, by omega, by go_num, HS.out⟩
        case measure => simp [intOf]; omega
      · have hp' : isSp (bt s k) = false := by simpa using hp
        have HR : Hid (Run (fun t => isSp (bt s t)) i s.size k) := ⟨hik, hk, HA.out, fun _ => hp'⟩
        rw [hb] at hp'
        clear hb hp
        go_wp2_with (go_at_call 28; refine (space_any _ _).mono ?_; rintro e w ⟨rfl, rfl⟩)
        go_ret
        exact ⟨k, rfl, HR.out, rfl⟩
    · have HR : Hid (Run (fun t => isSp (bt s t)) i s.size k) := ⟨hik, hk, HA.out, fun h => absurd h hlt⟩
      go_wp2
      go_ret
      exact ⟨k, rfl, HR.out, rfl⟩
end Go.Proofs.Qxb6601645a.Base
