/-
  THE CALLEES OF FnHasMarkerSumSpec: zzBytes_FnHasMarkerSumSpec, hasMarker, ZZHasMarker.
-/
import Derived.Test.Qxb6002606aBase
namespace Go.Proofs.Qxb6002606a.Base
open Go.RowKit

/-- the first 16 octets are all 255 -/
def mk (zs : List Int) : Bool := (zs.take 16).all (fun c => c == 255)

theorem mk_false {zs : List Int} {k : Nat} (hk : k < 16) (hl : 16 ≤ zs.length) (h : zs.getD k 0 ≠ 255) : mk zs = false := by
  unfold mk
  rw [List.all_eq_false]
  refine ⟨(zs.take 16)[k]'(by simp; omega), List.getElem_mem _, ?_⟩
  have hkl : k < zs.length := by omega
  simpa [hkl] using h

theorem mk_true {zs : List Int} (hl : 16 ≤ zs.length) (h : ∀ j, j < 16 → zs.getD j 0 = 255) : mk zs = true := by
  unfold mk
  rw [List.all_eq_true]
  intro c hc
  obtain ⟨j, hj, rfl⟩ := List.getElem_of_mem hc
  have := h j (by simp at hj; omega)
  have hkl : j < zs.length := by simp at hj; omega
  simpa [hkl] using this

set_option maxHeartbeats 400000 in
theorem hasMarker_any (b off len cap : Nat) (zs : List Int) (w : World) (hz : 16 ≤ zs.length) (hl : 16 ≤ len) (hlc : len ≤ cap) (hcm : cap ≤ 1048576)
    (hc : ∀ i, i < 16 → w.cell? ⟨b, off + i, none⟩ = some (.int .u8 (zs.getD i 0))) :
    Calls Try.prog 24 #[.slice (some ⟨b, off, none⟩) len cap] w fun e w' => e = .returned (.bool (mk zs)) ∧ w' = w := by
  have HC : Hid (∀ i, i < 16 → w.cell? ⟨b, off + i, none⟩ = some (.int .u8 (zs.getD i 0))) := hc
  clear hc
  go_enter Try.func24, Try.ntmps24
  go_wp2
  go_loop [8] (fun i => ∃ k : Nat, k ≤ 16 ∧ i = .int .i64 k ∧ ∀ j, j < k → zs.getD j 0 = 255) (fun i => 16 - (intOf i).toNat)
  case atStart => exact ⟨0, by omega, rfl, fun j h => by omega⟩
  case round =>
    obtain ⟨k, hk, rfl, hall⟩ := hrel
    by_cases hlt : k < 16
    · have hcell := HC.out k hlt
      have HA : Hid (∀ j, j < k → zs.getD j 0 = 255) := hall
      clear hall
      by_cases h255 : zs.getD k 0 = 255
      · rw [h255] at hcell
        go_wp2
        go_round
        case rel => exact ⟨k + 1, by omega, by go_num, fun j hj => by
          by_cases e : j = k
          · rw [e]; exact h255
          · exact HA.out j (by omega)⟩
        case measure => simp [intOf]; omega
      · have HF : Hid (mk zs = false) := mk_false hlt hz h255
        obtain ⟨c, hcc⟩ : ∃ c, c = zs.getD k 0 := ⟨_, rfl⟩
        rw [← hcc] at hcell h255
        have h2 : (c != 255) = true := by simpa using h255
        clear hcc h255
        go_wp2
        go_ret
        exact ⟨by rw [HF.out]; rfl, rfl⟩
    · have HT : Hid (mk zs = true) := mk_true hz (fun j hj => hall j (by omega))
      clear hall
      go_wp2
      go_ret
      exact ⟨by rw [HT.out]; rfl, rfl⟩

set_option maxHeartbeats 400000 in
theorem zzHasMarker_any (b off len cap : Nat) (zs : List Int) (w : World) (hz : 16 ≤ zs.length) (hl : 16 ≤ len) (hlc : len ≤ cap) (hcm : cap ≤ 1048576)
    (hc : ∀ i, i < 16 → w.cell? ⟨b, off + i, none⟩ = some (.int .u8 (zs.getD i 0))) :
    Calls Try.prog 15 #[.slice (some ⟨b, off, none⟩) len cap] w fun e w' => e = .returned (.bool (mk zs)) ∧ w' = w := by
  go_enter Try.func15, Try.ntmps15
  go_wp2_with (go_at_call 24; refine (hasMarker_any _ _ _ _ zs _ hz hl hlc hcm hc).mono ?_; rintro e w' ⟨rfl, rfl⟩)
  go_ret
  exact ⟨rfl, rfl⟩

set_option maxHeartbeats 400000 in
theorem bytes14_yes (a : Option Addr) (len cap : Nat) (w : World) (hl : len ≤ 1048576) :
    Calls Try.prog 14 #[.slice a len cap] w fun e w' => e = .returned (.bool true) ∧ w' = w := by
  go_enter Try.func14, Try.ntmps14
  go_wp2
  go_ret
  exact ⟨rfl, rfl⟩
set_option maxHeartbeats 400000 in
theorem bytes14_no (a : Option Addr) (len cap : Nat) (w : World) (hl : ¬ len ≤ 1048576) :
    Calls Try.prog 14 #[.slice a len cap] w fun e w' => e = .returned (.bool false) ∧ w' = w := by
  go_enter Try.func14, Try.ntmps14
  go_wp2
  go_ret
  exact ⟨rfl, rfl⟩
end Go.Proofs.Qxb6002606a.Base
