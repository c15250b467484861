/-
  THE CONTRACTS OF pjb1WholeNumber (where all that follows the sign are digits) AND pjb1ModelNumber.
-/
import Derived.Test.Qxb6601645aZz
namespace Go.Proofs.Qxb6601645a.Base
open Go.RowKit
/-- the digits' part is a number by the grammar -/
def okU (u : ByteArray) : Bool := !((u.size == 0) || ((bt u 0 == 48) && decide (1 < u.size)))

theorem okU_zero {u : ByteArray} (h : u.size = 0) : okU u = false := by simp only [okU, h]; rfl
theorem okU_one {u : ByteArray} (h : u.size = 1) : okU u = true := by simp only [okU, h]; simp
theorem okU_lead {u : ByteArray} (h : 1 < u.size) (hz : bt u 0 = 48) : okU u = false := by simp only [okU, hz, h]; simp
theorem okU_ok {u : ByteArray} (h : ¬ u.size = 0) (hz : ¬ bt u 0 = 48) : okU u = true := by
  have e1 : (u.size == 0) = false := beq_eq_false_iff_ne.mpr h
  have e2 : (bt u 0 == 48) = false := beq_eq_false_iff_ne.mpr hz
  simp only [okU, e1, e2]; rfl

set_option maxHeartbeats 1600000 in
theorem whole_pos (t : ByteArray) (w : World) (hs : t.size ≤ 1048576) (h45 : ¬ (0 < t.size ∧ bt t 0 = 45)) (hd : ∀ i, i < t.size → isDg (bt t i) = true) :
    Calls Try.prog 25 #[.string t] w fun e w' => e = .returned (.bool (okU t)) ∧ w' = w := by
  have HD := hide hd
  clear hd
  by_cases z0 : t.size = 0
  · have HO : Hid (okU t = false) := okU_zero (by omega)
    have e0 : ((t.size : Nat) : Int) == 0 := by rw [z0]; rfl
    have e0' : (((t.size : Nat) : Int) == 0) = true := e0
    have h0' : ¬ (0 : Int) < (t.size : Int) := by omega
    clear h45
    clear z0 e0
    go_enter Try.func25, Try.ntmps25
    go_wp2
    go_ret
    exact ⟨by rw [HO.out]; rfl, rfl⟩
  · have e0' : (((t.size : Nat) : Int) == 0) = false := beq_eq_false_iff_ne.mpr (by omega)
    have hlt0 : 0 < t.size := by omega
    have hb0 := bt_eq hlt0
    have hl0 : 0 < t.size := by omega
    by_cases z1 : t.size = 1
    · have HO : Hid (okU t = true) := okU_one (by omega)
      have e1' : (((t.size : Nat) : Int) == 1) = true := by rw [z1]; rfl
      have hdg := HD.out 0 hlt0
      rw [hb0] at hdg
      have h45' : ((t[0].toNat : Int) == 45) = false := by
        have : ¬ bt t 0 = 45 := fun e => h45 ⟨by omega, e⟩
        rw [bt_eq (by omega)] at this
        exact beq_eq_false_iff_ne.mpr this
      have h0' : (0 : Int) < (t.size : Int) := by omega
      clear h45
      clear z0 z1 hb0 HD
      go_enter Try.func25, Try.ntmps25
      go_wp2_with (go_at_call 18; refine (digit_any _ _).mono ?_; rintro e w ⟨rfl, rfl⟩)
      go_ret
      exact ⟨by rw [HO.out]; rfl, rfl⟩
    · have e1' : (((t.size : Nat) : Int) == 1) = false := beq_eq_false_iff_ne.mpr (by omega)
      have hdg := HD.out 0 hlt0
      simp only [isDg, decide_eq_true_eq] at hdg
      by_cases z48 : bt t 0 = 48
      · have HO : Hid (okU t = false) := okU_lead (by omega) z48
        have h49 : (t[0].toNat : Int) < 49 := by rw [← hb0, z48]; omega
        have h45' : ((t[0].toNat : Int) == 45) = false := by
          have : ¬ bt t 0 = 45 := fun e => h45 ⟨by omega, e⟩
          rw [bt_eq (by omega)] at this
          exact beq_eq_false_iff_ne.mpr this
        have h0' : (0 : Int) < (t.size : Int) := by omega
        clear h45
        clear z0 z1 hb0 HD hdg z48
        go_enter Try.func25, Try.ntmps25
        go_wp2
        go_ret
        exact ⟨by rw [HO.out]; rfl, rfl⟩
      · have HO : Hid (okU t = true) := okU_ok (by omega) z48
        have h49 : (49 : Int) ≤ (t[0].toNat : Int) := by rw [← hb0]; omega
        have h57 : (t[0].toNat : Int) ≤ 57 := by rw [← hb0]; omega
        have h45' : ((t[0].toNat : Int) == 45) = false := by
          have : ¬ bt t 0 = 45 := fun e => h45 ⟨by omega, e⟩
          rw [bt_eq (by omega)] at this
          exact beq_eq_false_iff_ne.mpr this
        have h0' : (0 : Int) < (t.size : Int) := by omega
        clear h45
        clear z0 hb0 hdg z48
        go_enter Try.func25, Try.ntmps25
        go_wp2
        go_loop [3] (fun i => ∃ k : Nat, 1 ≤ k ∧ k ≤ t.size ∧ i = .int .i64 k) (fun i => t.size - (intOf i).toNat)
        case atStart => exact ⟨1, by omega, by omega, rfl⟩
        case round =>
          obtain ⟨k, hk1, hk, rfl⟩ := hrel
          by_cases hlt : k < t.size
          · have hltU : k < t.size := by omega
            have hdk := HD.out k hltU
            rw [bt_eq hltU] at hdk
            have hlt' : (k : Int) < ((t.size : Nat) : Int) := by omega
            clear HD
            go_wp2_with (go_at_call 18; refine (digit_any _ _).mono ?_; rintro e w ⟨rfl, rfl⟩)
            go_round
            case rel => exact ⟨k + 1, by omega, by omega, by go_num⟩
            case measure => simp [intOf]; omega
          · have hlt' : ¬ (k : Int) < ((t.size : Nat) : Int) := by omega
            go_wp2
            go_ret
            exact ⟨by rw [HO.out]; rfl, rfl⟩

set_option maxHeartbeats 1600000 in
theorem whole_neg (t : ByteArray) (w : World) (hs : t.size ≤ 1048576) (h0 : 0 < t.size) (h45 : bt t 0 = 45) (hd : ∀ i, i < (t.extract 1 t.size).size → isDg (bt (t.extract 1 t.size) i) = true) :
    Calls Try.prog 25 #[.string t] w fun e w' => e = .returned (.bool (okU (t.extract 1 t.size))) ∧ w' = w := by
  have hUs : (t.extract 1 t.size).size = t.size - 1 := by simp
  have h0' : (0 : Int) < (t.size : Int) := by omega
  have h45' : ((t[0].toNat : Int) == 45) = true := by rw [← bt_eq h0, h45]; rfl
  clear h45
  have HD := hide hd
  clear hd
  by_cases z0 : (t.size - 1) = 0
  · have HO : Hid (okU (t.extract 1 t.size) = false) := okU_zero (by omega)
    have e0 : (((t.size - 1) : Nat) : Int) == 0 := by rw [z0]; rfl
    have e0' : ((((t.size - 1) : Nat) : Int) == 0) = true := e0
    clear z0 e0
    go_enter Try.func25, Try.ntmps25
    go_wp2
    go_ret
    exact ⟨by rw [HO.out]; rfl, rfl⟩
  · have e0' : ((((t.size - 1) : Nat) : Int) == 0) = false := beq_eq_false_iff_ne.mpr (by omega)
    have hlt0 : 0 < (t.extract 1 t.size).size := by omega
    have hb0 := bt_eq hlt0
    have hl0 : 0 < (t.size - 1) := by omega
    by_cases z1 : (t.size - 1) = 1
    · have HO : Hid (okU (t.extract 1 t.size) = true) := okU_one (by omega)
      have e1' : ((((t.size - 1) : Nat) : Int) == 1) = true := by rw [z1]; rfl
      have hdg := HD.out 0 hlt0
      rw [hb0] at hdg
      clear z0 z1 hb0 HD
      go_enter Try.func25, Try.ntmps25
      go_wp2_with (go_at_call 18; refine (digit_any _ _).mono ?_; rintro e w ⟨rfl, rfl⟩)
      go_ret
      exact ⟨by rw [HO.out]; rfl, rfl⟩
    · have e1' : ((((t.size - 1) : Nat) : Int) == 1) = false := beq_eq_false_iff_ne.mpr (by omega)
      have hdg := HD.out 0 hlt0
      simp only [isDg, decide_eq_true_eq] at hdg
      by_cases z48 : bt (t.extract 1 t.size) 0 = 48
      · have HO : Hid (okU (t.extract 1 t.size) = false) := okU_lead (by omega) z48
        have h49 : ((t.extract 1 t.size)[0].toNat : Int) < 49 := by rw [← hb0, z48]; omega
        clear z0 z1 hb0 HD hdg z48
        go_enter Try.func25, Try.ntmps25
        go_wp2
        go_ret
        exact ⟨by rw [HO.out]; rfl, rfl⟩
      · have HO : Hid (okU (t.extract 1 t.size) = true) := okU_ok (by omega) z48
        have h49 : (49 : Int) ≤ ((t.extract 1 t.size)[0].toNat : Int) := by rw [← hb0]; omega
        have h57 : ((t.extract 1 t.size)[0].toNat : Int) ≤ 57 := by rw [← hb0]; omega
        clear z0 hb0 hdg z48
        go_enter Try.func25, Try.ntmps25
        go_wp2
        go_loop [3] (fun i => ∃ k : Nat, 1 ≤ k ∧ k ≤ (t.size - 1) ∧ i = .int .i64 k) (fun i => (t.size - 1) - (intOf i).toNat)
        case atStart => exact ⟨1, by omega, by omega, rfl⟩
        case round =>
          obtain ⟨k, hk1, hk, rfl⟩ := hrel
          by_cases hlt : k < (t.size - 1)
          · have hltU : k < (t.extract 1 t.size).size := by omega
            have hdk := HD.out k hltU
            rw [bt_eq hltU] at hdk
            have hlt' : (k : Int) < (((t.size - 1) : Nat) : Int) := by omega
            clear HD
            go_wp2_with (go_at_call 18; refine (digit_any _ _).mono ?_; rintro e w ⟨rfl, rfl⟩)
            go_round
            case rel => exact ⟨k + 1, by omega, by omega, by go_num⟩
            case measure => simp [intOf]; omega
          · have hlt' : ¬ (k : Int) < (((t.size - 1) : Nat) : Int) := by omega
            go_wp2
            go_ret
            exact ⟨by rw [HO.out]; rfl, rfl⟩

theorem bt_extract {s : ByteArray} {j k i : Nat} (hk : k ≤ s.size) (hi : i < k - j) : bt (s.extract j k) i = bt s (j + i) := by
  have h1 : i < (s.extract j k).size := by rw [ByteArray.size_extract]; omega
  rw [bt_eq h1, bt_eq (by omega : j + i < s.size), ByteArray.getElem_extract]
theorem size_ext {s : ByteArray} {j k : Nat} (hk : k ≤ s.size) : (s.extract j k).size = k - j := by rw [ByteArray.size_extract]; omega

theorem bt_tail {T : ByteArray} {i : Nat} (hi : i < T.size - 1) : bt (T.extract 1 T.size) i = bt T (1 + i) := bt_extract (s := T) (j := 1) (k := T.size) (Nat.le_refl _) hi
theorem size_tail (T : ByteArray) : (T.extract 1 T.size).size = T.size - 1 := size_ext (s := T) (j := 1) (k := T.size) (Nat.le_refl _)

/-- the grammar on a text T that lies in s from j to k -/
theorem whole_part {s T : ByteArray} {j k : Nat} (w : World) (hs : s.size ≤ 1048576) (hk : Run (fun t => isDg (bt s t)) (dig0 s j) s.size k) (hsz : T.size = k - j) (hbT : ∀ i, i < k - j → bt T i = bt s (j + i)) :
    Calls Try.prog 25 #[.string T] w fun e w' => e = .returned (.bool (okNum s (dig0 s j) k)) ∧ w' = w := by
  obtain ⟨k1, k2, k3, k4⟩ := hk
  by_cases hsg : sgn s j = true
  · have hd : dig0 s j = j + 1 := by simp [dig0, hsg]
    obtain ⟨hj1, h45⟩ := sgn_true hsg
    rw [hd] at k1 k3 ⊢
    have hUs : (T.extract 1 T.size).size = k - (j + 1) := by rw [size_tail]; omega
    have hbU : ∀ i, i < k - (j + 1) → bt (T.extract 1 T.size) i = bt s (j + 1 + i) := fun i hi => by
      rw [bt_tail (by omega), hbT (1 + i) (by omega), show j + (1 + i) = j + 1 + i by omega]
    have hok : okU (T.extract 1 T.size) = okNum s (j + 1) k := by
      by_cases e : k = j + 1
      · rw [okU_zero (by omega)]; simp [okNum, e]
      · have h0 := hbU 0 (by omega)
        rw [Nat.add_zero] at h0
        unfold okU okNum
        rw [h0, hUs]
        have e1 : (k - (j + 1) == 0) = (k == j + 1) := by rw [Bool.eq_iff_iff, beq_iff_eq, beq_iff_eq]; omega
        have e2 : decide (1 < k - (j + 1)) = decide (j + 1 + 1 < k) := by rw [decide_eq_decide]; omega
        rw [e1, e2]
    rw [← hok]
    refine whole_neg T w (by omega) (by omega) ?_ (fun i hi => ?_)
    · rw [hbT 0 (by omega), Nat.add_zero]; exact h45
    · rw [hbU i (by omega)]; exact k3 _ (by omega) (by omega)
  · have hd : dig0 s j = j := by simp [dig0, hsg]
    rw [hd] at k1 k3 ⊢
    have hok : okU T = okNum s j k := by
      by_cases e : k = j
      · rw [okU_zero (by omega)]; simp [okNum, e]
      · have h0 := hbT 0 (by omega)
        rw [Nat.add_zero] at h0
        unfold okU okNum
        rw [h0, hsz]
        have e1 : (k - j == 0) = (k == j) := by rw [Bool.eq_iff_iff, beq_iff_eq, beq_iff_eq]; omega
        have e2 : decide (1 < k - j) = decide (j + 1 < k) := by rw [decide_eq_decide]; omega
        rw [e1, e2]
    rw [← hok]
    refine whole_pos T w (by omega) ?_ (fun i hi => ?_)
    · rintro ⟨hp, h45⟩
      have h0 := hbT 0 (by omega)
      rw [Nat.add_zero] at h0
      have hdg := k3 j (Nat.le_refl _) (by omega)
      rw [h0] at h45
      simp only [isDg, decide_eq_true_eq] at hdg
      omega
    · rw [hbT i (by omega)]; exact k3 _ (by omega) (by omega)

theorem whole_ext {s : ByteArray} {j k : Nat} (w : World) (hs : s.size ≤ 1048576) (hk : Run (fun t => isDg (bt s t)) (dig0 s j) s.size k) :
    Calls Try.prog 25 #[.string (s.extract j k)] w fun e w' => e = .returned (.bool (okNum s (dig0 s j) k)) ∧ w' = w :=
  whole_part w hs hk (size_ext hk.2.1) (fun _ hi => bt_extract hk.2.1 hi)

set_option maxHeartbeats 3200000 in
theorem model_any (s : ByteArray) (i : Nat) (ok : Bool) (w : World) (hs : s.size ≤ 1048576) (hi : i ≤ s.size) :
    Calls Try.prog 16 #[.string s, .int .i64 i, .bool ok] w fun e w' => ∃ j k : Nat,
      e = .returned (.tuple #[.string (s.extract j k), .int .i64 k, .bool (ok && okNum s (dig0 s j) k)]) ∧
      Run (fun t => isSp (bt s t)) i s.size j ∧ Run (fun t => isDg (bt s t)) (dig0 s j) s.size k ∧ w' = w := by
  go_enter Try.func16, Try.ntmps16
  go_wp2_with fail
  refine (skip_any s i _ hs hi).mono ?_
  rintro e w ⟨j, rfl, hrun, rfl⟩
  have HN := hide hrun
  have hj : j ≤ s.size := hrun.2.1
  clear hrun
  cases hsg : sgn s j
  · have hd0 := hj
    have HD0 : Hid (dig0 s j = j) := by simp [Hid, dig0, hsg]
    by_cases hltj : j < s.size
    · have h45' : ((s[j].toNat : Int) == 45) = false := by
        have hb := bt_eq hltj
        rw [← hb]
        simpa [sgn, hltj] using hsg
      clear hsg
      go_wp2
      go_loop [10] (fun e => ∃ k : Nat, j ≤ k ∧ k ≤ s.size ∧ e = .int .i64 k ∧ ∀ t, j ≤ t → t < k → isDg (bt s t) = true) (fun e => s.size - (intOf e).toNat)
      case atStart => exact ⟨j, Nat.le_refl _, hd0, by first | rfl | go_num, fun t h1 h2 => by omega⟩
      case round =>
        obtain ⟨k, hdk, hk, rfl, hall⟩ := hrel
        have HA := hide hall
        clear hall
        have hjk : (j : Int) ≤ (k : Int) := by omega
        by_cases hlt : k < s.size
        · have hb := bt_eq hlt
          by_cases hdg : isDg (bt s k) = true
          · have HS := hide (all_step HA.out hdg)
            rw [hb] at hdg
            clear hb
            go_wp2_with (go_at_call 18; refine (digit_any _ _).mono ?_; rintro e w ⟨rfl, rfl⟩)
            go_round
            case rel => exact ⟨k + 1, by omega, by omega, by go_num, HS.out⟩
            case measure => simp [intOf]; omega
          · have hdg' : isDg (bt s k) = false := by simpa using hdg
            have hrunk : Run (fun t => isDg (bt s t)) (dig0 s j) s.size k := by rw [HD0.out]; exact ⟨hdk, hk, HA.out, fun _ => hdg'⟩
            have HK := hide hrunk
            have HW := hide (fun w => whole_ext w hs hrunk)
            rw [hb] at hdg'
            clear hb hdg HA hrunk
            cases ok
            · go_wp2_with (go_at_call 18; refine (digit_any _ _).mono ?_; rintro e w ⟨rfl, rfl⟩)
              go_ret3
              exact ⟨j, k, rfl, HN.out, HK.out, rfl⟩
            · go_wp2_with (first | (go_at_call 18; refine (digit_any _ _).mono ?_; rintro e w ⟨rfl, rfl⟩) | (go_at_call 25; refine (HW.out _).mono ?_; rintro e w ⟨rfl, rfl⟩))
              go_ret3
              exact ⟨j, k, rfl, HN.out, HK.out, rfl⟩
        · have hrunk : Run (fun t => isDg (bt s t)) (dig0 s j) s.size k := by rw [HD0.out]; exact ⟨hdk, hk, HA.out, fun h => absurd h hlt⟩
          have HK := hide hrunk
          have HW := hide (fun w => whole_ext w hs hrunk)
          have hks : (k : Int) ≤ (s.size : Int) := by omega
          clear HA hrunk
          cases ok
          · go_wp2
            go_ret3
            exact ⟨j, k, rfl, HN.out, HK.out, rfl⟩
          · go_wp2_with (go_at_call 25; refine (HW.out _).mono ?_; rintro e w ⟨rfl, rfl⟩)
            go_ret3
            exact ⟨j, k, rfl, HN.out, HK.out, rfl⟩
    · clear hsg
      go_wp2
      go_loop [10] (fun e => ∃ k : Nat, j ≤ k ∧ k ≤ s.size ∧ e = .int .i64 k ∧ ∀ t, j ≤ t → t < k → isDg (bt s t) = true) (fun e => s.size - (intOf e).toNat)
      case atStart => exact ⟨j, Nat.le_refl _, hd0, by first | rfl | go_num, fun t h1 h2 => by omega⟩
      case round =>
        obtain ⟨k, hdk, hk, rfl, hall⟩ := hrel
        have HA := hide hall
        clear hall
        have hjk : (j : Int) ≤ (k : Int) := by omega
        by_cases hlt : k < s.size
        · have hb := bt_eq hlt
          by_cases hdg : isDg (bt s k) = true
          · have HS := hide (all_step HA.out hdg)
            rw [hb] at hdg
            clear hb
            go_wp2_with (go_at_call 18; refine (digit_any _ _).mono ?_; rintro e w ⟨rfl, rfl⟩)
            go_round
            case rel => exact ⟨k + 1, by omega, by omega, by go_num, HS.out⟩
            case measure => simp [intOf]; omega
          · have hdg' : isDg (bt s k) = false := by simpa using hdg
            have hrunk : Run (fun t => isDg (bt s t)) (dig0 s j) s.size k := by rw [HD0.out]; exact ⟨hdk, hk, HA.out, fun _ => hdg'⟩
            have HK := hide hrunk
            have HW := hide (fun w => whole_ext w hs hrunk)
            rw [hb] at hdg'
            clear hb hdg HA hrunk
            cases ok
            · go_wp2_with (go_at_call 18; refine (digit_any _ _).mono ?_; rintro e w ⟨rfl, rfl⟩)
              go_ret3
              exact ⟨j, k, rfl, HN.out, HK.out, rfl⟩
            · go_wp2_with (first | (go_at_call 18; refine (digit_any _ _).mono ?_; rintro e w ⟨rfl, rfl⟩) | (go_at_call 25; refine (HW.out _).mono ?_; rintro e w ⟨rfl, rfl⟩))
              go_ret3
              exact ⟨j, k, rfl, HN.out, HK.out, rfl⟩
        · have hrunk : Run (fun t => isDg (bt s t)) (dig0 s j) s.size k := by rw [HD0.out]; exact ⟨hdk, hk, HA.out, fun h => absurd h hlt⟩
          have HK := hide hrunk
          have HW := hide (fun w => whole_ext w hs hrunk)
          have hks : (k : Int) ≤ (s.size : Int) := by omega
          clear HA hrunk
          cases ok
          · go_wp2
            go_ret3
            exact ⟨j, k, rfl, HN.out, HK.out, rfl⟩
          · go_wp2_with (go_at_call 25; refine (HW.out _).mono ?_; rintro e w ⟨rfl, rfl⟩)
            go_ret3
            exact ⟨j, k, rfl, HN.out, HK.out, rfl⟩
  · have hsg' := sgn_true hsg
    have hd0 : j + 1 ≤ s.size := hsg'.1
    have HD0 : Hid (dig0 s j = j + 1) := by simp [Hid, dig0, hsg]
    have hltj : j < s.size := hd0
    have h45' : ((s[j].toNat : Int) == 45) = true := by
      have hb := bt_eq hltj
      rw [← hb, hsg'.2]; rfl
    clear hsg hsg'
    · go_wp2
      go_loop [10] (fun e => ∃ k : Nat, (j + 1) ≤ k ∧ k ≤ s.size ∧ e = .int .i64 k ∧ ∀ t, (j + 1) ≤ t → t < k → isDg (bt s t) = true) (fun e => s.size - (intOf e).toNat)
      case atStart => exact ⟨(j + 1), Nat.le_refl _, hd0, by first | rfl | go_num, fun t h1 h2 => by omega⟩
      case round =>
        obtain ⟨k, hdk, hk, rfl, hall⟩ := hrel
        have HA := hide hall
        clear hall
        have hjk : (j : Int) ≤ (k : Int) := by omega
        by_cases hlt : k < s.size
        · have hb := bt_eq hlt
          by_cases hdg : isDg (bt s k) = true
          · have HS := hide (all_step HA.out hdg)
            rw [hb] at hdg
            clear hb
            go_wp2_with (go_at_call 18; refine (digit_any _ _).mono ?_; rintro e w ⟨rfl, rfl⟩)
            go_round
            case rel => exact ⟨k + 1, by omega, by omega, by go_num, HS.out⟩
            case measure => simp [intOf]; omega
          · have hdg' : isDg (bt s k) = false := by simpa using hdg
            have hrunk : Run (fun t => isDg (bt s t)) (dig0 s j) s.size k := by rw [HD0.out]; exact ⟨hdk, hk, HA.out, fun _ => hdg'⟩
            have HK := hide hrunk
            have HW := hide (fun w => whole_ext w hs hrunk)
            rw [hb] at hdg'
            clear hb hdg HA hrunk
            cases ok
            · go_wp2_with (go_at_call 18; refine (digit_any _ _).mono ?_; rintro e w ⟨rfl, rfl⟩)
              go_ret3
              exact ⟨j, k, rfl, HN.out, HK.out, rfl⟩
            · go_wp2_with (first | (go_at_call 18; refine (digit_any _ _).mono ?_; rintro e w ⟨rfl, rfl⟩) | (go_at_call 25; refine (HW.out _).mono ?_; rintro e w ⟨rfl, rfl⟩))
              go_ret3
              exact ⟨j, k, rfl, HN.out, HK.out, rfl⟩
        · have hrunk : Run (fun t => isDg (bt s t)) (dig0 s j) s.size k := by rw [HD0.out]; exact ⟨hdk, hk, HA.out, fun h => absurd h hlt⟩
          have HK := hide hrunk
          have HW := hide (fun w => whole_ext w hs hrunk)
          have hks : (k : Int) ≤ (s.size : Int) := by omega
          clear HA hrunk
          cases ok
          · go_wp2
            go_ret3
            exact ⟨j, k, rfl, HN.out, HK.out, rfl⟩
          · go_wp2_with (go_at_call 25; refine (HW.out _).mono ?_; rintro e w ⟨rfl, rfl⟩)
            go_ret3
            exact ⟨j, k, rfl, HN.out, HK.out, rfl⟩
end Go.Proofs.Qxb6601645a.Base
