import Derived.Test.Qxb6601645aZz
namespace Go.Proofs.Qxb6601645a.fnPlainjsonNumberRefusesLeadingZero
open Go.ChangeShapes Go.WideShapes Go.ChangeAt Go.RowKit
open Go.ChangeMaps (open_string shut_string)
open Go.Proofs.Qxb6601645a.Base
set_option linter.unusedVariables false

theorem own : ownKnob Try.prog.godebug = none := by kernel_rfl

set_option maxHeartbeats 400000 in
theorem bytes20_yes (a b c : ByteArray) (x y z : Value) (w : World) (h : a.size + b.size + c.size ≤ 1048576) :
    Calls Try.prog 20 #[.string a, x, .string b, .string c, y, z] w fun e w' => e = .returned (.bool true) ∧ w' = w := by
  go_enter Try.func20, Try.ntmps20
  go_wp2
  go_ret
  exact ⟨rfl, rfl⟩
set_option maxHeartbeats 1600000 in
theorem bytes20_no (a b c : ByteArray) (x y z : Value) (w : World) (h : ¬ a.size + b.size + c.size ≤ 1048576) (ha : a.size ≤ maxLen) (hb : b.size ≤ maxLen) (hc : c.size ≤ maxLen) :
    Calls Try.prog 20 #[.string a, x, .string b, .string c, y, z] w fun e w' => e = .returned (.bool false) ∧ w' = w := by
  unfold maxLen at ha hb hc
  go_enter Try.func20, Try.ntmps20
  go_wp2
  all_goals (first | omega | (go_ret; exact ⟨rfl, rfl⟩))

/-! ### THE PLAIN LAW: what is written -/
theorem neg_num {D : ByteArray} (hd : ∀ i, i < D.size → isDg (bt D i) = true) :
    ((⟨#[45]⟩ : ByteArray) ++ ⟨#[48]⟩ ++ D).size = 2 + D.size ∧ IsNum ((⟨#[45]⟩ : ByteArray) ++ ⟨#[48]⟩ ++ D) 1 ∧ bt ((⟨#[45]⟩ : ByteArray) ++ ⟨#[48]⟩ ++ D) 1 = 48 := by
  have hz : ((⟨#[45]⟩ : ByteArray) ++ ⟨#[48]⟩ ++ D).size = 2 + D.size := by rw [ByteArray.size_append, ByteArray.size_append]; rfl
  have hz2 : ((⟨#[45]⟩ : ByteArray) ++ ⟨#[48]⟩).size = 2 := by rw [ByteArray.size_append]; rfl
  have b0 : bt ((⟨#[45]⟩ : ByteArray) ++ ⟨#[48]⟩ ++ D) 0 = 45 := by
    rw [bt_left (by omega), bt_left (by decide)]; rfl
  have b1 : bt ((⟨#[45]⟩ : ByteArray) ++ ⟨#[48]⟩ ++ D) 1 = 48 := by
    rw [bt_left (by omega)]
    exact bt_right (a := ⟨#[45]⟩) (b := ⟨#[48]⟩) 0
  refine ⟨hz, ⟨by omega, Or.inr ⟨rfl, b0⟩, fun i h1 h2 => ?_⟩, b1⟩
  by_cases e : i = 1
  · rw [e, b1]; rfl
  · have := bt_right (a := (⟨#[45]⟩ : ByteArray) ++ ⟨#[48]⟩) (b := D) (i - 2)
    rw [hz2, show 2 + (i - 2) = i by omega] at this
    rw [this]
    exact hd _ (by omega)
theorem pos_num {D : ByteArray} (hd : ∀ i, i < D.size → isDg (bt D i) = true) :
    ((⟨#[]⟩ : ByteArray) ++ ⟨#[48]⟩ ++ D).size = 1 + D.size ∧ IsNum ((⟨#[]⟩ : ByteArray) ++ ⟨#[48]⟩ ++ D) 0 ∧ bt ((⟨#[]⟩ : ByteArray) ++ ⟨#[48]⟩ ++ D) 0 = 48 := by
  have hz : ((⟨#[]⟩ : ByteArray) ++ ⟨#[48]⟩ ++ D).size = 1 + D.size := by rw [ByteArray.size_append, ByteArray.size_append]; rfl
  have hz2 : ((⟨#[]⟩ : ByteArray) ++ ⟨#[48]⟩).size = 1 := by rw [ByteArray.size_append]; rfl
  have b1 : bt ((⟨#[]⟩ : ByteArray) ++ ⟨#[48]⟩ ++ D) 0 = 48 := by
    rw [bt_left (by omega)]
    exact bt_right (a := ⟨#[]⟩) (b := ⟨#[48]⟩) 0
  refine ⟨hz, ⟨by omega, Or.inl rfl, fun i h1 h2 => ?_⟩, b1⟩
  by_cases e : i = 0
  · rw [e, b1]; rfl
  · have := bt_right (a := (⟨#[]⟩ : ByteArray) ++ ⟨#[48]⟩) (b := D) (i - 1)
    rw [hz2, show 1 + (i - 1) = i by omega] at this
    rw [this]
    exact hd _ (by omega)

set_option maxHeartbeats 1600000 in
theorem walk_neg0 (pre digits post : ByteArray) (ok : Bool) (d : Int) (w : World) (h1 : pre.size ≤ 262144) (h2 : digits.size ≤ 262144) (h3 : post.size ≤ 262144) (h4 : 0 < digits.size)
    (hd : ∀ i, i < digits.size → isDg (bt digits i) = true) (hp : post.size = 0) :
    Calls Try.prog 7 #[.string pre, .bool true, .string digits, .string post, .bool ok, .int .i64 d] w fun e w' => e = .returned (.bool true) ∧ Below w.heap.size w w' := by
  obtain ⟨hts, hnum, hb48⟩ := neg_num hd
  have HT := hide hnum
  have HB := hide hb48
  have HTS := hide hts
  have HD := hide hd
  clear hd hnum hb48 hts
  have h4' : ((digits.size : Int) == 0) = false := beq_eq_false_iff_ne.mpr (by omega)
  have HP : Hid (post.size = 0 ∨ isDg (bt post 0) = false) := Or.inl hp
  have hp0 : ¬ (0 : Int) < (post.size : Int) := by omega
  clear hp
  go_enter Try.func7, Try.ntmps7
  go_wp2_with fail
  refine (bytes20_yes _ _ _ _ _ _ _ (by omega)).mono ?_
  rintro e w ⟨rfl, rfl⟩
  go_wp2_with fail
  go_loop [13] (fun i => ∃ k : Nat, k ≤ digits.size ∧ i = .int .i64 k) (fun i => digits.size - (intOf i).toNat)
  case atStart => exact ⟨0, Nat.zero_le _, rfl⟩
  case round =>
    obtain ⟨k, hk, rfl⟩ := hrel
    by_cases hlt : k < digits.size
    · have hdg := HD.out k hlt
      rw [bt_eq hlt] at hdg
      go_wp2_with (go_at_call 18; refine (digit_any _ _).mono ?_; rintro e w ⟨rfl, rfl⟩)
      go_round
      case rel => exact ⟨k + 1, by omega, by go_num⟩
      case measure => simp [intOf]; omega
    · clear HD
      go_wp2_with (go_at_call 18; refine (digit_any _ _).mono ?_; rintro e w ⟨rfl, rfl⟩)
      obtain ⟨T, hT⟩ : ∃ T, T = ((⟨#[45]⟩ : ByteArray) ++ ⟨#[48]⟩ ++ digits) := ⟨_, rfl⟩
      rw [← hT] at HT HB HTS ⊢
      clear hT
      have hss : (pre ++ T ++ post).size = pre.size + T.size + post.size := by simp [ByteArray.size_append]
      have hTS := HTS.out
      refine (zznumber_any (pre ++ T ++ post) pre.size ok d _ (by omega) (by omega)).mono ?_
      rintro e w1 ⟨j, k', rfl, hj, hkk, hb⟩
      obtain ⟨rfl, rfl, hext, hok⟩ := num_read HT.out HP.out hj hkk
      have hfin : okNum (pre ++ T ++ post) (dig0 (pre ++ T ++ post) pre.size) (pre.size + T.size) = false := by
        rw [hok, HB.out]; simp; omega
      rw [hfin, hext, Bool.and_false]
      have e1 : ((pre.size + T.size : Nat) : Int) = (pre.size : Int) + (T.size : Int) := by omega
      have hT1 : T.size ≤ 262146 := by omega
      clear hj hkk hext hok hfin hss hTS HTS HT HB HP
      go_wp2
      go_ret
      exact ⟨rfl, hb⟩

set_option maxHeartbeats 1600000 in
theorem walk_neg1 (pre digits post : ByteArray) (ok : Bool) (d : Int) (w : World) (h1 : pre.size ≤ 262144) (h2 : digits.size ≤ 262144) (h3 : post.size ≤ 262144) (h4 : 0 < digits.size)
    (hd : ∀ i, i < digits.size → isDg (bt digits i) = true) (hq : 0 < post.size) (hp : isDg (bt post 0) = false) :
    Calls Try.prog 7 #[.string pre, .bool true, .string digits, .string post, .bool ok, .int .i64 d] w fun e w' => e = .returned (.bool true) ∧ Below w.heap.size w w' := by
  obtain ⟨hts, hnum, hb48⟩ := neg_num hd
  have HT := hide hnum
  have HB := hide hb48
  have HTS := hide hts
  have HD := hide hd
  clear hd hnum hb48 hts
  have h4' : ((digits.size : Int) == 0) = false := beq_eq_false_iff_ne.mpr (by omega)
  have HP : Hid (post.size = 0 ∨ isDg (bt post 0) = false) := Or.inr hp
  rw [bt_eq hq] at hp
  have hq0 : (0 : Int) < (post.size : Int) := by omega
  go_enter Try.func7, Try.ntmps7
  go_wp2_with fail
  refine (bytes20_yes _ _ _ _ _ _ _ (by omega)).mono ?_
  rintro e w ⟨rfl, rfl⟩
  go_wp2_with fail
  go_loop [13] (fun i => ∃ k : Nat, k ≤ digits.size ∧ i = .int .i64 k) (fun i => digits.size - (intOf i).toNat)
  case atStart => exact ⟨0, Nat.zero_le _, rfl⟩
  case round =>
    obtain ⟨k, hk, rfl⟩ := hrel
    by_cases hlt : k < digits.size
    · have hdg := HD.out k hlt
      rw [bt_eq hlt] at hdg
      go_wp2_with (go_at_call 18; refine (digit_any _ _).mono ?_; rintro e w ⟨rfl, rfl⟩)
      go_round
      case rel => exact ⟨k + 1, by omega, by go_num⟩
      case measure => simp [intOf]; omega
    · clear HD
      go_wp2_with (go_at_call 18; refine (digit_any _ _).mono ?_; rintro e w ⟨rfl, rfl⟩)
      obtain ⟨T, hT⟩ : ∃ T, T = ((⟨#[45]⟩ : ByteArray) ++ ⟨#[48]⟩ ++ digits) := ⟨_, rfl⟩
      rw [← hT] at HT HB HTS ⊢
      clear hT
      have hss : (pre ++ T ++ post).size = pre.size + T.size + post.size := by simp [ByteArray.size_append]
      have hTS := HTS.out
      refine (zznumber_any (pre ++ T ++ post) pre.size ok d _ (by omega) (by omega)).mono ?_
      rintro e w1 ⟨j, k', rfl, hj, hkk, hb⟩
      obtain ⟨rfl, rfl, hext, hok⟩ := num_read HT.out HP.out hj hkk
      have hfin : okNum (pre ++ T ++ post) (dig0 (pre ++ T ++ post) pre.size) (pre.size + T.size) = false := by
        rw [hok, HB.out]; simp; omega
      rw [hfin, hext, Bool.and_false]
      have e1 : ((pre.size + T.size : Nat) : Int) = (pre.size : Int) + (T.size : Int) := by omega
      have hT1 : T.size ≤ 262146 := by omega
      clear hj hkk hext hok hfin hss hTS HTS HT HB HP
      go_wp2
      go_ret
      exact ⟨rfl, hb⟩

set_option maxHeartbeats 1600000 in
theorem walk_pos0 (pre digits post : ByteArray) (ok : Bool) (d : Int) (w : World) (h1 : pre.size ≤ 262144) (h2 : digits.size ≤ 262144) (h3 : post.size ≤ 262144) (h4 : 0 < digits.size)
    (hd : ∀ i, i < digits.size → isDg (bt digits i) = true) (hp : post.size = 0) :
    Calls Try.prog 7 #[.string pre, .bool false, .string digits, .string post, .bool ok, .int .i64 d] w fun e w' => e = .returned (.bool true) ∧ Below w.heap.size w w' := by
  obtain ⟨hts, hnum, hb48⟩ := pos_num hd
  have HT := hide hnum
  have HB := hide hb48
  have HTS := hide hts
  have HD := hide hd
  clear hd hnum hb48 hts
  have h4' : ((digits.size : Int) == 0) = false := beq_eq_false_iff_ne.mpr (by omega)
  have HP : Hid (post.size = 0 ∨ isDg (bt post 0) = false) := Or.inl hp
  have hp0 : ¬ (0 : Int) < (post.size : Int) := by omega
  clear hp
  go_enter Try.func7, Try.ntmps7
  go_wp2_with fail
  refine (bytes20_yes _ _ _ _ _ _ _ (by omega)).mono ?_
  rintro e w ⟨rfl, rfl⟩
  go_wp2_with fail
  go_loop [13] (fun i => ∃ k : Nat, k ≤ digits.size ∧ i = .int .i64 k) (fun i => digits.size - (intOf i).toNat)
  case atStart => exact ⟨0, Nat.zero_le _, rfl⟩
  case round =>
    obtain ⟨k, hk, rfl⟩ := hrel
    by_cases hlt : k < digits.size
    · have hdg := HD.out k hlt
      rw [bt_eq hlt] at hdg
      go_wp2_with (go_at_call 18; refine (digit_any _ _).mono ?_; rintro e w ⟨rfl, rfl⟩)
      go_round
      case rel => exact ⟨k + 1, by omega, by go_num⟩
      case measure => simp [intOf]; omega
    · clear HD
      go_wp2_with (go_at_call 18; refine (digit_any _ _).mono ?_; rintro e w ⟨rfl, rfl⟩)
      obtain ⟨T, hT⟩ : ∃ T, T = ((⟨#[]⟩ : ByteArray) ++ ⟨#[48]⟩ ++ digits) := ⟨_, rfl⟩
      rw [← hT] at HT HB HTS ⊢
      clear hT
      have hss : (pre ++ T ++ post).size = pre.size + T.size + post.size := by simp [ByteArray.size_append]
      have hTS := HTS.out
      refine (zznumber_any (pre ++ T ++ post) pre.size ok d _ (by omega) (by omega)).mono ?_
      rintro e w1 ⟨j, k', rfl, hj, hkk, hb⟩
      obtain ⟨rfl, rfl, hext, hok⟩ := num_read HT.out HP.out hj hkk
      have hfin : okNum (pre ++ T ++ post) (dig0 (pre ++ T ++ post) pre.size) (pre.size + T.size) = false := by
        rw [hok, HB.out]; simp; omega
      rw [hfin, hext, Bool.and_false]
      have e1 : ((pre.size + T.size : Nat) : Int) = (pre.size : Int) + (T.size : Int) := by omega
      have hT1 : T.size ≤ 262146 := by omega
      clear hj hkk hext hok hfin hss hTS HTS HT HB HP
      go_wp2
      go_ret
      exact ⟨rfl, hb⟩

set_option maxHeartbeats 1600000 in
theorem walk_pos1 (pre digits post : ByteArray) (ok : Bool) (d : Int) (w : World) (h1 : pre.size ≤ 262144) (h2 : digits.size ≤ 262144) (h3 : post.size ≤ 262144) (h4 : 0 < digits.size)
    (hd : ∀ i, i < digits.size → isDg (bt digits i) = true) (hq : 0 < post.size) (hp : isDg (bt post 0) = false) :
    Calls Try.prog 7 #[.string pre, .bool false, .string digits, .string post, .bool ok, .int .i64 d] w fun e w' => e = .returned (.bool true) ∧ Below w.heap.size w w' := by
  obtain ⟨hts, hnum, hb48⟩ := pos_num hd
  have HT := hide hnum
  have HB := hide hb48
  have HTS := hide hts
  have HD := hide hd
  clear hd hnum hb48 hts
  have h4' : ((digits.size : Int) == 0) = false := beq_eq_false_iff_ne.mpr (by omega)
  have HP : Hid (post.size = 0 ∨ isDg (bt post 0) = false) := Or.inr hp
  rw [bt_eq hq] at hp
  have hq0 : (0 : Int) < (post.size : Int) := by omega
  go_enter Try.func7, Try.ntmps7
  go_wp2_with fail
  refine (bytes20_yes _ _ _ _ _ _ _ (by omega)).mono ?_
  rintro e w ⟨rfl, rfl⟩
  go_wp2_with fail
  go_loop [13] (fun i => ∃ k : Nat, k ≤ digits.size ∧ i = .int .i64 k) (fun i => digits.size - (intOf i).toNat)
  case atStart => exact ⟨0, Nat.zero_le _, rfl⟩
  case round =>
    obtain ⟨k, hk, rfl⟩ := hrel
    by_cases hlt : k < digits.size
    · have hdg := HD.out k hlt
      rw [bt_eq hlt] at hdg
      go_wp2_with (go_at_call 18; refine (digit_any _ _).mono ?_; rintro e w ⟨rfl, rfl⟩)
      go_round
      case rel => exact ⟨k + 1, by omega, by go_num⟩
      case measure => simp [intOf]; omega
    · clear HD
      go_wp2_with (go_at_call 18; refine (digit_any _ _).mono ?_; rintro e w ⟨rfl, rfl⟩)
      obtain ⟨T, hT⟩ : ∃ T, T = ((⟨#[]⟩ : ByteArray) ++ ⟨#[48]⟩ ++ digits) := ⟨_, rfl⟩
      rw [← hT] at HT HB HTS ⊢
      clear hT
      have hss : (pre ++ T ++ post).size = pre.size + T.size + post.size := by simp [ByteArray.size_append]
      have hTS := HTS.out
      refine (zznumber_any (pre ++ T ++ post) pre.size ok d _ (by omega) (by omega)).mono ?_
      rintro e w1 ⟨j, k', rfl, hj, hkk, hb⟩
      obtain ⟨rfl, rfl, hext, hok⟩ := num_read HT.out HP.out hj hkk
      have hfin : okNum (pre ++ T ++ post) (dig0 (pre ++ T ++ post) pre.size) (pre.size + T.size) = false := by
        rw [hok, HB.out]; simp; omega
      rw [hfin, hext, Bool.and_false]
      have e1 : ((pre.size + T.size : Nat) : Int) = (pre.size : Int) + (T.size : Int) := by omega
      have hT1 : T.size ≤ 262146 := by omega
      clear hj hkk hext hok hfin hss hTS HTS HT HB HP
      go_wp2
      go_ret
      exact ⟨rfl, hb⟩

set_option maxHeartbeats 400000 in
theorem walk_big (pre : ByteArray) (neg : Bool) (digits post : ByteArray) (ok : Bool) (d : Int) (w : World) (h : ¬ pre.size + digits.size + post.size ≤ 1048576) (ha : pre.size ≤ maxLen) (hb : digits.size ≤ maxLen) (hc : post.size ≤ maxLen) :
    Calls Try.prog 7 #[.string pre, .bool neg, .string digits, .string post, .bool ok, .int .i64 d] w fun e w' => e = .returned (.bool true) ∧ Below w.heap.size w w' := by
  go_enter Try.func7, Try.ntmps7
  go_wp2_with (go_at_call 20; refine (bytes20_no _ _ _ _ _ _ _ h ha hb hc).mono ?_; rintro e w ⟨rfl, rfl⟩)
  go_ret
  exact ⟨rfl, Below.refl _ _⟩

set_option maxHeartbeats 800000 in
theorem walk_wide (pre : ByteArray) (neg : Bool) (digits post : ByteArray) (ok : Bool) (d : Int) (w : World) (h : pre.size + digits.size + post.size ≤ 1048576)
    (hx : ¬ (pre.size ≤ 262144 ∧ digits.size ≤ 262144 ∧ post.size ≤ 262144 ∧ 0 < digits.size)) :
    Calls Try.prog 7 #[.string pre, .bool neg, .string digits, .string post, .bool ok, .int .i64 d] w fun e w' => e = .returned (.bool true) ∧ Below w.heap.size w w' := by
  by_cases h1 : pre.size ≤ 262144
  · by_cases h2 : digits.size ≤ 262144
    · by_cases h3 : post.size ≤ 262144
      · have h4 : digits.size = 0 := by omega
        have h4' : ((digits.size : Int) == 0) = true := by rw [h4]; rfl
        clear hx h4
        go_enter Try.func7, Try.ntmps7
        go_wp2_with (go_at_call 20; refine (bytes20_yes _ _ _ _ _ _ _ h).mono ?_; rintro e w ⟨rfl, rfl⟩)
        go_ret
        exact ⟨rfl, Below.refl _ _⟩
      · clear hx
        go_enter Try.func7, Try.ntmps7
        go_wp2_with (go_at_call 20; refine (bytes20_yes _ _ _ _ _ _ _ h).mono ?_; rintro e w ⟨rfl, rfl⟩)
        go_ret
        exact ⟨rfl, Below.refl _ _⟩
    · clear hx
      go_enter Try.func7, Try.ntmps7
      go_wp2_with (go_at_call 20; refine (bytes20_yes _ _ _ _ _ _ _ h).mono ?_; rintro e w ⟨rfl, rfl⟩)
      go_ret
      exact ⟨rfl, Below.refl _ _⟩
  · clear hx
    go_enter Try.func7, Try.ntmps7
    go_wp2_with (go_at_call 20; refine (bytes20_yes _ _ _ _ _ _ _ h).mono ?_; rintro e w ⟨rfl, rfl⟩)
    go_ret
    exact ⟨rfl, Below.refl _ _⟩

set_option maxHeartbeats 800000 in
/-- not all are digits, or a digit follows -/
theorem walk_out (pre : ByteArray) (neg : Bool) (digits post : ByteArray) (ok : Bool) (d : Int) (w : World) (h1 : pre.size ≤ 262144) (h2 : digits.size ≤ 262144) (h3 : post.size ≤ 262144) (h4 : 0 < digits.size)
    (hx : ¬ (∀ i, i < digits.size → isDg (bt digits i) = true) ∨ (0 < post.size ∧ isDg (bt post 0) = true)) :
    Calls Try.prog 7 #[.string pre, .bool neg, .string digits, .string post, .bool ok, .int .i64 d] w fun e w' => e = .returned (.bool true) ∧ Below w.heap.size w w' := by
  have HX := hide hx
  clear hx
  have h4' : ((digits.size : Int) == 0) = false := beq_eq_false_iff_ne.mpr (by omega)
  go_enter Try.func7, Try.ntmps7
  go_wp2_with fail
  refine (bytes20_yes _ _ _ _ _ _ _ (by omega)).mono ?_
  rintro e w ⟨rfl, rfl⟩
  go_wp2_with fail
  go_loop [13] (fun i => ∃ k : Nat, k ≤ digits.size ∧ i = .int .i64 k ∧ ∀ t, 0 ≤ t → t < k → isDg (bt digits t) = true) (fun i => digits.size - (intOf i).toNat)
  case atStart => exact ⟨0, Nat.zero_le _, rfl, fun t _ h => by omega⟩
  case round =>
    obtain ⟨k, hk, rfl, hall⟩ := hrel
    have HA := hide hall
    clear hall
    by_cases hlt : k < digits.size
    · by_cases hdg : isDg (bt digits k) = true
      · have HS := hide (all_step HA.out hdg)
        rw [bt_eq hlt] at hdg
        go_wp2_with (go_at_call 18; refine (digit_any _ _).mono ?_; rintro e w ⟨rfl, rfl⟩)
        go_round
        case rel => exact ⟨k + 1, by omega, by go_num, HS.out⟩
        case measure => simp [intOf]; omega
      · have hdg' : isDg (bt digits k) = false := by simpa using hdg
        rw [bt_eq hlt] at hdg'
        clear hdg
        go_wp2_with (go_at_call 18; refine (digit_any _ _).mono ?_; rintro e w ⟨rfl, rfl⟩)
        go_ret
        exact ⟨rfl, Below.refl _ _⟩
    · have hpp : 0 < post.size ∧ isDg (bt post 0) = true := by
        rcases HX.out with h | h
        · exact absurd (fun i hi => HA.out i (Nat.zero_le _) (by omega)) h
        · exact h
      obtain ⟨hq, hp⟩ := hpp
      rw [bt_eq hq] at hp
      have hq0 : (0 : Int) < (post.size : Int) := by omega
      clear HX HA
      go_wp2_with (go_at_call 18; refine (digit_any _ _).mono ?_; rintro e w ⟨rfl, rfl⟩)
      go_ret
      exact ⟨rfl, Below.refl _ _⟩

theorem walk (a0 : ByteArray) (a1 : Bool) (a2 : ByteArray) (a3 : ByteArray) (a4 : Bool) (a5 : Int) (w0 : a0.size ≤ maxLen) (w2 : a2.size ≤ maxLen) (w3 : a3.size ≤ maxLen) (w5 : (Lit.int .i64 a5).wf = true) (w : World) :
    Calls Try.prog 7 #[.string a0, .bool a1, .string a2, .string a3, .bool a4, .int .i64 a5] w fun e w' => e = .returned (.bool true) ∧ Below w.heap.size w w' := by
  by_cases hs : a0.size + a2.size + a3.size ≤ 1048576
  · by_cases hx : a0.size ≤ 262144 ∧ a2.size ≤ 262144 ∧ a3.size ≤ 262144 ∧ 0 < a2.size
    · obtain ⟨h1, h2, h3, h4⟩ := hx
      by_cases hd : ∀ i, i < a2.size → isDg (bt a2 i) = true
      · by_cases hq : 0 < a3.size
        · by_cases hp : isDg (bt a3 0) = true
          · exact walk_out a0 a1 a2 a3 a4 a5 w h1 h2 h3 h4 (Or.inr ⟨hq, hp⟩)
          · have hp' : isDg (bt a3 0) = false := by simpa using hp
            cases a1
            · exact walk_pos1 a0 a2 a3 a4 a5 w h1 h2 h3 h4 hd hq hp'
            · exact walk_neg1 a0 a2 a3 a4 a5 w h1 h2 h3 h4 hd hq hp'
        · have hq' : a3.size = 0 := by omega
          cases a1
          · exact walk_pos0 a0 a2 a3 a4 a5 w h1 h2 h3 h4 hd hq'
          · exact walk_neg0 a0 a2 a3 a4 a5 w h1 h2 h3 h4 hd hq'
      · exact walk_out a0 a1 a2 a3 a4 a5 w h1 h2 h3 h4 (Or.inl hd)
    · exact walk_wide a0 a1 a2 a3 a4 a5 w hs hx
  · exact walk_big a0 a1 a2 a3 a4 a5 w hs w0 w2 w3

/-! ### THE ROW's STEP: WRITTEN OUT: LEAVE IT -/
set_option maxRecDepth 100000 in
theorem lifted (os : Os) (started : os.Started) (H : Type) (enc : TypeId × Value → H) :
    ReturnsInHanded {} Try.checked os 7 .any (Rows.fnPlainjsonNumberRefusesLeadingZeroSpec.pre6 enc Try.prog Try.f7 Rows.fnPlainjsonNumberRefusesLeadingZeroRow.domain false) (Rows.fnPlainjsonNumberRefusesLeadingZeroSpec.post enc Try.prog Try.f7 false true false false) := by
  refine returnsInHanded_of_change (C := Try.checked) own started (by kernel_rfl) Try.func7
    (ChangeSpec.witness6 (enc := enc) (C := Try.checked) false ⟨#[], #[.string ByteArray.empty, .bool false, .string ByteArray.empty, .string ByteArray.empty, .bool false, .int .i64 0], []⟩ 8 (by kernel_rfl) (by kernel_rfl) (by kernel_rfl) (by kernel_rfl)) ?_
  intro W base args ds gs before hval0 hW hcnd _
  have hval : ∀ (j : Nat) t v, Try.f7.params[j]? = some t → args[j]? = some v → Value.okWide Try.prog W .any base t v := hval0
  have hW' := hW
  obtain ⟨p, q, hA0, hV, rfl, hfz, hnd⟩ := hW
  have hA : DataW.TrodAll enc Try.prog W 0 (fun _ => true) true Try.f7.params.toList args.toList ds p := hA0
  rw [Try.params7] at hA hval
  obtain ⟨v0, vs0, d0, ds0, p0, q0, hargs, rfl, rfl, h0, r0⟩ := trodAll_cons hA
  obtain ⟨v1, vs1, d1, ds1, p1, q1, rfl, rfl, rfl, h1, r1⟩ := trodAll_cons r0
  obtain ⟨v2, vs2, d2, ds2, p2, q2, rfl, rfl, rfl, h2, r2⟩ := trodAll_cons r1
  obtain ⟨v3, vs3, d3, ds3, p3, q3, rfl, rfl, rfl, h3, r3⟩ := trodAll_cons r2
  obtain ⟨v4, vs4, d4, ds4, p4, q4, rfl, rfl, rfl, h4, r4⟩ := trodAll_cons r3
  obtain ⟨v5, vs5, d5, ds5, p5, q5, rfl, rfl, rfl, h5, r5⟩ := trodAll_cons r4
  obtain ⟨rfl, rfl, rfl⟩ := trodAll_nil r5
  obtain rfl : args = #[v0, v1, v2, v3, v4, v5] := by cases args; simp_all
  obtain ⟨rfl, rfl⟩ := trodVars_none hV
  obtain ⟨a0, rfl, rfl, rfl, w0⟩ := open_string Try.underlying9 (hval 0 9 v0 rfl rfl) h0
  obtain ⟨a1, rfl, rfl, rfl⟩ := open_bool Try.underlying4 (hval 1 4 v1 rfl rfl) h1
  obtain ⟨a2, rfl, rfl, rfl, w2⟩ := open_string Try.underlying9 (hval 2 9 v2 rfl rfl) h2
  obtain ⟨a3, rfl, rfl, rfl, w3⟩ := open_string Try.underlying9 (hval 3 9 v3 rfl rfl) h3
  obtain ⟨a4, rfl, rfl, rfl⟩ := open_bool Try.underlying4 (hval 4 4 v4 rfl rfl) h4
  obtain ⟨a5, rfl, rfl, rfl, w5⟩ := open_int Try.underlying3 (hval 5 3 v5 rfl rfl) h5
  clear hA0 hval0
  simp only [List.append_nil] at hW'
  refine (walk a0 a1 a2 a3 a4 a5 w0 w2 w3 w5 W).mono fun e W' ⟨he, bel⟩ => ?_
  subst he
  exact ⟨_, rfl, _, _, _, [], [], [], hW', trodAll_mk1 (shut_bool Try.underlying4 _), (trodAll_cons_mk (shut_string Try.underlying9 w0) (trodAll_cons_mk (shut_bool Try.underlying4 _) (trodAll_cons_mk (shut_string Try.underlying9 w2) (trodAll_cons_mk (shut_string Try.underlying9 w3) (trodAll_cons_mk (shut_bool Try.underlying4 _) (trodAll_cons_mk (shut_int Try.underlying3 w5) trodAll_mk0)))))), rfl, bel.frame _, fun h => by cases h⟩

theorem over : Rows.fnPlainjsonNumberRefusesLeadingZeroRow.holds Try.pinned (OpenSpec.ofChange Rows.fnPlainjsonNumberRefusesLeadingZeroSpec) :=
  OpenClaim.holds_of_wide 7 Try.f7 rfl rfl rfl rfl rfl rfl rfl ⟨rfl, rfl, rfl, rfl, rfl⟩ rfl rfl rfl rfl rfl (by kernel_rfl) Try.func7 (by kernel_rfl)
    (of_decide_eq_true (by kernel_rfl)) (by unfold Func.isWrapper; first | (rw [if_pos (by decide +kernel)]; kernel_rfl) | (rw [if_neg (by decide +kernel)]; exact ⟨rfl, rfl⟩))
    (fun os started H enc _ => lifted os started H enc)

/-- ████ THE STATEMENT ████ -/
theorem proved : Rows.FnPlainjsonNumberRefusesLeadingZeroSaid :=
  over
#print axioms proved
end Go.Proofs.Qxb6601645a.fnPlainjsonNumberRefusesLeadingZero
