import Derived.Test.Qxb6002606aRows
import Derived.WalkKit
import Derived.ProofKit
import Derived.OpenShut
import Derived.ShutString
namespace Go.Proofs.Qxb6002606a.fnEarlierPicksFirstRealFault
open Go.ChangeShapes Go.WideShapes Go.ChangeAt Go.RowKit
open Go.ChangeMaps (open_string shut_string)
set_option linter.unusedVariables false

theorem own : ownKnob Try.prog.godebug = none := by kernel_rfl

/-- the earlier of two faults, 0 counting as none -/
def er (a b : Int) : Int := if a = 0 then b else if b = 0 then a else if b < a then b else a
/-- the rank of a fault -/
def rk (a : Int) : Int := if a = 0 then 256 else a

theorem er_pos1 (b : Int) : er 0 b = b := by simp [er]

set_option maxHeartbeats 400000 in
theorem earlier_any (a b : Int) (w : World) (ha : 0 ≤ a ∧ a ≤ 255) (hb : 0 ≤ b ∧ b ≤ 255) :
    Calls Try.prog 21 #[.int .u8 a, .int .u8 b] w fun e w' => e = .returned (.int .u8 (er a b)) ∧ w' = w := by
  obtain ⟨ha1, ha2⟩ := ha
  obtain ⟨hb1, hb2⟩ := hb
  by_cases h1 : a = 0
  · subst h1
    go_enter Try.func21, Try.ntmps21
    go_wp2
    go_ret
    exact ⟨by simp [er], rfl⟩
  · by_cases h2 : b = 0
    · subst h2
      go_enter Try.func21, Try.ntmps21
      go_wp2
      go_ret
      exact ⟨by simp [er, h1], rfl⟩
    · have e1 : (a == 0) = false := by simpa using h1
      have e2 : (b != 0) = true := by simpa using h2
      by_cases h3 : b < a
      · go_enter Try.func21, Try.ntmps21
        go_wp2
        go_ret
        exact ⟨by simp [er, h1, h2, h3], rfl⟩
      · go_enter Try.func21, Try.ntmps21
        go_wp2
        go_ret
        exact ⟨by simp only [er, if_neg h1, if_neg h2]; rw [if_neg (by omega)]; rfl, rfl⟩

set_option maxHeartbeats 400000 in
theorem zzearlier_any (a b : Int) (w : World) (ha : 0 ≤ a ∧ a ≤ 255) (hb : 0 ≤ b ∧ b ≤ 255) :
    Calls Try.prog 8 #[.int .u8 a, .int .u8 b] w fun e w' => e = .returned (.int .u8 (er a b)) ∧ w' = w := by
  go_enter Try.func8, Try.ntmps8
  go_wp2_with (go_at_call 21; refine (earlier_any _ _ _ ha hb).mono ?_; rintro e w' ⟨rfl, rfl⟩)
  go_ret
  exact ⟨rfl, rfl⟩

set_option maxHeartbeats 400000 in
theorem rank_any (a : Int) (w : World) (ha : 0 ≤ a ∧ a ≤ 255) :
    Calls Try.prog 9 #[.int .u8 a] w fun e w' => e = .returned (.int .i64 (rk a)) ∧ w' = w := by
  obtain ⟨ha1, ha2⟩ := ha
  by_cases h1 : a = 0
  · subst h1
    go_enter Try.func9, Try.ntmps9
    go_wp2
    go_ret
    exact ⟨by simp [rk], rfl⟩
  · go_enter Try.func9, Try.ntmps9
    go_wp2
    go_ret
    exact ⟨by simp [rk, h1], rfl⟩

theorem er_or (a b : Int) : er a b = a ∨ er a b = b := by unfold er; split <;> (try split) <;> (try split) <;> simp
theorem er_bd (a b : Int) (ha : 0 ≤ a ∧ a ≤ 255) (hb : 0 ≤ b ∧ b ≤ 255) : 0 ≤ er a b ∧ er a b ≤ 255 := by
  rcases er_or a b with h | h <;> rw [h] <;> assumption
theorem er_comm (a b : Int) : er b a = er a b := by unfold er; repeat' split
                                                    all_goals omega
theorem er_assoc (a b c : Int) (ha : 0 ≤ a) (hb : 0 ≤ b) (hc : 0 ≤ c) : er (er a b) c = er a (er b c) := by
  unfold er; repeat' split
  all_goals omega
theorem er_self (a : Int) : er a a = a := by unfold er; repeat' split
                                             all_goals omega
theorem er_zr (a : Int) : er a 0 = a := by unfold er; repeat' split
                                           all_goals omega
theorem er_zl (a : Int) : er 0 a = a := by simp [er]
theorem rk_min1 (a b : Int) (ha : 0 ≤ a ∧ a ≤ 255) (hb : 0 ≤ b ∧ b ≤ 255) (h : rk b < rk a) : rk (er a b) = rk b := by
  unfold rk er at *; repeat' split
  all_goals (repeat' split at h)
  all_goals omega
theorem rk_min2 (a b : Int) (ha : 0 ≤ a ∧ a ≤ 255) (hb : 0 ≤ b ∧ b ≤ 255) (h : ¬ rk b < rk a) : rk (er a b) = rk a := by
  unfold rk er at *; repeat' split
  all_goals (repeat' split at h)
  all_goals omega

/-- what a call of ZZEarlier answers, in variables -/
def Ear (a b r : Int) : Prop := ∀ w : World, Calls Try.prog 8 #[.int .u8 a, .int .u8 b] w fun e w' => e = .returned (.int .u8 r) ∧ w' = w
/-- what a call of zzG2FaultRank answers, in variables -/
def Rnk (a m : Int) : Prop := ∀ w : World, Calls Try.prog 9 #[.int .u8 a] w fun e w' => e = .returned (.int .i64 m) ∧ w' = w
theorem ear_mk {a b r : Int} (ha : 0 ≤ a ∧ a ≤ 255) (hb : 0 ≤ b ∧ b ≤ 255) (h : er a b = r) : Ear a b r := fun w => h ▸ zzearlier_any a b w ha hb
theorem rnk_mk {a m : Int} (ha : 0 ≤ a ∧ a ≤ 255) (h : rk a = m) : Rnk a m := fun w => h ▸ rank_any a w ha

set_option maxHeartbeats 1000000 in
/-- the first fault is the earlier one -/
theorem walkF (f g h s l m n : Int) (w : World) (c1 : Ear f g f) (c2 : Ear g f f) (c3 : Ear f h l) (c4 : Ear g h s) (c5 : Ear f s l) (c6 : Ear f f f) (c7 : Ear f 0 f) (c8 : Ear 0 f f)
    (k1 : Rnk f m) (k2 : Rnk g n) (hmn : ¬ n < m) :
    Calls Try.prog 3 #[.int .u8 f, .int .u8 g, .int .u8 h] w fun e w' => e = .returned (.bool true) ∧ Grown w w' := by
  go_enter Try.func3, Try.ntmps3
  go_wp2_with fail
  refine (c1 _).mono ?_
  rintro e w' ⟨rfl, rfl⟩
  go_wp2_with fail
  refine (k1 _).mono ?_
  rintro e w' ⟨rfl, rfl⟩
  go_wp2_with fail
  refine (k2 _).mono ?_
  rintro e w' ⟨rfl, rfl⟩
  go_wp2_with fail
  refine (k1 _).mono ?_
  rintro e w' ⟨rfl, rfl⟩
  go_wp2_with fail
  refine (c2 _).mono ?_
  rintro e w' ⟨rfl, rfl⟩
  go_wp2_with fail
  refine (c3 _).mono ?_
  rintro e w' ⟨rfl, rfl⟩
  go_wp2_with fail
  refine (c4 _).mono ?_
  rintro e w' ⟨rfl, rfl⟩
  go_wp2_with fail
  refine (c5 _).mono ?_
  rintro e w' ⟨rfl, rfl⟩
  go_wp2_with fail
  refine (c6 _).mono ?_
  rintro e w' ⟨rfl, rfl⟩
  go_wp2_with fail
  refine (c7 _).mono ?_
  rintro e w' ⟨rfl, rfl⟩
  go_wp2_with fail
  refine (c8 _).mono ?_
  rintro e w' ⟨rfl, rfl⟩
  go_wp2_with fail
  go_ret
  exact ⟨rfl, Grown.refl _⟩

set_option maxHeartbeats 1000000 in
/-- the second fault is the earlier one, and is not the first -/
theorem walkG (f g h s l m n : Int) (w : World) (c1 : Ear f g g) (c2 : Ear g f g) (c3 : Ear g h l) (c4 : Ear g h s) (c5 : Ear f s l) (c6 : Ear f f f) (c7 : Ear f 0 f) (c8 : Ear 0 f f)
    (k1 : Rnk f m) (k2 : Rnk g n) (hmn : n < m) (hne : (g != f) = true) :
    Calls Try.prog 3 #[.int .u8 f, .int .u8 g, .int .u8 h] w fun e w' => e = .returned (.bool true) ∧ Grown w w' := by
  go_enter Try.func3, Try.ntmps3
  go_wp2_with fail
  refine (c1 _).mono ?_
  rintro e w' ⟨rfl, rfl⟩
  go_wp2_with fail
  refine (k1 _).mono ?_
  rintro e w' ⟨rfl, rfl⟩
  go_wp2_with fail
  refine (k2 _).mono ?_
  rintro e w' ⟨rfl, rfl⟩
  go_wp2_with fail
  refine (k2 _).mono ?_
  rintro e w' ⟨rfl, rfl⟩
  go_wp2_with fail
  refine (k2 _).mono ?_
  rintro e w' ⟨rfl, rfl⟩
  go_wp2_with fail
  refine (c2 _).mono ?_
  rintro e w' ⟨rfl, rfl⟩
  go_wp2_with fail
  refine (c3 _).mono ?_
  rintro e w' ⟨rfl, rfl⟩
  go_wp2_with fail
  refine (c4 _).mono ?_
  rintro e w' ⟨rfl, rfl⟩
  go_wp2_with fail
  refine (c5 _).mono ?_
  rintro e w' ⟨rfl, rfl⟩
  go_wp2_with fail
  refine (c6 _).mono ?_
  rintro e w' ⟨rfl, rfl⟩
  go_wp2_with fail
  refine (c7 _).mono ?_
  rintro e w' ⟨rfl, rfl⟩
  go_wp2_with fail
  refine (c8 _).mono ?_
  rintro e w' ⟨rfl, rfl⟩
  go_wp2_with fail
  go_ret
  exact ⟨rfl, Grown.refl _⟩

theorem walk (a0 : Int) (a1 : Int) (a2 : Int) (w0 : (Lit.int .u8 a0).wf = true) (w1 : (Lit.int .u8 a1).wf = true) (w2 : (Lit.int .u8 a2).wf = true) (w : World) :
    Calls Try.prog 3 #[.int .u8 a0, .int .u8 a1, .int .u8 a2] w fun e w' => e = .returned (.bool true) ∧ Grown w w' := by
  have b0 := bounds_u8 w0
  have b1 := bounds_u8 w1
  have b2 := bounds_u8 w2
  have bz : (0 : Int) ≤ 0 ∧ (0 : Int) ≤ 255 := by omega
  have b12 := er_bd a1 a2 b1 b2
  have hassoc := er_assoc a0 a1 a2 b0.1 b1.1 b2.1
  by_cases c : rk a1 < rk a0
  · have h : er a0 a1 = a1 := by
      rcases er_or a0 a1 with h | h
      · have := rk_min1 a0 a1 b0 b1 c
        rw [h] at this; omega
      · exact h
    rw [h] at hassoc
    refine walkG a0 a1 a2 (er a1 a2) (er a1 a2) (rk a0) (rk a1) w (ear_mk b0 b1 h) (ear_mk b1 b0 (by rw [er_comm, h])) (ear_mk b1 b2 rfl) (ear_mk b1 b2 rfl) (ear_mk b0 b12 hassoc.symm) (ear_mk b0 b0 (er_self _)) (ear_mk b0 bz (er_zr _)) (ear_mk bz b0 (er_zl _)) (rnk_mk b0 rfl) (rnk_mk b1 rfl) c ?_
    have : a1 ≠ a0 := by rintro rfl; omega
    simpa using this
  · have h : er a0 a1 = a0 := by
      unfold rk at c
      unfold er
      repeat' split at c
      all_goals (repeat' split)
      all_goals omega
    rw [h] at hassoc
    exact walkF a0 a1 a2 (er a1 a2) (er a0 a2) (rk a0) (rk a1) w (ear_mk b0 b1 h) (ear_mk b1 b0 (by rw [er_comm, h])) (ear_mk b0 b2 rfl) (ear_mk b1 b2 rfl) (ear_mk b0 b12 hassoc.symm) (ear_mk b0 b0 (er_self _)) (ear_mk b0 bz (er_zr _)) (ear_mk bz b0 (er_zl _)) (rnk_mk b0 rfl) (rnk_mk b1 rfl) c

/-! ### THE ROW's STEP: WRITTEN OUT: LEAVE IT -/
set_option maxRecDepth 100000 in
theorem lifted (os : Os) (started : os.Started) (H : Type) (enc : TypeId × Value → H) :
    ReturnsInHanded {} Try.checked os 3 .any (Rows.fnEarlierPicksFirstRealFaultSpec.pre6 enc Try.prog Try.f3 Rows.fnEarlierPicksFirstRealFaultRow.domain false) (Rows.fnEarlierPicksFirstRealFaultSpec.post enc Try.prog Try.f3 false true false false) := by
  refine returnsInHanded_of_change (C := Try.checked) own started (by kernel_rfl) Try.func3
    (ChangeSpec.witness6 (enc := enc) (C := Try.checked) false ⟨#[], #[.int .u8 0, .int .u8 0, .int .u8 0], []⟩ 8 (by kernel_rfl) (by kernel_rfl) (by kernel_rfl) (by kernel_rfl)) ?_
  intro W base args ds gs before hval0 hW hcnd _
  have hval : ∀ (j : Nat) t v, Try.f3.params[j]? = some t → args[j]? = some v → Value.okWide Try.prog W .any base t v := hval0
  have hW' := hW
  obtain ⟨p, q, hA0, hV, rfl, hfz, hnd⟩ := hW
  have hA : DataW.TrodAll enc Try.prog W 0 (fun _ => true) true Try.f3.params.toList args.toList ds p := hA0
  rw [Try.params3] at hA hval
  obtain ⟨v0, vs0, d0, ds0, p0, q0, hargs, rfl, rfl, h0, r0⟩ := trodAll_cons hA
  obtain ⟨v1, vs1, d1, ds1, p1, q1, rfl, rfl, rfl, h1, r1⟩ := trodAll_cons r0
  obtain ⟨v2, vs2, d2, ds2, p2, q2, rfl, rfl, rfl, h2, r2⟩ := trodAll_cons r1
  obtain ⟨rfl, rfl, rfl⟩ := trodAll_nil r2
  obtain rfl : args = #[v0, v1, v2] := by cases args; simp_all
  obtain ⟨rfl, rfl⟩ := trodVars_none hV
  obtain ⟨a0, rfl, rfl, rfl, w0⟩ := open_int Try.underlying5 (hval 0 5 v0 rfl rfl) h0
  obtain ⟨a1, rfl, rfl, rfl, w1⟩ := open_int Try.underlying5 (hval 1 5 v1 rfl rfl) h1
  obtain ⟨a2, rfl, rfl, rfl, w2⟩ := open_int Try.underlying5 (hval 2 5 v2 rfl rfl) h2
  clear hA0 hval0
  simp only [List.append_nil] at hW'
  refine (walk a0 a1 a2 w0 w1 w2 W).mono fun e W' ⟨he, hg⟩ => ?_
  subst he
  exact ⟨_, rfl, post_of_same (pa := []) (pv := []) hW' (fun _ _ _ => (trodAll_cons_mk (shut_bool Try.underlying4 _) trodAll_mk0)) (fun sp _ => (trodAll_cons_mk (shut_int Try.underlying5 w0) (trodAll_cons_mk (shut_int Try.underlying5 w1) (trodAll_cons_mk (shut_int Try.underlying5 w2) trodAll_mk0)))) (fun _ _ => rfl) rfl
    (hg.frame _) hg.2.1 (ok_one (by kernel_rfl) rfl (okWide_bool_mk Try.underlying4 _))⟩

theorem over : Rows.fnEarlierPicksFirstRealFaultRow.holds Try.pinned (OpenSpec.ofChange Rows.fnEarlierPicksFirstRealFaultSpec) :=
  OpenClaim.holds_of_wide 3 Try.f3 rfl rfl rfl rfl rfl rfl rfl ⟨rfl, rfl, rfl, rfl, rfl⟩ rfl rfl rfl rfl rfl (by kernel_rfl) Try.func3 (by kernel_rfl)
    (of_decide_eq_true (by kernel_rfl)) (by unfold Func.isWrapper; first | (rw [if_pos (by decide +kernel)]; kernel_rfl) | (rw [if_neg (by decide +kernel)]; exact ⟨rfl, rfl⟩))
    (fun os started H enc _ => lifted os started H enc)

/-- ████ THE STATEMENT ████ -/
theorem proved : Rows.FnEarlierPicksFirstRealFaultSaid :=
  over
#print axioms proved
end Go.Proofs.Qxb6002606a.fnEarlierPicksFirstRealFault
