import Derived.Test.Qxb6601645aItoa
namespace Go.Proofs.Qxb6601645a.fnPlainjsonNumberReadsEveryInt64
open Go.ChangeShapes Go.WideShapes Go.ChangeAt Go.RowKit
open Go.ChangeMaps (open_string shut_string)
open Go.Proofs.Qxb6601645a.Base
set_option linter.unusedVariables false

theorem own : ownKnob Try.prog.godebug = none := by kernel_rfl

set_option maxHeartbeats 400000 in
theorem bytes17_yes (a c : ByteArray) (x y z : Value) (w : World) (h : a.size + c.size ≤ 1048576) :
    Calls Try.prog 17 #[.string a, x, .string c, y, z] w fun e w' => e = .returned (.bool true) ∧ w' = w := by
  go_enter Try.func17, Try.ntmps17
  go_wp2
  go_ret
  exact ⟨rfl, rfl⟩
set_option maxHeartbeats 1600000 in
theorem bytes17_no (a c : ByteArray) (x y z : Value) (w : World) (h : ¬ a.size + c.size ≤ 1048576) (ha : a.size ≤ maxLen) (hc : c.size ≤ maxLen) :
    Calls Try.prog 17 #[.string a, x, .string c, y, z] w fun e w' => e = .returned (.bool false) ∧ w' = w := by
  unfold maxLen at ha hc
  go_enter Try.func17, Try.ntmps17
  go_wp2
  all_goals (first | omega | (go_ret; exact ⟨rfl, rfl⟩))

set_option maxHeartbeats 1600000 in
theorem walk_0 (pre : ByteArray) (n : Int) (post : ByteArray) (ok : Bool) (d : Int) (w : World) (h1 : pre.size ≤ 262144) (h3 : post.size ≤ 262144) (hn0 : -9223372036854775808 ≤ n) (hn1 : n ≤ 9223372036854775807) (hp : post.size = 0) :
    Calls Try.prog 6 #[.string pre, .int .i64 n, .string post, .bool ok, .int .i64 d] w fun e w' => e = .returned (.bool true) ∧ Below w.heap.size w w' := by
  have HP : Hid (post.size = 0 ∨ isDg (bt post 0) = false) := Or.inl hp
  have hp0 : ¬ (0 : Int) < (post.size : Int) := by omega
  clear hp
  go_enter Try.func6, Try.ntmps6
  go_wp2_with fail
  refine (bytes17_yes _ _ _ _ _ _ (by omega)).mono ?_
  rintro e w ⟨rfl, rfl⟩
  go_wp2_with fail
  refine (itoa_any n _ hn0 hn1).mono ?_
  rintro e w1 ⟨T, rfl, ⟨sg, hnum, hT, hok0⟩, hb1⟩
  have HT := hide hnum
  have HO := hide hok0
  clear hnum hok0
  go_wp2_with fail
  have hss : (pre ++ T ++ post).size = pre.size + T.size + post.size := by simp [ByteArray.size_append]
  refine (zznumber_any (pre ++ T ++ post) pre.size ok d _ (by omega) (by omega)).mono ?_
  rintro e w2 ⟨j, k', rfl, hj, hkk, hb⟩
  obtain ⟨rfl, rfl, hext, hok⟩ := num_read HT.out HP.out hj hkk
  have hfin : okNum (pre ++ T ++ post) (dig0 (pre ++ T ++ post) pre.size) (pre.size + T.size) = true := by
    rw [hok, HO.out]; rfl
  rw [hfin, hext, Bool.and_true]
  have e1 : ((pre.size + T.size : Nat) : Int) = (pre.size : Int) + (T.size : Int) := by omega
  have hb2 : Below w.heap.size w w2 := hb1.trans (hb.mono hb1.size)
  clear hj hkk hext hok hfin hss HT HO HP hb hb1
  go_wp2
  go_ret
  exact ⟨rfl, hb2⟩

set_option maxHeartbeats 1600000 in
theorem walk_1 (pre : ByteArray) (n : Int) (post : ByteArray) (ok : Bool) (d : Int) (w : World) (h1 : pre.size ≤ 262144) (h3 : post.size ≤ 262144) (hn0 : -9223372036854775808 ≤ n) (hn1 : n ≤ 9223372036854775807) (hq : 0 < post.size) (hp : isDg (bt post 0) = false) :
    Calls Try.prog 6 #[.string pre, .int .i64 n, .string post, .bool ok, .int .i64 d] w fun e w' => e = .returned (.bool true) ∧ Below w.heap.size w w' := by
  have HP : Hid (post.size = 0 ∨ isDg (bt post 0) = false) := Or.inr hp
  rw [bt_eq hq] at hp
  have hq0 : (0 : Int) < (post.size : Int) := by omega
  go_enter Try.func6, Try.ntmps6
  go_wp2_with fail
  refine (bytes17_yes _ _ _ _ _ _ (by omega)).mono ?_
  rintro e w ⟨rfl, rfl⟩
  go_wp2_with fail
  refine (digit_any _ _).mono ?_
  rintro e w ⟨rfl, rfl⟩
  go_wp2_with fail
  refine (itoa_any n _ hn0 hn1).mono ?_
  rintro e w1 ⟨T, rfl, ⟨sg, hnum, hT, hok0⟩, hb1⟩
  have HT := hide hnum
  have HO := hide hok0
  clear hnum hok0
  go_wp2_with fail
  have hss : (pre ++ T ++ post).size = pre.size + T.size + post.size := by simp [ByteArray.size_append]
  refine (zznumber_any (pre ++ T ++ post) pre.size ok d _ (by omega) (by omega)).mono ?_
  rintro e w2 ⟨j, k', rfl, hj, hkk, hb⟩
  obtain ⟨rfl, rfl, hext, hok⟩ := num_read HT.out HP.out hj hkk
  have hfin : okNum (pre ++ T ++ post) (dig0 (pre ++ T ++ post) pre.size) (pre.size + T.size) = true := by
    rw [hok, HO.out]; rfl
  rw [hfin, hext, Bool.and_true]
  have e1 : ((pre.size + T.size : Nat) : Int) = (pre.size : Int) + (T.size : Int) := by omega
  have hb2 : Below w.heap.size w w2 := hb1.trans (hb.mono hb1.size)
  clear hj hkk hext hok hfin hss HT HO HP hb hb1
  go_wp2
  go_ret
  exact ⟨rfl, hb2⟩

set_option maxHeartbeats 400000 in
theorem walk_big (pre : ByteArray) (n : Int) (post : ByteArray) (ok : Bool) (d : Int) (w : World) (h : ¬ pre.size + post.size ≤ 1048576) (ha : pre.size ≤ maxLen) (hc : post.size ≤ maxLen) :
    Calls Try.prog 6 #[.string pre, .int .i64 n, .string post, .bool ok, .int .i64 d] w fun e w' => e = .returned (.bool true) ∧ Below w.heap.size w w' := by
  go_enter Try.func6, Try.ntmps6
  go_wp2_with (go_at_call 17; refine (bytes17_no _ _ _ _ _ _ h ha hc).mono ?_; rintro e w ⟨rfl, rfl⟩)
  go_ret
  exact ⟨rfl, Below.refl _ _⟩

set_option maxHeartbeats 800000 in
theorem walk_wide (pre : ByteArray) (n : Int) (post : ByteArray) (ok : Bool) (d : Int) (w : World) (h : pre.size + post.size ≤ 1048576) (hx : ¬ (pre.size ≤ 262144 ∧ post.size ≤ 262144)) :
    Calls Try.prog 6 #[.string pre, .int .i64 n, .string post, .bool ok, .int .i64 d] w fun e w' => e = .returned (.bool true) ∧ Below w.heap.size w w' := by
  by_cases h1 : pre.size ≤ 262144
  · have h3 : ¬ post.size ≤ 262144 := by omega
    clear hx
    go_enter Try.func6, Try.ntmps6
    go_wp2_with (go_at_call 17; refine (bytes17_yes _ _ _ _ _ _ h).mono ?_; rintro e w ⟨rfl, rfl⟩)
    go_ret
    exact ⟨rfl, Below.refl _ _⟩
  · clear hx
    go_enter Try.func6, Try.ntmps6
    go_wp2_with (go_at_call 17; refine (bytes17_yes _ _ _ _ _ _ h).mono ?_; rintro e w ⟨rfl, rfl⟩)
    go_ret
    exact ⟨rfl, Below.refl _ _⟩

set_option maxHeartbeats 800000 in
theorem walk_out (pre : ByteArray) (n : Int) (post : ByteArray) (ok : Bool) (d : Int) (w : World) (h1 : pre.size ≤ 262144) (h3 : post.size ≤ 262144) (hq : 0 < post.size) (hp : isDg (bt post 0) = true) :
    Calls Try.prog 6 #[.string pre, .int .i64 n, .string post, .bool ok, .int .i64 d] w fun e w' => e = .returned (.bool true) ∧ Below w.heap.size w w' := by
  rw [bt_eq hq] at hp
  have hq0 : (0 : Int) < (post.size : Int) := by omega
  go_enter Try.func6, Try.ntmps6
  go_wp2_with (first | (go_at_call 17; refine (bytes17_yes _ _ _ _ _ _ (by omega)).mono ?_; rintro e w ⟨rfl, rfl⟩) | (go_at_call 18; refine (digit_any _ _).mono ?_; rintro e w ⟨rfl, rfl⟩))
  go_ret
  exact ⟨rfl, Below.refl _ _⟩

theorem walk (a0 : ByteArray) (a1 : Int) (a2 : ByteArray) (a3 : Bool) (a4 : Int) (w0 : a0.size ≤ maxLen) (w1 : (Lit.int .i64 a1).wf = true) (w2 : a2.size ≤ maxLen) (w4 : (Lit.int .i64 a4).wf = true) (w : World) :
    Calls Try.prog 6 #[.string a0, .int .i64 a1, .string a2, .bool a3, .int .i64 a4] w fun e w' => e = .returned (.bool true) ∧ Below w.heap.size w w' := by
  have b1 := bounds_i64 w1
  by_cases hs : a0.size + a2.size ≤ 1048576
  · by_cases hx : a0.size ≤ 262144 ∧ a2.size ≤ 262144
    · obtain ⟨h1, h3⟩ := hx
      by_cases hq : 0 < a2.size
      · by_cases hp : isDg (bt a2 0) = true
        · exact walk_out a0 a1 a2 a3 a4 w h1 h3 hq hp
        · exact walk_1 a0 a1 a2 a3 a4 w h1 h3 b1.1 b1.2 hq (by simpa using hp)
      · exact walk_0 a0 a1 a2 a3 a4 w h1 h3 b1.1 b1.2 (by omega)
    · exact walk_wide a0 a1 a2 a3 a4 w hs hx
  · exact walk_big a0 a1 a2 a3 a4 w hs w0 w2

/-! ### THE ROW's STEP: WRITTEN OUT: LEAVE IT -/
set_option maxRecDepth 100000 in
theorem lifted (os : Os) (started : os.Started) (H : Type) (enc : TypeId × Value → H) :
    ReturnsInHanded {} Try.checked os 6 .any (Rows.fnPlainjsonNumberReadsEveryInt64Spec.pre6 enc Try.prog Try.f6 Rows.fnPlainjsonNumberReadsEveryInt64Row.domain false) (Rows.fnPlainjsonNumberReadsEveryInt64Spec.post enc Try.prog Try.f6 false true false false) := by
  refine returnsInHanded_of_change (C := Try.checked) own started (by kernel_rfl) Try.func6
    (ChangeSpec.witness6 (enc := enc) (C := Try.checked) false ⟨#[], #[.string ByteArray.empty, .int .i64 0, .string ByteArray.empty, .bool false, .int .i64 0], []⟩ 8 (by kernel_rfl) (by kernel_rfl) (by kernel_rfl) (by kernel_rfl)) ?_
  intro W base args ds gs before hval0 hW hcnd _
  have hval : ∀ (j : Nat) t v, Try.f6.params[j]? = some t → args[j]? = some v → Value.okWide Try.prog W .any base t v := hval0
  have hW' := hW
  obtain ⟨p, q, hA0, hV, rfl, hfz, hnd⟩ := hW
  have hA : DataW.TrodAll enc Try.prog W 0 (fun _ => true) true Try.f6.params.toList args.toList ds p := hA0
  rw [Try.params6] at hA hval
  obtain ⟨v0, vs0, d0, ds0, p0, q0, hargs, rfl, rfl, h0, r0⟩ := trodAll_cons hA
  obtain ⟨v1, vs1, d1, ds1, p1, q1, rfl, rfl, rfl, h1, r1⟩ := trodAll_cons r0
  obtain ⟨v2, vs2, d2, ds2, p2, q2, rfl, rfl, rfl, h2, r2⟩ := trodAll_cons r1
  obtain ⟨v3, vs3, d3, ds3, p3, q3, rfl, rfl, rfl, h3, r3⟩ := trodAll_cons r2
  obtain ⟨v4, vs4, d4, ds4, p4, q4, rfl, rfl, rfl, h4, r4⟩ := trodAll_cons r3
  obtain ⟨rfl, rfl, rfl⟩ := trodAll_nil r4
  obtain rfl : args = #[v0, v1, v2, v3, v4] := by cases args; simp_all
  obtain ⟨rfl, rfl⟩ := trodVars_none hV
  obtain ⟨a0, rfl, rfl, rfl, w0⟩ := open_string Try.underlying9 (hval 0 9 v0 rfl rfl) h0
  obtain ⟨a1, rfl, rfl, rfl, w1⟩ := open_int Try.underlying2 (hval 1 2 v1 rfl rfl) h1
  obtain ⟨a2, rfl, rfl, rfl, w2⟩ := open_string Try.underlying9 (hval 2 9 v2 rfl rfl) h2
  obtain ⟨a3, rfl, rfl, rfl⟩ := open_bool Try.underlying4 (hval 3 4 v3 rfl rfl) h3
  obtain ⟨a4, rfl, rfl, rfl, w4⟩ := open_int Try.underlying3 (hval 4 3 v4 rfl rfl) h4
  clear hA0 hval0
  simp only [List.append_nil] at hW'
  refine (walk a0 a1 a2 a3 a4 w0 w1 w2 w4 W).mono fun e W' ⟨he, bel⟩ => ?_
  subst he
  exact ⟨_, rfl, _, _, _, [], [], [], hW', trodAll_mk1 (shut_bool Try.underlying4 _), (trodAll_cons_mk (shut_string Try.underlying9 w0) (trodAll_cons_mk (shut_int Try.underlying2 w1) (trodAll_cons_mk (shut_string Try.underlying9 w2) (trodAll_cons_mk (shut_bool Try.underlying4 _) (trodAll_cons_mk (shut_int Try.underlying3 w4) trodAll_mk0))))), rfl, bel.frame _, fun h => by cases h⟩

theorem over : Rows.fnPlainjsonNumberReadsEveryInt64Row.holds Try.pinned (OpenSpec.ofChange Rows.fnPlainjsonNumberReadsEveryInt64Spec) :=
  OpenClaim.holds_of_wide 6 Try.f6 rfl rfl rfl rfl rfl rfl rfl ⟨rfl, rfl, rfl, rfl, rfl⟩ rfl rfl rfl rfl rfl (by kernel_rfl) Try.func6 (by kernel_rfl)
    (of_decide_eq_true (by kernel_rfl)) (by unfold Func.isWrapper; first | (rw [if_pos (by decide +kernel)]; kernel_rfl) | (rw [if_neg (by decide +kernel)]; exact ⟨rfl, rfl⟩))
    (fun os started H enc _ => lifted os started H enc)

/-- ████ THE STATEMENT ████ -/
theorem proved : Rows.FnPlainjsonNumberReadsEveryInt64Said :=
  over
#print axioms proved
end Go.Proofs.Qxb6601645a.fnPlainjsonNumberReadsEveryInt64
