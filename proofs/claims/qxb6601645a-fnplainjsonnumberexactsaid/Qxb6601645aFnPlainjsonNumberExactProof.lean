import Derived.Test.Qxb6601645aModel
namespace Go.Proofs.Qxb6601645a.fnPlainjsonNumberExact
open Go.ChangeShapes Go.WideShapes Go.ChangeAt Go.RowKit
open Go.ChangeMaps (open_string shut_string)
open Go.Proofs.Qxb6601645a.Base
set_option linter.unusedVariables false

theorem own : ownKnob Try.prog.godebug = none := by kernel_rfl

set_option maxHeartbeats 400000 in
theorem bytes14_yes (a : ByteArray) (x y z : Value) (w : World) (h : a.size ≤ 1048576) :
    Calls Try.prog 14 #[.string a, x, y, z] w fun e w' => e = .returned (.bool true) ∧ w' = w := by
  go_enter Try.func14, Try.ntmps14
  go_wp2
  go_ret
  exact ⟨rfl, rfl⟩
set_option maxHeartbeats 400000 in
theorem bytes14_no (a : ByteArray) (x y z : Value) (w : World) (h : ¬ a.size ≤ 1048576) :
    Calls Try.prog 14 #[.string a, x, y, z] w fun e w' => e = .returned (.bool false) ∧ w' = w := by
  go_enter Try.func14, Try.ntmps14
  go_wp2
  go_ret
  exact ⟨rfl, rfl⟩

set_option maxHeartbeats 1600000 in
theorem walk_main (s : ByteArray) (i : Nat) (ok : Bool) (d : Int) (w : World) (hs : s.size ≤ 1048576) (hi : i ≤ s.size) :
    Calls Try.prog 5 #[.string s, .int .i64 i, .bool ok, .int .i64 d] w fun e w' => e = .returned (.bool true) ∧ Below w.heap.size w w' := by
  have hi' : (i : Int) ≤ (s.size : Int) := by omega
  have hi0 : (0 : Int) ≤ (i : Int) := by omega
  go_enter Try.func5, Try.ntmps5
  go_wp2_with fail
  refine (bytes14_yes _ _ _ _ _ hs).mono ?_
  rintro e w ⟨rfl, rfl⟩
  go_wp2_with fail
  refine (zznumber_any s i ok d _ hs hi).mono ?_
  rintro e w1 ⟨j, k, rfl, hj, hk, hb⟩
  have HJ := hide hj
  have HK := hide hk
  clear hj hk
  obtain ⟨r, hr⟩ : ∃ r, r = (ok && okNum s (dig0 s j) k) := ⟨_, rfl⟩
  have HR := hide hr
  rw [← hr]
  clear hr
  go_wp2_with fail
  refine (model_any s i ok _ hs hi).mono ?_
  rintro e w1 ⟨j', k', rfl, hj', hk', rfl⟩
  obtain rfl := HJ.out.same hj'
  obtain rfl := HK.out.same hk'
  rw [← HR.out]
  clear HJ HK HR hj' hk'
  go_wp2
  go_ret
  exact ⟨rfl, hb⟩

set_option maxHeartbeats 400000 in
theorem walk_big (s : ByteArray) (i : Int) (ok : Bool) (d : Int) (w : World) (hs : ¬ s.size ≤ 1048576) :
    Calls Try.prog 5 #[.string s, .int .i64 i, .bool ok, .int .i64 d] w fun e w' => e = .returned (.bool true) ∧ Below w.heap.size w w' := by
  go_enter Try.func5, Try.ntmps5
  go_wp2_with (go_at_call 14; refine (bytes14_no _ _ _ _ _ hs).mono ?_; rintro e w ⟨rfl, rfl⟩)
  go_ret
  exact ⟨rfl, Below.refl _ _⟩

set_option maxHeartbeats 400000 in
theorem walk_out (s : ByteArray) (i : Int) (ok : Bool) (d : Int) (w : World) (hs : s.size ≤ 1048576) (hx : ¬ (0 ≤ i ∧ i ≤ (s.size : Int))) :
    Calls Try.prog 5 #[.string s, .int .i64 i, .bool ok, .int .i64 d] w fun e w' => e = .returned (.bool true) ∧ Below w.heap.size w w' := by
  by_cases h0 : 0 ≤ i
  · have h1 : ¬ i ≤ (s.size : Int) := by omega
    clear hx
    go_enter Try.func5, Try.ntmps5
    go_wp2_with (go_at_call 14; refine (bytes14_yes _ _ _ _ _ hs).mono ?_; rintro e w ⟨rfl, rfl⟩)
    go_ret
    exact ⟨rfl, Below.refl _ _⟩
  · clear hx
    go_enter Try.func5, Try.ntmps5
    go_wp2_with (go_at_call 14; refine (bytes14_yes _ _ _ _ _ hs).mono ?_; rintro e w ⟨rfl, rfl⟩)
    go_ret
    exact ⟨rfl, Below.refl _ _⟩

theorem walk (a0 : ByteArray) (a1 : Int) (a2 : Bool) (a3 : Int) (w0 : a0.size ≤ maxLen) (w1 : (Lit.int .i64 a1).wf = true) (w3 : (Lit.int .i64 a3).wf = true) (w : World) :
    Calls Try.prog 5 #[.string a0, .int .i64 a1, .bool a2, .int .i64 a3] w fun e w' => e = .returned (.bool true) ∧ Below w.heap.size w w' := by
  by_cases hs : a0.size ≤ 1048576
  · by_cases hx : 0 ≤ a1 ∧ a1 ≤ (a0.size : Int)
    · obtain ⟨i, rfl⟩ := Int.eq_ofNat_of_zero_le hx.1
      exact walk_main a0 i a2 a3 w hs (by omega)
    · exact walk_out a0 a1 a2 a3 w hs hx
  · exact walk_big a0 a1 a2 a3 w hs

/-! ### THE ROW's STEP: WRITTEN OUT: LEAVE IT -/
set_option maxRecDepth 100000 in
theorem lifted (os : Os) (started : os.Started) (H : Type) (enc : TypeId × Value → H) :
    ReturnsInHanded {} Try.checked os 5 .any (Rows.fnPlainjsonNumberExactSpec.pre6 enc Try.prog Try.f5 Rows.fnPlainjsonNumberExactRow.domain false) (Rows.fnPlainjsonNumberExactSpec.post enc Try.prog Try.f5 false true false false) := by
  refine returnsInHanded_of_change (C := Try.checked) own started (by kernel_rfl) Try.func5
    (ChangeSpec.witness6 (enc := enc) (C := Try.checked) false ⟨#[], #[.string ByteArray.empty, .int .i64 0, .bool false, .int .i64 0], []⟩ 8 (by kernel_rfl) (by kernel_rfl) (by kernel_rfl) (by kernel_rfl)) ?_
  intro W base args ds gs before hval0 hW hcnd _
  have hval : ∀ (j : Nat) t v, Try.f5.params[j]? = some t → args[j]? = some v → Value.okWide Try.prog W .any base t v := hval0
  have hW' := hW
  obtain ⟨p, q, hA0, hV, rfl, hfz, hnd⟩ := hW
  have hA : DataW.TrodAll enc Try.prog W 0 (fun _ => true) true Try.f5.params.toList args.toList ds p := hA0
  rw [Try.params5] at hA hval
  obtain ⟨v0, vs0, d0, ds0, p0, q0, hargs, rfl, rfl, h0, r0⟩ := trodAll_cons hA
  obtain ⟨v1, vs1, d1, ds1, p1, q1, rfl, rfl, rfl, h1, r1⟩ := trodAll_cons r0
  obtain ⟨v2, vs2, d2, ds2, p2, q2, rfl, rfl, rfl, h2, r2⟩ := trodAll_cons r1
  obtain ⟨v3, vs3, d3, ds3, p3, q3, rfl, rfl, rfl, h3, r3⟩ := trodAll_cons r2
  obtain ⟨rfl, rfl, rfl⟩ := trodAll_nil r3
  obtain rfl : args = #[v0, v1, v2, v3] := by cases args; simp_all
  obtain ⟨rfl, rfl⟩ := trodVars_none hV
  obtain ⟨a0, rfl, rfl, rfl, w0⟩ := open_string Try.underlying9 (hval 0 9 v0 rfl rfl) h0
  obtain ⟨a1, rfl, rfl, rfl, w1⟩ := open_int Try.underlying3 (hval 1 3 v1 rfl rfl) h1
  obtain ⟨a2, rfl, rfl, rfl⟩ := open_bool Try.underlying4 (hval 2 4 v2 rfl rfl) h2
  obtain ⟨a3, rfl, rfl, rfl, w3⟩ := open_int Try.underlying3 (hval 3 3 v3 rfl rfl) h3
  clear hA0 hval0
  simp only [List.append_nil] at hW'
  refine (walk a0 a1 a2 a3 w0 w1 w3 W).mono fun e W' ⟨he, bel⟩ => ?_
  subst he
  exact ⟨_, rfl, _, _, _, [], [], [], hW', trodAll_mk1 (shut_bool Try.underlying4 _), (trodAll_cons_mk (shut_string Try.underlying9 w0) (trodAll_cons_mk (shut_int Try.underlying3 w1) (trodAll_cons_mk (shut_bool Try.underlying4 _) (trodAll_cons_mk (shut_int Try.underlying3 w3) trodAll_mk0)))), rfl, bel.frame _, fun h => by cases h⟩

theorem over : Rows.fnPlainjsonNumberExactRow.holds Try.pinned (OpenSpec.ofChange Rows.fnPlainjsonNumberExactSpec) :=
  OpenClaim.holds_of_wide 5 Try.f5 rfl rfl rfl rfl rfl rfl rfl ⟨rfl, rfl, rfl, rfl, rfl⟩ rfl rfl rfl rfl rfl (by kernel_rfl) Try.func5 (by kernel_rfl)
    (of_decide_eq_true (by kernel_rfl)) (by unfold Func.isWrapper; first | (rw [if_pos (by decide +kernel)]; kernel_rfl) | (rw [if_neg (by decide +kernel)]; exact ⟨rfl, rfl⟩))
    (fun os started H enc _ => lifted os started H enc)

/-- ████ THE STATEMENT ████ -/
theorem proved : Rows.FnPlainjsonNumberExactSaid :=
  over
#print axioms proved
end Go.Proofs.Qxb6601645a.fnPlainjsonNumberExact
