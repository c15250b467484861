import Derived.Test.Qxb6002606aMarker
namespace Go.Proofs.Qxb6002606a.fnHasMarkerSumSpec
open Go.ChangeShapes Go.WideShapes Go.ChangeAt Go.RowKit
open Go.ChangeMaps (open_string shut_string)
open Go.Proofs.Qxb6002606a.Base
set_option linter.unusedVariables false

theorem own : ownKnob Try.prog.godebug = none := by kernel_rfl
theorem laidOut : laidOutB Try.prog = true := by kernel_rfl

/-- WHAT THE WALK IS TOLD OF A SLICE OF INTEGERS THAT CAME IN: it is nil; or it leads to a row of 'cap' cells, the numbers 'zs' (the first 'len' are its elements, the rest its spare room), each fitting its kind. -/
def IsRow (k : IntKind) (w : World) (a : Option Addr) (len cap : Nat) (zs : List Int) : Prop :=
  (a = none ∧ len = 0 ∧ cap = 0 ∧ zs = []) ∨
  ∃ x, a = some x ∧ len ≤ cap ∧ cap ≤ maxLen ∧ zs.length = cap ∧ (∀ i, i < zs.length → w.cell? (x.add i) = some (.int k (zs.getD i 0))) ∧ ∀ n ∈ zs, (Lit.int k n).wf = true

/-! ### THE PLAIN LAW -/
/-- the sum of the first k octets -/
def sm (zs : List Int) : Nat → Int
  | 0 => 0
  | k + 1 => sm zs k + zs.getD k 0

theorem sm_bd {zs : List Int} (hb : ∀ j, 0 ≤ zs.getD j 0 ∧ zs.getD j 0 ≤ 255) (k : Nat) : 0 ≤ sm zs k ∧ sm zs k ≤ 255 * k := by
  induction k with
  | zero => simp [sm]
  | succ k ih => have := hb k; simp only [sm]; omega

theorem sm_full {zs : List Int} (h : ∀ j, j < 16 → zs.getD j 0 = 255) (k : Nat) (hk : k ≤ 16) : sm zs k = 255 * k := by
  induction k with
  | zero => rfl
  | succ k ih => have := h k (by omega); have := ih (by omega); simp only [sm]; omega

theorem sm_all {zs : List Int} (hb : ∀ j, 0 ≤ zs.getD j 0 ∧ zs.getD j 0 ≤ 255) (k : Nat) (h : sm zs k = 255 * k) : ∀ j, j < k → zs.getD j 0 = 255 := by
  induction k with
  | zero => intro j hj; omega
  | succ k ih =>
    have h1 := hb k
    have h2 := sm_bd hb k
    simp only [sm] at h
    intro j hj
    by_cases e : j = k
    · rw [e]; omega
    · exact ih (by omega) j (by omega)

theorem mk_sum {zs : List Int} (hl : 16 ≤ zs.length) (hb : ∀ j, 0 ≤ zs.getD j 0 ∧ zs.getD j 0 ≤ 255) : mk zs = (sm zs 16 == 4080) := by
  by_cases h : sm zs 16 = 4080
  · have ha := sm_all hb 16 (by omega)
    rw [mk_true hl ha, h]; rfl
  · have : ∃ k, k < 16 ∧ zs.getD k 0 ≠ 255 := by
      apply Classical.byContradiction
      intro hn
      apply h
      rw [sm_full (fun j hj => Classical.byContradiction fun hc => hn ⟨j, hj, hc⟩) 16 (Nat.le_refl _)]
      rfl
    obtain ⟨k, hk, hne⟩ := this
    rw [mk_false hk hl hne]
    simpa using h

theorem mk_take (zs : List Int) : mk (zs.take 16) = mk zs := by simp [mk, List.take_take]

/-- the first k octets set to 255 -/
def ffs (zs : List Int) (k : Nat) : List Int := List.replicate k 255 ++ zs.drop k
theorem ffs_set {zs : List Int} {k : Nat} (hk : k < zs.length) : (ffs zs k).set k 255 = ffs zs (k + 1) := by
  apply List.ext_getElem?
  intro j
  rw [List.getElem?_set]
  unfold ffs
  by_cases hj : k = j
  · subst hj
    rw [if_pos rfl, if_pos (by simp; omega), List.getElem?_append_left (by simp)]
    simp
  · rw [if_neg hj]
    by_cases hlt : j < k
    · rw [List.getElem?_append_left (by simp; omega), List.getElem?_append_left (by simp; omega)]
      simp [hlt, show j < k + 1 by omega]
    · rw [List.getElem?_append_right (by simp; omega), List.getElem?_append_right (by simp; omega)]
      simp only [List.length_replicate, List.getElem?_drop]
      congr 1
      omega
theorem ffs_mk {zs : List Int} (hl : 16 ≤ zs.length) : mk (ffs zs 16) = true := by
  apply mk_true (by simp [ffs])
  intro j hj
  unfold ffs
  rw [List.getD_eq_getElem?_getD, List.getElem?_append_left (by simpa using hj), List.getElem?_replicate, if_pos hj]
  rfl
theorem ffs_own {w : World} {base g n cap : Nat} {zs : List Int} {k : Nat} (hk : k < zs.length) (h : w.ownsRow base 5 1 (.slice (some ⟨g, 0, none⟩) n cap) n ((ffs zs k).map (Value.int .u8))) :
    (w.setCell ⟨g, k, none⟩ (.int .u8 255)).ownsRow base 5 1 (.slice (some ⟨g, 0, none⟩) n cap) n ((ffs zs (k + 1)).map (Value.int .u8)) := by
  have := (h.stored k (.int .u8 255)).1
  rwa [← ffs_set hk, List.map_set]

/-! ### THE WALK -/
set_option maxHeartbeats 1600000 in
theorem walk_main (b off len cap : Nat) (zs : List Int) (w : World) (hz : zs.length = len) (h16 : 16 ≤ len) (hl : len ≤ 1048576) (hlc : len ≤ cap)
    (hc : ∀ i, i < len → w.cell? ⟨b, off + i, none⟩ = some (.int .u8 (zs.getD i 0))) (hb : ∀ j, 0 ≤ zs.getD j 0 ∧ zs.getD j 0 ≤ 255) :
    Calls Try.prog 5 #[.slice (some ⟨b, off, none⟩) len cap] w fun e w' => e = .returned (.bool true) ∧ Below w.heap.size w w' := by
  have HC : Hid (∀ i, i < len → w.cell? ⟨b, off + i, none⟩ = some (.int .u8 (zs.getD i 0))) := hc
  have HB : Hid (∀ j, 0 ≤ zs.getD j 0 ∧ zs.getD j 0 ≤ 255) := hb
  have HM : Hid (mk zs = (sm zs 16 == 4080)) := mk_sum (by omega) hb
  clear hc hb
  go_enter Try.func5, Try.ntmps5
  go_wp2_with fail
  refine (bytes14_yes _ _ _ _ hl).mono ?_
  rintro e w ⟨rfl, rfl⟩
  go_wp2_with fail
  refine (clone_some b off len cap zs _ hz hl HC.out).mono ?_
  rintro e w1 ⟨rfl, hown, hbel⟩
  go_wp2_with fail
  go_loop [3, 4] (fun s i => ∃ k : Nat, k ≤ 16 ∧ i = .int .i64 k ∧ s = .int .i64 (sm zs k)) (fun _ i => 16 - (intOf i).toNat)
  case atStart => exact ⟨0, by omega, rfl, rfl⟩
  case round =>
    obtain ⟨k, hk, rfl, rfl⟩ := hrel
    obtain ⟨hs0, hs1⟩ := sm_bd HB.out k
    by_cases hlt : k < 16
    · have hcell := own_cell hown k (by omega)
      obtain ⟨hc0, hc1⟩ := HB.out k
      have HS : Hid (sm zs (k + 1) = sm zs k + zs.getD k 0) := rfl
      obtain ⟨c, hcc⟩ : ∃ c, c = zs.getD k 0 := ⟨_, rfl⟩
      rw [← hcc] at hcell hc0 hc1 HS
      clear hcc
      go_wp2
      go_round
      case rel => exact ⟨k + 1, by omega, by go_num, by rw [HS.out]⟩
      case measure => simp [intOf]; omega
    · have hk16 : k = 16 := by omega
      subst hk16
      obtain ⟨m, hm⟩ : ∃ m, m = mk zs := ⟨_, rfl⟩
      have HM' : Hid (m = mk zs) := hm
      have c1 : ∀ i, i < 16 → w1.cell? ⟨w.heap.size, 0 + i, none⟩ = some (.int .u8 (zs.getD i 0)) := fun i hi => by rw [Nat.zero_add]; exact own_cell hown i (by omega)
      have HC1 : Hid (∀ i, i < 16 → w1.cell? ⟨w.heap.size, 0 + i, none⟩ = some (.int .u8 ((zs.take 16).getD i 0))) := fun i hi => by
        rw [c1 i hi]; simp [hi]
      have hm1 := zzHasMarker_any w.heap.size 0 len len zs w1 (by omega) h16 (Nat.le_refl _) hl c1
      rw [← hm] at hm1
      have hsm : (sm zs 16 == 4080) = m := by rw [hm]; exact HM.out.symm
      obtain ⟨s, hs⟩ : ∃ s, s = sm zs 16 := ⟨_, rfl⟩
      rw [← hs] at hsm hs0 hs1 ⊢
      clear hm hs c1 hlt hk
      have Hm1 : Hid (Calls Try.prog 15 #[Value.slice (some ⟨w.heap.size, 0, none⟩) len len] w1 fun e w' => e = Ending.returned (Value.bool m) ∧ w' = w1) := hm1
      clear hm1
      cases m
      all_goals
        go_wp2_with fail
        refine Hm1.out.mono ?_
        rintro e w1 ⟨rfl, rfl⟩
        go_wp2_with fail
        refine (clone_some w.heap.size 0 16 len (zs.take 16) _ (by simp; omega) (by omega) HC1.out).mono ?_
        rintro e w2 ⟨rfl, hown2, hbel2⟩
        go_wp2_with fail
        refine (zzHasMarker_any w1.heap.size 0 16 16 (zs.take 16) w2 (by simp; omega) (Nat.le_refl _) (Nat.le_refl _) (by omega) (fun i hi => by rw [Nat.zero_add]; exact own_cell hown2 i hi)).mono ?_
        rintro e w2 ⟨rfl, rfl⟩
        rw [mk_take, ← HM'.out]
        have hown3 := own_below hown hbel2 (own_lt hown)
        have hbel3 : Below w.heap.size w w2 := hbel.trans (hbel2.mono hbel.size)
        clear hown hbel hown2 hbel2 HC1 Hm1
        go_wp2_with fail
        go_loopw [7] (fun i wr => ∃ k : Nat, k ≤ 16 ∧ i = .int .i64 k ∧ wr.ownsRow w.heap.size 5 1 (.slice (some ⟨w.heap.size, 0, none⟩) len len) len ((ffs zs k).map (Value.int .u8)) ∧ Below w.heap.size w wr) (fun i _ => 16 - (intOf i).toNat)
        case atStart => exact ⟨0, by omega, rfl, by simpa [ffs] using hown3, hbel3⟩
        case round =>
          obtain ⟨k, hk, rfl, hown, hnx⟩ := hrel
          clear hown3 hbel3
          by_cases hlt : k < 16
          · have g2 : wr.frozen? ⟨w.heap.size, k, none⟩ = false := hown.frozenAt k
            have g3 : wr.cell? ⟨w.heap.size, k, none⟩ = some (.int .u8 ((ffs zs k).getD k 0)) := own_cell hown k (by omega)
            have hown' := ffs_own (k := k) (by omega) hown
            go_wp2
            go_roundw
            case rel => exact ⟨k + 1, by omega, by go_num, hown', hnx.setCell (Nat.le_refl _) _⟩
            case measure => simp [intOf]; omega
          · have hk16 : k = 16 := by omega
            subst hk16
            have hfl : 16 ≤ (ffs zs 16).length := by simp [ffs]
            have HZ : Hid (mk (ffs zs 16) = true) := ffs_mk (by omega)
            have hcl := zzHasMarker_any w.heap.size 0 len len (ffs zs 16) wr hfl h16 (Nat.le_refl _) hl (fun i hi => by rw [Nat.zero_add]; exact own_cell hown i (by omega))
            rw [HZ.out] at hcl
            have Hcl : Hid (Calls Try.prog 15 #[Value.slice (some ⟨w.heap.size, 0, none⟩) len len] wr fun e w' => e = Ending.returned (Value.bool true) ∧ w' = wr) := hcl
            clear hcl HZ hfl
            go_wp2_with fail
            refine Hcl.out.mono ?_
            rintro e wr ⟨rfl, rfl⟩
            go_wp2_with fail
            go_ret
            exact ⟨rfl, hnx⟩

set_option maxHeartbeats 400000 in
theorem walk_short (a : Option Addr) (len cap : Nat) (w : World) (h : len < 16) :
    Calls Try.prog 5 #[.slice a len cap] w fun e w' => e = .returned (.bool true) ∧ Below w.heap.size w w' := by
  go_enter Try.func5, Try.ntmps5
  go_wp2_with (go_at_call 14; refine (bytes14_yes _ _ _ _ (by omega)).mono ?_; rintro e w ⟨rfl, rfl⟩)
  go_ret
  exact ⟨rfl, Below.refl _ _⟩

set_option maxHeartbeats 400000 in
theorem walk_long (a : Option Addr) (len cap : Nat) (w : World) (h : ¬ len ≤ 1048576) :
    Calls Try.prog 5 #[.slice a len cap] w fun e w' => e = .returned (.bool true) ∧ Below w.heap.size w w' := by
  go_enter Try.func5, Try.ntmps5
  go_wp2_with (go_at_call 14; refine (bytes14_no _ _ _ _ h).mono ?_; rintro e w ⟨rfl, rfl⟩)
  go_ret
  exact ⟨rfl, Below.refl _ _⟩

theorem walk (a0 : Option Addr) (len0 cap0 : Nat) (z0 : List Int) (w : World) (w0 : IsRow .u8 w a0 len0 cap0 z0) :
    Calls Try.prog 5 #[.slice a0 len0 cap0] w fun e w' => e = .returned (.bool true) ∧ Below w.heap.size w w' := by
  by_cases h1 : len0 ≤ 1048576
  · by_cases h2 : len0 < 16
    · exact walk_short a0 len0 cap0 w h2
    · rcases w0 with ⟨rfl, rfl, rfl, rfl⟩ | ⟨x, rfl, hlc, hcm, hz, hc, hwf⟩
      · omega
      · obtain ⟨b, off, rfl, hcc⟩ := ints_at hc (by omega)
        have hr := range_u8 hwf
        refine walk_main b off len0 cap0 (z0.take len0) w (by simp; omega) (by omega) h1 hlc (fun i hi => ?_) (take_bd len0 hr)
        rw [hcc i (by omega)]; simp [hi]
  · exact walk_long a0 len0 cap0 w h1

/-! ### THE ROW's STEP: WRITTEN OUT: LEAVE IT -/
set_option maxRecDepth 100000 in
theorem lifted (os : Os) (started : os.Started) (H : Type) (enc : TypeId × Value → H) :
    ReturnsInHanded {} Try.checked os 5 .any (Rows.fnHasMarkerSumSpecSpec.pre6 enc Try.prog Try.f5 Rows.fnHasMarkerSumSpecRow.domain false) (Rows.fnHasMarkerSumSpecSpec.post enc Try.prog Try.f5 false true false false) := by
  refine returnsInHanded_of_change (C := Try.checked) own started (by kernel_rfl) Try.func5
    (ChangeSpec.witness6 (enc := enc) (C := Try.checked) false ⟨#[], #[.slice none 0 0], []⟩ 8 (by kernel_rfl) (by kernel_rfl) (by kernel_rfl) (by kernel_rfl)) ?_
  intro W base args ds gs before hval0 hW hcnd _
  have hval : ∀ (j : Nat) t v, Try.f5.params[j]? = some t → args[j]? = some v → Value.okWide Try.prog W .any base t v := hval0
  have hW' := hW
  obtain ⟨p, q, hA0, hV, rfl, hfz, hnd⟩ := hW
  have hA : DataW.TrodAll enc Try.prog W 0 (fun _ => true) true Try.f5.params.toList args.toList ds p := hA0
  rw [Try.params5] at hA hval
  obtain ⟨v0, vs0, d0, ds0, p0, q0, hargs, rfl, rfl, h0, r0⟩ := trodAll_cons hA
  obtain ⟨rfl, rfl, rfl⟩ := trodAll_nil r0
  obtain rfl : args = #[v0] := by cases args; simp_all
  obtain ⟨rfl, rfl⟩ := trodVars_none hV
  obtain ⟨a0, len0, cap0, rfl⟩ := okWide_slice Try.underlying26 (hval 0 26 v0 rfl rfl)
  have k0 := h0
  have lt0 : ∀ x ∈ p0, x.block < W.heap.size := by obtain ⟨m, hm⟩ := k0; exact DataW.trod_lt m _ _ _ hm
  obtain ⟨z0, w0⟩ : ∃ zs, IsRow .u8 W a0 len0 cap0 zs := by
    obtain ⟨fuel, hf⟩ := h0
    rcases open_ints Try.underlying26 Try.underlying5 (by kernel_rfl) hf with ⟨hcs, _⟩ | ⟨x, l, c, zs, hcs, _, hl, hm, hz, _, hcell, hwz⟩
    · simp [Value.cells] at hcs
      obtain ⟨rfl, rfl, rfl⟩ := hcs
      exact ⟨[], .inl ⟨rfl, rfl, rfl, rfl⟩⟩
    · simp [Value.cells] at hcs
      obtain ⟨rfl, rfl, rfl⟩ := hcs
      exact ⟨zs, .inr ⟨_, rfl, hl, hm, by simpa using hz, hcell, hwz⟩⟩
  clear hA0 hval0
  refine (walk a0 len0 cap0 z0 W w0).mono fun e W' ⟨he, bel⟩ => ?_
  subst he
  exact ⟨_, rfl, _, _, _, [], _, [], hW', trodAll_mk1 (shut_bool Try.underlying4 _), (trodAll_cons_mk (Below.trod laidOut (by kernel_rfl) (of_decide_eq_true (by kernel_rfl)) k0 bel lt0) trodAll_mk0), rfl, bel.frame _, fun h => by cases h⟩

theorem over : Rows.fnHasMarkerSumSpecRow.holds Try.pinned (OpenSpec.ofChange Rows.fnHasMarkerSumSpecSpec) :=
  OpenClaim.holds_of_wide 5 Try.f5 rfl rfl rfl rfl rfl rfl rfl ⟨rfl, rfl, rfl, rfl, rfl⟩ rfl rfl rfl rfl rfl (by kernel_rfl) Try.func5 (by kernel_rfl)
    (of_decide_eq_true (by kernel_rfl)) (by unfold Func.isWrapper; first | (rw [if_pos (by decide +kernel)]; kernel_rfl) | (rw [if_neg (by decide +kernel)]; exact ⟨rfl, rfl⟩))
    (fun os started H enc _ => lifted os started H enc)

/-- ████ THE STATEMENT ████ -/
theorem proved : Rows.FnHasMarkerSumSpecSaid := over
#print axioms proved
end Go.Proofs.Qxb6002606a.fnHasMarkerSumSpec
