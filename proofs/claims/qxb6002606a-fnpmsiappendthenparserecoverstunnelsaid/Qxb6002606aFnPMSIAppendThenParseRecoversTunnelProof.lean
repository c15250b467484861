import Derived.Test.Qxb6002606aPmsiParse
namespace Go.Proofs.Qxb6002606a.fnPMSIAppendThenParseRecoversTunnel
open Go.ChangeShapes Go.WideShapes Go.ChangeAt Go.RowKit
open Go.ChangeMaps (open_string shut_string)
open Go.Proofs.Qxb6002606a.Base
set_option linter.unusedVariables false

theorem own : ownKnob Try.prog.godebug = none := by kernel_rfl
theorem laidOut : laidOutB Try.prog = true := by kernel_rfl

/-- WHAT THE WALK IS TOLD OF A SLICE OF INTEGERS THAT CAME IN: it is nil; or it leads to a row of 'cap' cells, the numbers 'zs' (the first 'len' are its elements, the rest its spare room), each fitting its kind. -/
def IsRow (k : IntKind) (w : World) (a : Option Addr) (len cap : Nat) (zs : List Int) : Prop :=
  (a = none ∧ len = 0 ∧ cap = 0 ∧ zs = []) ∨
  ∃ x, a = some x ∧ len ≤ cap ∧ cap ≤ maxLen ∧ zs.length = cap ∧ (∀ i, i < zs.length → w.cell? (x.add i) = some (.int k (zs.getD i 0))) ∧ ∀ n ∈ zs, (Lit.int k n).wf = true

attribute [local go_sem] run_eql_slice_nil
theorem hide {p : Prop} (h : p) : Hid p := h
set_option maxHeartbeats 400000 in
theorem bytes20_yes (f t l : Value) (a : Option Addr) (len cap : Nat) (w : World) (hl : len ≤ 1048576) :
    Calls Try.prog 20 #[f, t, l, .slice a len cap] w fun e w' => e = .returned (.bool true) ∧ w' = w := by
  go_enter Try.func20, Try.ntmps20
  go_wp2
  go_ret
  exact ⟨rfl, rfl⟩
set_option maxHeartbeats 400000 in
theorem bytes20_no (f t l : Value) (a : Option Addr) (len cap : Nat) (w : World) (hl : ¬ len ≤ 1048576) :
    Calls Try.prog 20 #[f, t, l, .slice a len cap] w fun e w' => e = .returned (.bool false) ∧ w' = w := by
  go_enter Try.func20, Try.ntmps20
  go_wp2
  go_ret
  exact ⟨rfl, rfl⟩

/-! ### THE PLAIN LAW -/
theorem label_there (l : Int) (h0 : 0 ≤ l) (h1 : l ≤ 16777215) : l / 65536 * 65536 + l / 256 % 256 * 256 + l % 256 = l := by omega
theorem octets (f t l : Int) (zs : List Int) (hf : 0 ≤ f ∧ f ≤ 255) (ht : 0 ≤ t ∧ t ≤ 255) (h0 : 0 ≤ l) (h1 : l ≤ 16777215) (hb : ∀ j, 0 ≤ zs.getD j 0 ∧ zs.getD j 0 ≤ 255) (j : Nat) :
    0 ≤ ([f, t, l / 65536, l / 256 % 256, l % 256] ++ zs).getD j 0 ∧ ([f, t, l / 65536, l / 256 % 256, l % 256] ++ zs).getD j 0 ≤ 255 := by
  match j with
  | 0 => simpa using hf
  | 1 => simpa using ht
  | 2 => simp; omega
  | 3 => simp; omega
  | 4 => simp; omega
  | j + 5 => simpa using hb j

/-- a cell behind a new block and a parse that wrote another block -/
theorem cell_far {w w1 w2 : World} {a : Addr} {v : Value} {r B : Nat} (h : w.cell? a = some v) (hb : Below B w w1) (hg : w1.grownBy w2 (some r)) (hne : a.block < B ∧ a.block ≠ r) : w2.cell? a = some v :=
  hg.cell ((hb.cell hne.1).trans h) (by simpa using hne.2)

theorem own_cap {w : World} {base g n cap e size : Nat} {xs : List Value} (h : w.ownsRow base e size (.slice (some ⟨g, 0, none⟩) n cap) n xs) : n ≤ cap := by
  rcases h.2 with ⟨h', _⟩ | ⟨g', cap', cur, h', _, hg, hn, _⟩
  · simp at h'
  · simp only [Value.slice.injEq] at h'
    obtain ⟨_, _, rfl⟩ := h'
    exact hn

set_option maxHeartbeats 3200000 in
theorem walk_main (f t l : Int) (a : Option Addr) (m cap : Nat) (zs : List Int) (w : World) (hz : zs.length = m) (hm : m ≤ 1048576) (hf : 0 ≤ f ∧ f ≤ 255) (ht : 0 ≤ t ∧ t ≤ 255) (h0 : 0 ≤ l) (h1 : l ≤ 16777215)
    (hbd : ∀ j, 0 ≤ zs.getD j 0 ∧ zs.getD j 0 ≤ 255) (ra : Rdb w a m cap zs) :
    Calls Try.prog 7 #[.int .u8 f, .int .u8 t, .int .u32 l, .slice a m cap] w fun e w' => e = .returned (.bool true) ∧ Below w.heap.size w w' := by
  have HB := hide (octets f t l zs hf ht h0 h1 hbd)
  have HL := hide (label_there l h0 h1)
  clear hbd hf ht
  go_enter Try.func7, Try.ntmps7
  go_wp2_with fail
  refine (bytes20_yes _ _ _ _ _ _ _ hm).mono ?_
  rintro e w ⟨rfl, rfl⟩
  go_wp2_with fail
  refine (clone_any a m cap zs _ hz hm ra).mono ?_
  rintro e w1 ⟨a', rfl, hb1, hor⟩
  clear ra
  have hbW : ∀ o1, Below w1.heap.size w1 (w1.alloc o1) := fun o1 => (Below.refl _ _).alloc (Nat.le_refl _) _
  have hsrc : Src w1 a' m m zs := by
    rcases hor with h | ⟨rfl, h⟩
    · exact ⟨hz, Or.inl ⟨h, fun _ => h⟩⟩
    · exact src_at hz (fun i hi => by rw [Nat.zero_add]; exact own_cell h i hi)
  have hrow : m = 0 ∨ ∃ b off, a' = some ⟨b, off, none⟩ ∧ ∀ i, i < m → w1.cell? ⟨b, off + i, none⟩ = some (.int .u8 (zs.getD i 0)) := by
    rcases hor with h | ⟨rfl, h⟩
    · exact Or.inl h
    · exact Or.inr ⟨_, 0, rfl, fun i hi => by rw [Nat.zero_add]; exact own_cell h i hi⟩
  have HSRC := hide hsrc
  have HROW := hide hrow
  clear hor hsrc hrow
  go_wp2_with fail
  refine (zzappend_any w1.heap.size f t l a' m m zs _ h0 h1 hm (by simp) (by simp) (by simp) (by simp) (src_below HSRC.out (hbW _))).mono ?_
  rintro e w2 ⟨g, cap2, rfl, hown2, hb2⟩
  have hz2 : w1.heap.size + 1 ≤ w2.heap.size := by have := hb2.size; simpa using this
  have p0 : w2.cell? ⟨w1.heap.size, 0, none⟩ = some (.int .u8 f) := (hb2.cell (by simp)).trans (by simp)
  have p1 : w2.cell? ⟨w1.heap.size, 1, none⟩ = some (.int .u8 t) := (hb2.cell (by simp)).trans (by simp)
  have p2 : w2.cell? ⟨w1.heap.size, 2, none⟩ = some (.int .u32 l) := (hb2.cell (by simp)).trans (by simp)
  have p3 : w2.cell? ⟨w1.heap.size, 3, none⟩ = some (.slice a' m m) := (hb2.cell (by simp)).trans (by simp)
  have hown2' : w2.ownsRow (w1.heap.size + 1) 5 1 (.slice (some ⟨g, 0, none⟩) (5 + m) cap2) (5 + m) (([f, t, l / 65536, l / 256 % 256, l % 256] ++ zs).map (Value.int .u8)) := by simpa using hown2
  have hb2' : Below w1.heap.size w1 w2 := (hbW _).trans (hb2.mono (by simp))
  have hb02 : Below w.heap.size w w2 := hb1.trans (hb2'.mono hb1.size)
  have hg := hown2'.lt g rfl
  have hcap := own_cap hown2'
  have hz1 := hb1.size
  clear hown2 hb2 hbW HSRC hb1
  have e5 : ((5 + m : Nat) : Int) = 5 + (m : Int) := by omega
  go_wp2_with fail
  have hbW2 : ∀ o, Below w2.heap.size w2 (w2.alloc o) := fun o => (Below.refl _ _).alloc (Nat.le_refl _) _
  refine (zzparse_any w2.heap.size g (5 + m) cap2 ([f, t, l / 65536, l / 256 % 256, l % 256] ++ zs) _ (.pointer none) (by simp; omega) (by omega) (by omega) hcap (by omega) HB.out (own_cell (own_below hown2' (hbW2 _) hg.2)) (by simp) (by simp)).mono ?_
  rintro e w3 ⟨rfl, q, g3, cap3, hq, hq', r4, q0, q1, q2, q3, hown3, hgr, hqb⟩
  simp only [List.getD_cons_zero, List.getD_cons_succ, List.cons_append, List.nil_append] at q0 q1 q2
  rw [HL.out] at q2
  have em : 5 + m - 5 = m := by omega
  rw [em] at q3 hown3
  have hown3' : w3.ownsRow (w2.heap.size + 1) 5 1 (.slice (some ⟨g3, 0, none⟩) m cap3) m (zs.map (Value.int .u8)) := by simpa using hown3
  have f0 : w3.cell? ⟨w1.heap.size, 0, none⟩ = some (.int .u8 f) := cell_far p0 (hbW2 _) hgr (by simp; omega)
  have f1 : w3.cell? ⟨w1.heap.size, 1, none⟩ = some (.int .u8 t) := cell_far p1 (hbW2 _) hgr (by simp; omega)
  have f2 : w3.cell? ⟨w1.heap.size, 2, none⟩ = some (.int .u32 l) := cell_far p2 (hbW2 _) hgr (by simp; omega)
  have f3 : w3.cell? ⟨w1.heap.size, 3, none⟩ = some (.slice a' m m) := cell_far p3 (hbW2 _) hgr (by simp; omega)
  have hrow3 : m = 0 ∨ ∃ b off, a' = some ⟨b, off, none⟩ ∧ ∀ i, i < m → w3.cell? ⟨b, off + i, none⟩ = some (.int .u8 (zs.getD i 0)) := by
    rcases HROW.out with h | ⟨b, off, h, h'⟩
    · exact Or.inl h
    · refine Or.inr ⟨b, off, h, fun i hi => ?_⟩
      have hlt := cell_lt (h' i hi)
      have c2 := (hb2'.cell (by exact hlt)).trans (h' i hi)
      exact cell_far c2 (hbW2 _) hgr (by have := cell_lt c2; simp only at hlt ⊢; omega)
  have hb3 : Below w.heap.size w w3 := (hb02.alloc (by omega) _).grown hgr (by simp; omega) (fun k hk => by cases hk; omega)
  have HEQ := hide (fun d => equal_any (some ⟨g3, 0, none⟩) a' m cap3 m zs (w3.drewN d) (by omega) hz (Or.inr ⟨g3, 0, rfl, fun i hi => by rw [Nat.zero_add]; exact own_cell hown3' i hi⟩) hrow3)
  clear hrow3 hown3' hown3 hgr hq hqb p0 p1 p2 p3 hown2' hb2' hb02 hbW2 HROW HB HL em
  go_wp2_with fail
  go_quiet ((go_at_call 19; exact Calls.quiet_of (HEQ.out _)))
  go_wp2
  go_ret
  exact ⟨rfl, below_drewN hb3 _⟩

set_option maxHeartbeats 400000 in
theorem walk_long (f t l : Int) (a : Option Addr) (len cap : Nat) (w : World) (h : ¬ len ≤ 1048576) :
    Calls Try.prog 7 #[.int .u8 f, .int .u8 t, .int .u32 l, .slice a len cap] w fun e w' => e = .returned (.bool true) ∧ Below w.heap.size w w' := by
  go_enter Try.func7, Try.ntmps7
  go_wp2_with (go_at_call 20; refine (bytes20_no _ _ _ _ _ _ _ h).mono ?_; rintro e w ⟨rfl, rfl⟩)
  go_ret
  exact ⟨rfl, Below.refl _ _⟩

set_option maxHeartbeats 400000 in
theorem walk_wide (f t l : Int) (a : Option Addr) (len cap : Nat) (w : World) (h : len ≤ 1048576) (hl : ¬ l ≤ 16777215) :
    Calls Try.prog 7 #[.int .u8 f, .int .u8 t, .int .u32 l, .slice a len cap] w fun e w' => e = .returned (.bool true) ∧ Below w.heap.size w w' := by
  go_enter Try.func7, Try.ntmps7
  go_wp2_with (go_at_call 20; refine (bytes20_yes _ _ _ _ _ _ _ h).mono ?_; rintro e w ⟨rfl, rfl⟩)
  go_ret
  exact ⟨rfl, Below.refl _ _⟩

theorem walk (a0 : Int) (a1 : Int) (a2 : Int) (a3 : Option Addr) (len3 cap3 : Nat) (z3 : List Int) (w : World) (w0 : (Lit.int .u8 a0).wf = true) (w1 : (Lit.int .u8 a1).wf = true) (w2 : (Lit.int .u32 a2).wf = true) (w3 : IsRow .u8 w a3 len3 cap3 z3) :
    Calls Try.prog 7 #[.int .u8 a0, .int .u8 a1, .int .u32 a2, .slice a3 len3 cap3] w fun e w' => e = .returned (.bool true) ∧ Below w.heap.size w w' := by
  have b0 := bounds_u8 w0
  have b1 := bounds_u8 w1
  have b2 := bounds_u32 w2
  by_cases h1 : len3 ≤ 1048576
  · by_cases h2 : a2 ≤ 16777215
    · rcases w3 with ⟨rfl, rfl, rfl, rfl⟩ | ⟨x, rfl, hlc, hcm, hz, hc, hwf⟩
      · exact walk_main a0 a1 a2 none 0 0 [] w rfl h1 b0 b1 b2.1 h2 (fun j => by simp) (Or.inl ⟨rfl, rfl, rfl⟩)
      · have ht := take_bd len3 (range_u8 hwf)
        have hzt : (z3.take len3).length = len3 := by simp; omega
        by_cases h0 : len3 = 0
        · exact walk_main a0 a1 a2 (some x) len3 cap3 (z3.take len3) w hzt h1 b0 b1 b2.1 h2 ht (Or.inr (Or.inl ⟨h0, x, rfl⟩))
        · obtain ⟨b, off, rfl, hcc⟩ := ints_at hc (by omega)
          exact walk_main a0 a1 a2 _ len3 cap3 (z3.take len3) w hzt h1 b0 b1 b2.1 h2 ht (Or.inr (Or.inr ⟨b, off, rfl, fun i hi => by rw [hcc i (by omega)]; simp [hi]⟩))
    · exact walk_wide a0 a1 a2 a3 len3 cap3 w h1 h2
  · exact walk_long a0 a1 a2 a3 len3 cap3 w h1

/-! ### THE ROW's STEP: WRITTEN OUT: LEAVE IT -/
set_option maxRecDepth 100000 in
theorem lifted (os : Os) (started : os.Started) (H : Type) (enc : TypeId × Value → H) :
    ReturnsInHanded {} Try.checked os 7 .any (Rows.fnPMSIAppendThenParseRecoversTunnelSpec.pre6 enc Try.prog Try.f7 Rows.fnPMSIAppendThenParseRecoversTunnelRow.domain false) (Rows.fnPMSIAppendThenParseRecoversTunnelSpec.post enc Try.prog Try.f7 false true false false) := by
  refine returnsInHanded_of_change (C := Try.checked) own started (by kernel_rfl) Try.func7
    (ChangeSpec.witness6 (enc := enc) (C := Try.checked) false ⟨#[], #[.int .u8 0, .int .u8 0, .int .u32 0, .slice none 0 0], []⟩ 8 (by kernel_rfl) (by kernel_rfl) (by kernel_rfl) (by kernel_rfl)) ?_
  intro W base args ds gs before hval0 hW hcnd _
  have hval : ∀ (j : Nat) t v, Try.f7.params[j]? = some t → args[j]? = some v → Value.okWide Try.prog W .any base t v := hval0
  have hW' := hW
  obtain ⟨p, q, hA0, hV, rfl, hfz, hnd⟩ := hW
  have hA : DataW.TrodAll enc Try.prog W 0 (fun _ => true) true Try.f7.params.toList args.toList ds p := hA0
  rw [Try.params7] at hA hval
  obtain ⟨v0, vs0, d0, ds0, p0, q0, hargs, rfl, rfl, h0, r0⟩ := trodAll_cons hA
  obtain ⟨v1, vs1, d1, ds1, p1, q1, rfl, rfl, rfl, h1, r1⟩ := trodAll_cons r0
  obtain ⟨v2, vs2, d2, ds2, p2, q2, rfl, rfl, rfl, h2, r2⟩ := trodAll_cons r1
  obtain ⟨v3, vs3, d3, ds3, p3, q3, rfl, rfl, rfl, h3, r3⟩ := trodAll_cons r2
  obtain ⟨rfl, rfl, rfl⟩ := trodAll_nil r3
  obtain rfl : args = #[v0, v1, v2, v3] := by cases args; simp_all
  obtain ⟨rfl, rfl⟩ := trodVars_none hV
  obtain ⟨a0, rfl, rfl, rfl, w0⟩ := open_int Try.underlying5 (hval 0 5 v0 rfl rfl) h0
  obtain ⟨a1, rfl, rfl, rfl, w1⟩ := open_int Try.underlying5 (hval 1 5 v1 rfl rfl) h1
  obtain ⟨a2, rfl, rfl, rfl, w2⟩ := open_int Try.underlying35 (hval 2 35 v2 rfl rfl) h2
  obtain ⟨a3, len3, cap3, rfl⟩ := okWide_slice Try.underlying26 (hval 3 26 v3 rfl rfl)
  have k3 := h3
  have lt3 : ∀ x ∈ p3, x.block < W.heap.size := by obtain ⟨m, hm⟩ := k3; exact DataW.trod_lt m _ _ _ hm
  obtain ⟨z3, w3⟩ : ∃ zs, IsRow .u8 W a3 len3 cap3 zs := by
    obtain ⟨fuel, hf⟩ := h3
    rcases open_ints Try.underlying26 Try.underlying5 (by kernel_rfl) hf with ⟨hcs, _⟩ | ⟨x, l, c, zs, hcs, _, hl, hm, hz, _, hcell, hwz⟩
    · simp [Value.cells] at hcs
      obtain ⟨rfl, rfl, rfl⟩ := hcs
      exact ⟨[], .inl ⟨rfl, rfl, rfl, rfl⟩⟩
    · simp [Value.cells] at hcs
      obtain ⟨rfl, rfl, rfl⟩ := hcs
      exact ⟨zs, .inr ⟨_, rfl, hl, hm, by simpa using hz, hcell, hwz⟩⟩
  clear hA0 hval0
  refine (walk a0 a1 a2 a3 len3 cap3 z3 W w0 w1 w2 w3).mono fun e W' ⟨he, bel⟩ => ?_
  subst he
  exact ⟨_, rfl, _, _, _, [], _, [], hW', trodAll_mk1 (shut_bool Try.underlying4 _), (trodAll_cons_mk (shut_int Try.underlying5 w0) (trodAll_cons_mk (shut_int Try.underlying5 w1) (trodAll_cons_mk (shut_int Try.underlying35 w2) (trodAll_cons_mk (Below.trod laidOut (by kernel_rfl) (of_decide_eq_true (by kernel_rfl)) k3 bel lt3) trodAll_mk0)))), rfl, bel.frame _, fun h => by cases h⟩

theorem over : Rows.fnPMSIAppendThenParseRecoversTunnelRow.holds Try.pinned (OpenSpec.ofChange Rows.fnPMSIAppendThenParseRecoversTunnelSpec) :=
  OpenClaim.holds_of_wide 7 Try.f7 rfl rfl rfl rfl rfl rfl rfl ⟨rfl, rfl, rfl, rfl, rfl⟩ rfl rfl rfl rfl rfl (by kernel_rfl) Try.func7 (by kernel_rfl)
    (of_decide_eq_true (by kernel_rfl)) (by unfold Func.isWrapper; first | (rw [if_pos (by decide +kernel)]; kernel_rfl) | (rw [if_neg (by decide +kernel)]; exact ⟨rfl, rfl⟩))
    (fun os started H enc _ => lifted os started H enc)

/-- ████ THE STATEMENT ████ -/
theorem proved : Rows.FnPMSIAppendThenParseRecoversTunnelSaid := over
#print axioms proved
end Go.Proofs.Qxb6002606a.fnPMSIAppendThenParseRecoversTunnel
