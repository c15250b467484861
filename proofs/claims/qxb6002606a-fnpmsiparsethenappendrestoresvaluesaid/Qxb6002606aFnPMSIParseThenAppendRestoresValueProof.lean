import Derived.Test.Qxb6002606aPmsiParse
import Derived.LaidEqlPtr
namespace Go.Proofs.Qxb6002606a.fnPMSIParseThenAppendRestoresValue
open Go.ChangeShapes Go.WideShapes Go.ChangeAt Go.RowKit
open Go.ChangeMaps (open_string shut_string)
open Go.Proofs.Qxb6002606a.Base
set_option linter.unusedVariables false

theorem own : ownKnob Try.prog.godebug = none := by kernel_rfl
theorem laidOut : laidOutB Try.prog = true := by kernel_rfl

/-- WHAT THE WALK IS TOLD OF A SLICE OF INTEGERS THAT CAME IN: it is nil; or it leads to a row of 'cap' cells, the numbers 'zs' (the first 'len' are its elements, the rest its spare room), each fitting its kind. -/
def IsRow (k : IntKind) (w : World) (a : Option Addr) (len cap : Nat) (zs : List Int) : Prop :=
  (a = none ∧ len = 0 ∧ cap = 0 ∧ zs = []) ∨
  ∃ x, a = some x ∧ len ≤ cap ∧ cap ≤ maxLen ∧ zs.length = cap ∧ (∀ i, i < zs.length → w.cell? (x.add i) = some (.int k (zs.getD i 0))) ∧ ∀ n ∈ zs, (Lit.int k n).wf = true

theorem info38 : (Try.prog.info? 38).map (fun i => (i.zero, i.size, i.bytes)) = some (some (.agg #[.int .u8 0, .int .u8 0, .int .u32 0, .slice none 0 0]), 4, 32) := by kernel_rfl
/-- one pointer against itself -/
theorem ptr32_same (w : World) (a : Addr) : (binOp .eql 32 (.pointer (some a)) (.pointer (some a))).run Try.prog w = .ok (.bool true) w := by
  obtain ⟨i, hi, _⟩ := info_parts info38
  exact run_eql_ptr_same w a Try.underlying32 hi
theorem ptr32_other (w : World) {a b : Addr} {ca cb : Array Value} {ta tb : TypeId} (hne : a ≠ b) (ha : w.heap[a.block]? = some (.cells ca ta (0, 0))) (hb : w.heap[b.block]? = some (.cells cb tb (0, 0))) :
    (binOp .eql 32 (.pointer (some a)) (.pointer (some b))).run Try.prog w = .ok (.bool false) w := by
  obtain ⟨i, hi, hz0, hz1, hz2⟩ := info_parts info38
  exact run_eql_ptr_other w Try.underlying32 hi (by omega) hne ha hb
attribute [local go_sem] run_eql_slice_nil ptr32_same
set_option maxHeartbeats 400000 in
theorem bytes16_yes (a : Option Addr) (len cap : Nat) (w : World) (hl : len ≤ 1048576) :
    Calls Try.prog 16 #[.slice a len cap] w fun e w' => e = .returned (.bool true) ∧ w' = w := by
  go_enter Try.func16, Try.ntmps16
  go_wp2
  go_ret
  exact ⟨rfl, rfl⟩
set_option maxHeartbeats 400000 in
theorem bytes16_no (a : Option Addr) (len cap : Nat) (w : World) (hl : ¬ len ≤ 1048576) :
    Calls Try.prog 16 #[.slice a len cap] w fun e w' => e = .returned (.bool false) ∧ w' = w := by
  go_enter Try.func16, Try.ntmps16
  go_wp2
  go_ret
  exact ⟨rfl, rfl⟩

set_option maxHeartbeats 1600000 in
theorem walk_short (a : Option Addr) (len cap : Nat) (zs : List Int) (w : World) (hz : zs.length = len) (h5 : len < 5) (ra : Rdb w a len cap zs) :
    Calls Try.prog 6 #[.slice a len cap] w fun e w' => e = .returned (.bool true) ∧ Below w.heap.size w w' := by
  have h5' : (len : Int) < 5 := by omega
  go_enter Try.func6, Try.ntmps6
  go_wp2_with fail
  refine (bytes16_yes _ _ _ _ (by omega)).mono ?_
  rintro e w ⟨rfl, rfl⟩
  go_wp2_with fail
  refine (clone_any a len cap zs _ hz (by omega) ra).mono ?_
  rintro e w1 ⟨a', rfl, hb1, hor⟩
  clear hor ra
  go_wp2_with fail
  refine (zzparse_short _ _ _ _ _ (by omega)).mono ?_
  rintro e w2 ⟨rfl, rfl⟩
  go_wp2
  go_ret
  exact ⟨rfl, (hb1.alloc hb1.size _).alloc (by simp; have := hb1.size; omega) _⟩

theorem hide {p : Prop} (h : p) : Hid p := h
/-! ### THE PLAIN LAW: the label's three octets come back -/
theorem label_back (x y z : Int) (hx : 0 ≤ x ∧ x ≤ 255) (hy : 0 ≤ y ∧ y ≤ 255) (hz : 0 ≤ z ∧ z ≤ 255) :
    (x * 65536 + y * 256 + z) / 65536 = x ∧ (x * 65536 + y * 256 + z) / 256 % 256 = y ∧ (x * 65536 + y * 256 + z) % 256 = z := by omega

theorem whole (zs : List Int) (h : 5 ≤ zs.length) : [zs.getD 0 0, zs.getD 1 0, zs.getD 2 0, zs.getD 3 0, zs.getD 4 0] ++ zs.drop 5 = zs := by
  match zs, h with
  | a :: b :: c :: d :: e :: r, _ => simp

theorem back (zs : List Int) (h : 5 ≤ zs.length) (hb : ∀ j, 0 ≤ zs.getD j 0 ∧ zs.getD j 0 ≤ 255) (l : Int) (hl : l = zs.getD 2 0 * 65536 + zs.getD 3 0 * 256 + zs.getD 4 0) :
    [zs.getD 0 0, zs.getD 1 0, l / 65536, l / 256 % 256, l % 256] ++ zs.drop 5 = zs := by
  obtain ⟨e1, e2, e3⟩ := label_back _ _ _ (hb 2) (hb 3) (hb 4)
  rw [← hl] at e1 e2 e3
  rw [e1, e2, e3]
  exact whole zs h

/-- a row that is owned, in a world that only one other row's store has turned -/
theorem own_grown {w w' : World} {base g n cap e size r : Nat} {xs : List Value} (h : w.ownsRow base e size (.slice (some ⟨g, 0, none⟩) n cap) n xs) (hg : w.grownBy w' (some r)) (hne : g ≠ r) :
    w'.ownsRow base e size (.slice (some ⟨g, 0, none⟩) n cap) n xs :=
  h.kept hg (Or.inr (by simpa [Value.ownBlock] using hne))

theorem cell_grown {w w' : World} {a : Addr} {v : Value} {r : Nat} (h : w.cell? a = some v) (hg : w.grownBy w' (some r)) (hne : a.block ≠ r) : w'.cell? a = some v :=
  hg.cell h (by simpa using hne)

set_option maxHeartbeats 3200000 in
theorem walk_main (b off len cap : Nat) (zs : List Int) (w : World) (hz : zs.length = len) (h5 : 5 ≤ len) (hl : len ≤ 1048576)
    (hc : ∀ i, i < len → w.cell? ⟨b, off + i, none⟩ = some (.int .u8 (zs.getD i 0))) (hbd : ∀ j, 0 ≤ zs.getD j 0 ∧ zs.getD j 0 ≤ 255) :
    Calls Try.prog 6 #[.slice (some ⟨b, off, none⟩) len cap] w fun e w' => e = .returned (.bool true) ∧ Below w.heap.size w w' := by
  have HC : Hid (∀ i, i < len → w.cell? ⟨b, off + i, none⟩ = some (.int .u8 (zs.getD i 0))) := hc
  have HB : Hid (∀ j, 0 ≤ zs.getD j 0 ∧ zs.getD j 0 ≤ 255) := hbd
  clear hc hbd
  go_enter Try.func6, Try.ntmps6
  go_wp2_with fail
  refine (bytes16_yes _ _ _ _ (by omega)).mono ?_
  rintro e w ⟨rfl, rfl⟩
  go_wp2_with fail
  refine (clone_some b off len cap zs _ hz hl HC.out).mono ?_
  rintro e w1 ⟨rfl, hown1, hb1⟩
  clear HC
  have hg1 := own_lt hown1
  go_wp2_with fail
  have hbW : ∀ o1 o2, Below w1.heap.size w1 ((w1.alloc o1).alloc o2) := fun o1 o2 => ((Below.refl _ _).alloc (Nat.le_refl _) _).alloc (by simp) _
  refine (zzparse_any (w1.heap.size + 1) w.heap.size len len zs _ (.pointer (some ⟨w1.heap.size, 0, none⟩)) hz h5 (by omega) (Nat.le_refl _) (by omega) HB.out (own_cell (own_below hown1 (hbW _ _) hg1)) (by simp) (by simp)).mono ?_
  rintro e w3 ⟨rfl, q, g2, cap2, hq, hq', p4, q0, q1, q2, q3, hown3, hgr, hqb⟩
  have hownv := own_grown (own_below hown1 (hbW _ _) hg1) hgr (by omega)
  have hq2 : w1.heap.size + 2 ≤ q := by simpa using hq
  have hown3' : w3.ownsRow (w1.heap.size + 2) 5 1 (.slice (some ⟨g2, 0, none⟩) (len - 5) cap2) (len - 5) ((zs.drop 5).map (Value.int .u8)) := by simpa using hown3
  have hg2 := hown3'.lt g2 rfl
  have hpre : w3.heap[w1.heap.size]? = some (.cells #[.int .u8 0, .int .u8 6, .int .u32 0, .slice none 0 0] 38 (0, 0)) := by
    rw [hgr.block _ (by simp; omega) (by simp), Below.heap_alloc _ _ _ (by simp)]
    exact heap_alloc_new w1 _
  have hptr : (binOp .eql 32 (.pointer (some ⟨q, 0, none⟩)) (.pointer (some ⟨w1.heap.size, 0, none⟩))).run Try.prog w3 = .ok (.bool false) w3 := ptr32_other w3 (by intro h; simp only [Addr.mk.injEq] at h; omega) hqb hpre
  have hb3 : Below w.heap.size w w3 := ((hb1.alloc hb1.size _).alloc (by simp; omega) _).grown hgr (by simp; omega) (fun k hk => by cases hk; omega)
  have hbk : [zs.getD 0 0, zs.getD 1 0, (zs.getD 2 0 * 65536 + zs.getD 3 0 * 256 + zs.getD 4 0) / 65536, (zs.getD 2 0 * 65536 + zs.getD 3 0 * 256 + zs.getD 4 0) / 256 % 256, (zs.getD 2 0 * 65536 + zs.getD 3 0 * 256 + zs.getD 4 0) % 256] ++ zs.drop 5 = zs := back zs (by omega) HB.out _ rfl
  have hlab : 0 ≤ zs.getD 2 0 * 65536 + zs.getD 3 0 * 256 + zs.getD 4 0 ∧ zs.getD 2 0 * 65536 + zs.getD 3 0 * 256 + zs.getD 4 0 ≤ 16777215 := by
    have := HB.out 2; have := HB.out 3; have := HB.out 4; omega
  obtain ⟨l, hle⟩ : ∃ l, l = zs.getD 2 0 * 65536 + zs.getD 3 0 * 256 + zs.getD 4 0 := ⟨_, rfl⟩
  obtain ⟨x0, hx0⟩ : ∃ x, x = zs.getD 0 0 := ⟨_, rfl⟩
  obtain ⟨x1, hx1⟩ : ∃ x, x = zs.getD 1 0 := ⟨_, rfl⟩
  rw [← hle] at q2 hbk hlab
  rw [← hx0] at q0 hbk
  rw [← hx1] at q1 hbk
  obtain ⟨hl0, hl1⟩ := hlab
  have HBK := hide hbk
  have hsrc : Src w3 (some ⟨g2, 0, none⟩) (len - 5) cap2 (zs.drop 5) := src_at (by simp; omega) (fun i hi => by rw [Nat.zero_add]; exact own_cell hown3' i hi)
  have HA := hide (zzappend_any q x0 x1 l (some ⟨g2, 0, none⟩) (len - 5) cap2 (zs.drop 5) w3 hl0 hl1 (by omega) q0 q1 q2 q3 hsrc)
  clear hgr hq hown3 hqb hpre hown1 hb1 hbW hle hx0 hx1 hbk hsrc HB q0 q1 q2 hl0 hl1
  go_wp2_with fail
  refine HA.out.mono ?_
  rintro e w4 ⟨g3, cap3, rfl, hown4, hb4⟩
  have e5 : 5 + (len - 5) = len := by omega
  rw [HBK.out, e5] at hown4
  rw [e5]
  have hg3 := hown4.lt g3 rfl
  have p4' := (hb4.cell (p := ⟨w1.heap.size + 1, 4, none⟩) (cell_lt p4)).trans p4
  have q3' := (hb4.cell (p := ⟨q, 3, none⟩) (cell_lt q3)).trans q3
  have hownv4 := own_below hownv hb4 (own_lt hownv)
  have hown34 := own_below hown3' hb4 hg2.2
  have hb4' : Below w.heap.size w w4 := hb3.trans (hb4.mono hb3.size)
  have hz4 := hb4.size
  have HE1 := hide (equal_any (some ⟨g3, 0, none⟩) (some ⟨w.heap.size, 0, none⟩) len cap3 len zs w4 (by omega) hz (Or.inr ⟨g3, 0, rfl, fun i hi => by rw [Nat.zero_add]; exact own_cell hown4 i hi⟩) (Or.inr ⟨w.heap.size, 0, rfl, fun i hi => by rw [Nat.zero_add]; exact own_cell hownv4 i hi⟩))
  clear HA HBK hown4 hb4 hownv hown3' p4 q3 hptr hb3 e5
  go_wp2_with fail
  refine HE1.out.mono ?_
  rintro e w4' ⟨rfl, k, rfl⟩
  have hrd : Rdb (w4.drewN k) (some ⟨g2, 0, none⟩) (len - 5) cap2 (zs.drop 5) := Or.inr (Or.inr ⟨g2, 0, rfl, fun i hi => by rw [Nat.zero_add]; exact own_cell hown34 i hi⟩)
  have HCL := hide (clone_any (some ⟨g2, 0, none⟩) (len - 5) cap2 (zs.drop 5) (w4.drewN k) (by simp; omega) (by omega) hrd)
  clear HE1 hrd
  go_wp2_with fail
  refine HCL.out.mono ?_
  rintro e w5 ⟨a5, rfl, hb5, hor⟩
  have hz5 : w4.heap.size ≤ w5.heap.size := hb5.size
  have p5 := (hb5.cell (p := ⟨w1.heap.size + 1, 4, none⟩) (cell_lt p4')).trans p4'
  have q5 := (hb5.cell (p := ⟨q, 3, none⟩) (cell_lt q3')).trans q3'
  have hownv5 := own_below (w := w4.drewN k) hownv4 hb5 (own_lt hownv4)
  have hown35 := own_below (w := w4.drewN k) hown34 hb5 (own_lt hown34)
  have hb5' : Below w.heap.size w w5 := (below_drewN hb4' k).trans (hb5.mono hb4'.size)
  have HOR : Hid (len - 5 = 0 ∨ a5 = some ⟨w4.heap.size, 0, none⟩ ∧ w5.ownsRow w4.heap.size 5 1 (.slice (some ⟨w4.heap.size, 0, none⟩) (len - 5) (len - 5)) (len - 5) ((zs.drop 5).map (Value.int .u8))) := hor
  have hgv : w.heap.size < w4.heap.size := own_lt hownv4
  have hgt : w.heap.size ≠ w1.heap.size + 1 := by omega
  have hgq : w.heap.size ≠ q := by omega
  have hgg : w.heap.size ≠ g2 := by omega
  clear hor HCL hb5 hownv4 hown34 p4' q3' hb4'
  go_wp2_with fail
  go_loopw [8] (fun i wr => ∃ (m : Nat) (ys : List Int), m ≤ len ∧ i = .int .i64 m ∧ wr.ownsRow w.heap.size 5 1 (.slice (some ⟨w.heap.size, 0, none⟩) len len) len (ys.map (Value.int .u8)) ∧ w5.grownBy wr (some w.heap.size) ∧ Below w.heap.size w wr) (fun i _ => len - (intOf i).toNat)
  case atStart => exact ⟨0, zs, Nat.zero_le _, rfl, hownv5, World.grownBy.refl _ _, hb5'⟩
  case round =>
    obtain ⟨m, ys, hm, rfl, hown, hgw, hnx⟩ := hrel
    by_cases hlt : m < len
    · have g1 := own_cell hown m hlt
      have g2' : wr.frozen? ⟨w.heap.size, m, none⟩ = false := hown.frozenAt m
      obtain ⟨c, hcc⟩ : ∃ c, c = ys.getD m 0 := ⟨_, rfl⟩
      rw [← hcc] at g1
      have hst := fun u => hown.stored m (.int .u8 u)
      have HST := hide hst
      clear hcc hst hown hownv5 hown35 p5 q5
      go_wp2
      go_roundw
      case rel => exact ⟨m + 1, _, by omega, by go_num, by rw [List.map_set]; exact (HST.out _).1, grown_trans hgw (HST.out _).2, hnx.setCell (Nat.le_refl _) _⟩
      case measure => simp [intOf]; omega
    · have p6 := cell_grown p5 hgw (by exact Ne.symm hgt)
      have q6 := cell_grown q5 hgw (by exact Ne.symm hgq)
      have hown36 := own_grown hown35 hgw (Ne.symm hgg)
      have h2 : len - 5 = 0 ∨ ∃ b off, a5 = some ⟨b, off, none⟩ ∧ ∀ i, i < len - 5 → wr.cell? ⟨b, off + i, none⟩ = some (.int .u8 ((zs.drop 5).getD i 0)) := by
        rcases HOR.out with h | ⟨h, h'⟩
        · exact Or.inl h
        · exact Or.inr ⟨_, 0, h, fun i hi => by rw [Nat.zero_add]; exact own_cell (own_grown h' hgw (by omega)) i hi⟩
      have HE2 := hide (equal_any (some ⟨g2, 0, none⟩) a5 (len - 5) cap2 (len - 5) (zs.drop 5) wr (by omega) (by simp; omega) (Or.inr ⟨g2, 0, rfl, fun i hi => by rw [Nat.zero_add]; exact own_cell hown36 i hi⟩) h2)
      clear h2 hown36 hown35 p5 q5 hown hgw HOR hownv5
      go_wp2_with fail
      refine HE2.out.mono ?_
      rintro e w6 ⟨rfl, k6, rfl⟩
      go_wp2
      go_ret
      exact ⟨rfl, below_drewN hnx _⟩

set_option maxHeartbeats 400000 in
theorem walk_long (a : Option Addr) (len cap : Nat) (w : World) (h : ¬ len ≤ 1048576) :
    Calls Try.prog 6 #[.slice a len cap] w fun e w' => e = .returned (.bool true) ∧ Below w.heap.size w w' := by
  go_enter Try.func6, Try.ntmps6
  go_wp2_with (go_at_call 16; refine (bytes16_no _ _ _ _ h).mono ?_; rintro e w ⟨rfl, rfl⟩)
  go_ret
  exact ⟨rfl, Below.refl _ _⟩

theorem walk (a0 : Option Addr) (len0 cap0 : Nat) (z0 : List Int) (w : World) (w0 : IsRow .u8 w a0 len0 cap0 z0) :
    Calls Try.prog 6 #[.slice a0 len0 cap0] w fun e w' => e = .returned (.bool true) ∧ Below w.heap.size w w' := by
  by_cases h1 : len0 ≤ 1048576
  · rcases w0 with ⟨rfl, rfl, rfl, rfl⟩ | ⟨x, rfl, hlc, hcm, hz, hc, hwf⟩
    · exact walk_short none 0 0 [] w rfl (by omega) (Or.inl ⟨rfl, rfl, rfl⟩)
    · by_cases h0 : len0 = 0
      · subst h0
        exact walk_short (some x) 0 cap0 [] w rfl (by omega) (Or.inr (Or.inl ⟨rfl, x, rfl⟩))
      · obtain ⟨b, off, rfl, hcc⟩ := ints_at hc (by omega)
        have hcell : ∀ i, i < len0 → w.cell? ⟨b, off + i, none⟩ = some (.int .u8 ((z0.take len0).getD i 0)) := fun i hi => by
          rw [hcc i (by omega)]; simp [hi]
        by_cases h5 : len0 < 5
        · exact walk_short _ len0 cap0 (z0.take len0) w (by simp; omega) h5 (Or.inr (Or.inr ⟨b, off, rfl, hcell⟩))
        · exact walk_main b off len0 cap0 (z0.take len0) w (by simp; omega) (by omega) h1 hcell (take_bd len0 (range_u8 hwf))
  · exact walk_long a0 len0 cap0 w h1

/-! ### THE ROW's STEP: WRITTEN OUT: LEAVE IT -/
set_option maxRecDepth 100000 in
theorem lifted (os : Os) (started : os.Started) (H : Type) (enc : TypeId × Value → H) :
    ReturnsInHanded {} Try.checked os 6 .any (Rows.fnPMSIParseThenAppendRestoresValueSpec.pre6 enc Try.prog Try.f6 Rows.fnPMSIParseThenAppendRestoresValueRow.domain false) (Rows.fnPMSIParseThenAppendRestoresValueSpec.post enc Try.prog Try.f6 false true false false) := by
  refine returnsInHanded_of_change (C := Try.checked) own started (by kernel_rfl) Try.func6
    (ChangeSpec.witness6 (enc := enc) (C := Try.checked) false ⟨#[], #[.slice none 0 0], []⟩ 8 (by kernel_rfl) (by kernel_rfl) (by kernel_rfl) (by kernel_rfl)) ?_
  intro W base args ds gs before hval0 hW hcnd _
  have hval : ∀ (j : Nat) t v, Try.f6.params[j]? = some t → args[j]? = some v → Value.okWide Try.prog W .any base t v := hval0
  have hW' := hW
  obtain ⟨p, q, hA0, hV, rfl, hfz, hnd⟩ := hW
  have hA : DataW.TrodAll enc Try.prog W 0 (fun _ => true) true Try.f6.params.toList args.toList ds p := hA0
  rw [Try.params6] at hA hval
  obtain ⟨v0, vs0, d0, ds0, p0, q0, hargs, rfl, rfl, h0, r0⟩ := trodAll_cons hA
  obtain ⟨rfl, rfl, rfl⟩ := trodAll_nil r0
  obtain rfl : args = #[v0] := by cases args; simp_all
  obtain ⟨rfl, rfl⟩ := trodVars_none hV
  obtain ⟨a0, len0, cap0, rfl⟩ := okWide_slice Try.underlying26 (hval 0 26 v0 rfl rfl)
  have k0 := h0
  have lt0 : ∀ x ∈ p0, x.block < W.heap.size := by obtain ⟨m, hm⟩ := k0; exact DataW.trod_lt m _ _ _ hm
  obtain ⟨z0, w0⟩ : ∃ zs, IsRow .u8 W a0 len0 cap0 zs := by
    obtain ⟨fuel, hf⟩ := h0
    rcases open_ints Try.underlying26 Try.underlying5 (by kernel_rfl) hf with ⟨hcs, _⟩ | ⟨x, l, c, zs, hcs, _, hl, hm, hz, _, hcell, hwz⟩
    · simp [Value.cells] at hcs
      obtain ⟨rfl, rfl, rfl⟩ := hcs
      exact ⟨[], .inl ⟨rfl, rfl, rfl, rfl⟩⟩
    · simp [Value.cells] at hcs
      obtain ⟨rfl, rfl, rfl⟩ := hcs
      exact ⟨zs, .inr ⟨_, rfl, hl, hm, by simpa using hz, hcell, hwz⟩⟩
  clear hA0 hval0
  refine (walk a0 len0 cap0 z0 W w0).mono fun e W' ⟨he, bel⟩ => ?_
  subst he
  exact ⟨_, rfl, _, _, _, [], _, [], hW', trodAll_mk1 (shut_bool Try.underlying4 _), (trodAll_cons_mk (Below.trod laidOut (by kernel_rfl) (of_decide_eq_true (by kernel_rfl)) k0 bel lt0) trodAll_mk0), rfl, bel.frame _, fun h => by cases h⟩

theorem over : Rows.fnPMSIParseThenAppendRestoresValueRow.holds Try.pinned (OpenSpec.ofChange Rows.fnPMSIParseThenAppendRestoresValueSpec) :=
  OpenClaim.holds_of_wide 6 Try.f6 rfl rfl rfl rfl rfl rfl rfl ⟨rfl, rfl, rfl, rfl, rfl⟩ rfl rfl rfl rfl rfl (by kernel_rfl) Try.func6 (by kernel_rfl)
    (of_decide_eq_true (by kernel_rfl)) (by unfold Func.isWrapper; first | (rw [if_pos (by decide +kernel)]; kernel_rfl) | (rw [if_neg (by decide +kernel)]; exact ⟨rfl, rfl⟩))
    (fun os started H enc _ => lifted os started H enc)

/-- ████ THE STATEMENT ████ -/
theorem proved : Rows.FnPMSIParseThenAppendRestoresValueSaid := over
#print axioms proved
end Go.Proofs.Qxb6002606a.fnPMSIParseThenAppendRestoresValue
