import Derived.Test.Qxb6002606aOverrun
namespace Go.Proofs.Qxb6002606a.fnOverrunResetsMonotone
open Go.ChangeShapes Go.WideShapes Go.ChangeAt Go.RowKit
open Go.ChangeMaps (open_string shut_string)
open Go.Proofs.Qxb6002606a.Base
set_option linter.unusedVariables false

theorem own : ownKnob Try.prog.godebug = none := by kernel_rfl
theorem laidOut : laidOutB Try.prog = true := by kernel_rfl

/-- WHAT THE WALK IS TOLD OF A SLICE OF INTEGERS THAT CAME IN: it is nil; or it leads to a row of 'cap' cells, the numbers 'zs' (the first 'len' are its elements, the rest its spare room), each fitting its kind. -/
def IsRow (k : IntKind) (w : World) (a : Option Addr) (len cap : Nat) (zs : List Int) : Prop :=
  (a = none ∧ len = 0 ∧ cap = 0 ∧ zs = []) ∨
  ∃ x, a = some x ∧ len ≤ cap ∧ cap ≤ maxLen ∧ zs.length = cap ∧ (∀ i, i < zs.length → w.cell? (x.add i) = some (.int k (zs.getD i 0))) ∧ ∀ n ∈ zs, (Lit.int k n).wf = true

theorem take_snoc {zs : List Int} {k : Nat} (h : k < zs.length) : zs.take k ++ [zs.getD k 0] = zs.take (k + 1) := by
  rw [List.take_succ_eq_append_getElem h]
  simp [h]

theorem snoc_own {w : World} {base g n cap : Nat} {xs ys : List Int} {c : Int} (e : xs ++ [c] = ys)
    (h : w.ownsRow base 5 1 (.slice (some ⟨g, 0, none⟩) (n + 1) cap) (n + 1) (xs.map (Value.int .u8) ++ [.int .u8 c])) :
    w.ownsRow base 5 1 (.slice (some ⟨g, 0, none⟩) (n + 1) cap) (n + 1) (ys.map (Value.int .u8)) := by
  rw [← e, List.map_append]; exact h

theorem hide {p : Prop} (h : p) : Hid p := h
/-! ### THE PLAIN LAW -/
theorem mpp_iff {A : List Int} (h : mpp A = true) : 2 ≤ A.length ∧ (A.getD 1 0 = 14 ∨ A.getD 1 0 = 15) := by
  simpa [mpp] using h
theorem orr_mp {A : List Int} (h : mpp A = true) (r : Bool) : orr A r = true := by simp [orr, h]
theorem orr_mpx {A T : List Int} (h : mpp A = true) (r : Bool) : orr (A ++ T) r = true := by
  apply orr_mp
  obtain ⟨h2, h3⟩ := mpp_iff h
  have e : (A ++ T).getD 1 0 = A.getD 1 0 := by
    rw [List.getD_eq_getElem?_getD, List.getElem?_append_left (by omega)]; simp
  simp only [mpp, e, List.length_append]
  have : 2 ≤ A.length + T.length := by omega
  simpa [this] using h3
theorem orr_not {A : List Int} (h : mpp A = false) : orr A true = false ∧ orr A false = decide (hln (A.getD 0 0) ≤ A.length) := by
  simp [orr, h]
theorem orr_ext {A T : List Int} (h1 : 1 ≤ A.length) (h : hln (A.getD 0 0) ≤ A.length) : orr (A ++ T) false = true := by
  have e : (A ++ T).getD 0 0 = A.getD 0 0 := by
    rw [List.getD_eq_getElem?_getD, List.getElem?_append_left (by omega)]; simp
  have : hln (A.getD 0 0) ≤ ((A ++ T).length : Int) := by rw [List.length_append]; omega
  simp only [orr, e, this]
  simp
theorem mpp_not {A : List Int} (h : mpp A = false) (h2 : 2 ≤ A.length) : (A.getD 1 0 == 14) = false ∧ (A.getD 1 0 == 15) = false := by
  simpa [mpp, h2] using h

set_option maxHeartbeats 3200000 in
theorem walk_main (a : Option Addr) (la ca : Nat) (A : List Int) (t : Option Addr) (lt ct : Nat) (T : List Int) (w : World)
    (hA : A.length = la) (hT : T.length = lt) (h1 : 1 ≤ la) (hl : la + lt ≤ 1048576) (ra : Rdb w a la ca A) (rt : Rdb w t lt ct T) :
    Calls Try.prog 4 #[.slice a la ca, .slice t lt ct] w fun e w' => e = .returned (.bool true) ∧ Below w.heap.size w w' := by
  obtain ⟨i0, hi, hz0, hz1, hz2⟩ := info_parts info5
  have hne : ((la : Int) == 0) = false := by simp; omega
  go_enter Try.func4, Try.ntmps4
  go_wp2_with fail
  refine (bytes10_yes _ _ _ _ _ _ _ hl).mono ?_
  rintro e w ⟨rfl, rfl⟩
  go_wp2_with fail
  refine (clone_any a la ca A _ hA (by omega) ra).mono ?_
  rintro e w1 ⟨a', rfl, hb1, hor⟩
  rcases hor with hor | ⟨rfl, hownA1⟩
  · omega
  have rt1 : Rdb w1 t lt ct T := by
    rcases rt with h | h | ⟨b, off, rfl, hc⟩
    · exact Or.inl h
    · exact Or.inr (Or.inl h)
    · exact Or.inr (Or.inr ⟨b, off, rfl, fun i hi => (hb1.cell (by exact cell_lt (hc i hi))).trans (hc i hi)⟩)
  clear ra rt
  go_wp2_with fail
  refine (clone_any t lt ct T _ hT (by omega) rt1).mono ?_
  rintro e w2 ⟨at', rfl, hb2, hor⟩
  have hownA2 := own_below hownA1 hb2 (own_lt hownA1)
  have hb12 : Below w.heap.size w w2 := hb1.trans (hb2.mono hb1.size)
  have hgA := own_lt hownA2
  have HOR : Hid (lt = 0 ∨ at' = some ⟨w1.heap.size, 0, none⟩ ∧ w2.ownsRow w1.heap.size 5 1 (.slice (some ⟨w1.heap.size, 0, none⟩) lt lt) lt (T.map (Value.int .u8))) := hor
  clear hor hownA1 rt1 hb1
  go_wp2_with (at_make; refine wpList_make_own _ rfl _ _ 26 rfl w2.heap.size 5 i0 (.int .u8 0) 1 Try.underlying26 hi hz0 hz1 _ _ _ (la + lt) rfl rfl (by omega) ?b2 ?b3 (Nat.le_refl _) ?_)
  case b2 => rw [hz2]; omega
  case b3 => unfold maxLen; omega
  intro w3 hown3 hgrow3
  go_wp2
  go_loopw [5, 6] (fun out i wr => ∃ k : Nat, k ≤ la ∧ i = .int .i64 k ∧ out = .slice (some ⟨w2.heap.size, 0, none⟩) k (la + lt) ∧ wr.ownsRow w2.heap.size 5 1 (.slice (some ⟨w2.heap.size, 0, none⟩) k (la + lt)) k ((A.take k).map (Value.int .u8)) ∧ Below w2.heap.size w2 wr)
    (fun _ i _ => la - (intOf i).toNat)
  case atStart => exact ⟨0, Nat.zero_le _, rfl, rfl, by simpa using hown3, (Below.refl _ _).grown hgrow3 (Nat.le_refl _) (fun k h => by cases h)⟩
  case round =>
    obtain ⟨k, hk, rfl, rfl, hown, hnx⟩ := hrel
    by_cases hlt : k < la
    · have hcell := own_cell (own_below hownA2 hnx hgA) k hlt
      have HS : Hid (A.take k ++ [A.getD k 0] = A.take (k + 1)) := take_snoc (by omega)
      obtain ⟨c, hcc⟩ : ∃ c, c = A.getD k 0 := ⟨_, rfl⟩
      rw [← hcc] at hcell HS
      clear hcc
      go_wp2_with (at_builtin; refine wpList_append_fits _ rfl _ _ 26 rfl w2.heap.size 5 i0 1 Try.underlying26 hi hz1 w2.heap.size k (la + lt) _ rfl (hown.alloc _) ⟨wr.heap.size, 0, none⟩ 1 1 [.int .u8 c] rfl rfl (by intro j u hj; match j, hj with | 0, hj => simp at hj; subst hj; simp [Addr.add]) (by intro u hu; simp at hu; subst hu; rfl) (by omega) ?_; intro w4 hown4 hgrow4)
      go_roundw
      case rel => exact ⟨k + 1, by omega, by go_num, rfl, snoc_own HS.out hown4, (hnx.alloc hnx.size _).grown hgrow4 (by simp; have := hnx.size; omega) (fun k hk => by cases hk; exact Nat.le_refl _)⟩
      case measure => simp [intOf]; omega
    · have hkl : k = la := by omega
      subst hkl
      rw [List.take_of_length_le (by omega)] at hown
      have hownA3 := own_below hownA2 hnx hgA
      have HOR3 : Hid (lt = 0 ∨ at' = some ⟨w1.heap.size, 0, none⟩ ∧ wr.ownsRow w1.heap.size 5 1 (.slice (some ⟨w1.heap.size, 0, none⟩) lt lt) lt (T.map (Value.int .u8)) ∧ w1.heap.size < w2.heap.size) := by
        rcases HOR.out with h | ⟨h, h'⟩
        · exact Or.inl h
        · exact Or.inr ⟨h, own_below h' hnx (own_lt h'), own_lt h'⟩
      have hb3 : Below w.heap.size w wr := hb12.trans (hnx.mono hb12.size)
      have hsz : w2.heap.size ≤ wr.heap.size := hnx.size
      clear hownA2 HOR hnx hb12 hlt hk hown3 hgrow3
      obtain ⟨w4, hw4⟩ : ∃ w4, w4 = wr := ⟨_, rfl⟩
      rw [← hw4] at hown hownA3 HOR3 hb3 hsz ⊢
      clear hw4
      go_wp2
      go_loopw [5, 7] (fun out i wr => ∃ m : Nat, m ≤ lt ∧ i = .int .i64 m ∧ out = .slice (some ⟨w2.heap.size, 0, none⟩) (k + m) (k + lt) ∧ wr.ownsRow w2.heap.size 5 1 (.slice (some ⟨w2.heap.size, 0, none⟩) (k + m) (k + lt)) (k + m) ((A ++ T.take m).map (Value.int .u8)) ∧ Below w2.heap.size w4 wr)
        (fun _ i _ => lt - (intOf i).toNat)
      case atStart => exact ⟨0, Nat.zero_le _, rfl, rfl, by simpa using hown, (Below.refl _ _)⟩
      case round =>
        obtain ⟨m, hm, rfl, rfl, hownE, hnx⟩ := hrel
        by_cases hlt : m < lt
        · rcases HOR3.out with h0 | ⟨rfl, hownT, hgT⟩
          · omega
          have hcell := own_cell (own_below hownT hnx hgT) m hlt
          have HS : Hid ((A ++ T.take m) ++ [T.getD m 0] = A ++ T.take (m + 1)) := by
            rw [Hid, List.append_assoc, take_snoc (by omega)]
          obtain ⟨c, hcc⟩ : ∃ c, c = T.getD m 0 := ⟨_, rfl⟩
          rw [← hcc] at hcell HS
          clear hcc hownT HOR3
          have hsz2 : w2.heap.size ≤ wr.heap.size := Nat.le_trans hsz hnx.size
          go_wp2_with (at_builtin; refine wpList_append_fits _ rfl _ _ 26 rfl w2.heap.size 5 i0 1 Try.underlying26 hi hz1 w2.heap.size (k + m) (k + lt) _ rfl (hownE.alloc _) ⟨wr.heap.size, 0, none⟩ 1 1 [.int .u8 c] rfl rfl (by intro j u hj; match j, hj with | 0, hj => simp at hj; subst hj; simp [Addr.add]) (by intro u hu; simp at hu; subst hu; rfl) (by omega) ?_; intro w5 hown5 hgrow5)
          go_roundw
          case rel => exact ⟨m + 1, by omega, by go_num, rfl, snoc_own HS.out hown5, (hnx.alloc hsz2 _).grown hgrow5 (by simp; omega) (fun k hk => by cases hk; exact Nat.le_refl _)⟩
          case measure => simp [intOf]; omega
        · have hml : m = lt := by omega
          subst hml
          rw [List.take_of_length_le (by omega)] at hownE
          have hownA := own_below hownA3 hnx hgA
          have hb : Below w.heap.size w wr := hb3.trans (hnx.mono (by omega))
          have cA : ∀ r, Calls Try.prog 12 #[.slice (some ⟨w.heap.size, 0, none⟩) k k, .bool r] wr fun e w' => e = .returned (.bool (orr A r)) ∧ w' = wr := fun r => zzor_any w.heap.size k k A r wr hA h1 (by omega) (own_cell hownA)
          have cE : ∀ r, Calls Try.prog 12 #[.slice (some ⟨w2.heap.size, 0, none⟩) (k + m) (k + m), .bool r] wr fun e w' => e = .returned (.bool (orr (A ++ T) r)) ∧ w' = wr := fun r => zzor_any w2.heap.size (k + m) (k + m) (A ++ T) r wr (by simp [hA, hT]) (by omega) hl (own_cell hownE)
          have c0 : wr.cell? ⟨w.heap.size, 0, none⟩ = some (.int .u8 (A.getD 0 0)) := own_cell hownA 0 (by omega)
          have c1 : 2 ≤ k → wr.cell? ⟨w.heap.size, 1, none⟩ = some (.int .u8 (A.getD 1 0)) := fun h => own_cell hownA 1 (by omega)
          clear hownA hownE hnx hb3 hownA3 HOR3 hown hlt hm hsz
          by_cases hM : mpp A = true
          · have e1 := orr_mp hM
            have e2 := orr_mpx (T := T) hM
            obtain ⟨h2, h1415⟩ := mpp_iff hM
            have cA1 := cA true
            have cA2 := cA false
            have cE1 := cE true
            have cE2 := cE false
            rw [e1] at cA1 cA2
            rw [e2] at cE1 cE2
            have c1' := c1 (by omega)
            obtain ⟨x1, hx1⟩ : ∃ x, x = A.getD 1 0 := ⟨_, rfl⟩
            rw [← hx1] at c1' h1415
            have HA1 := hide cA1
            have HA2 := hide cA2
            have HE1 := hide cE1
            have HE2 := hide cE2
            clear cA cE cA1 cA2 cE1 cE2 c1 c0 hx1 e1 e2 hM
            go_wp2_with fail
            refine HA1.out.mono ?_
            rintro e wr ⟨rfl, rfl⟩
            go_wp2_with fail
            refine HA2.out.mono ?_
            rintro e wr ⟨rfl, rfl⟩
            go_wp2_with fail
            refine HE1.out.mono ?_
            rintro e wr ⟨rfl, rfl⟩
            go_wp2_with fail
            refine HE2.out.mono ?_
            rintro e wr ⟨rfl, rfl⟩
            rcases h1415 with rfl | rfl
            · go_wp2_with fail
              all_goals (go_ret; exact ⟨rfl, hb⟩)
            · go_wp2_with fail
              all_goals (go_ret; exact ⟨rfl, hb⟩)
          · have hM' : mpp A = false := by simpa using hM
            have e1 := orr_not hM'
            have cA1 := cA true
            have cA2 := cA false
            have cE2 := cE false
            rw [e1.1] at cA1
            rw [e1.2] at cA2
            obtain ⟨x0, hx0⟩ : ∃ x, x = A.getD 0 0 := ⟨_, rfl⟩
            obtain ⟨x1, hx1⟩ : ∃ x, x = A.getD 1 0 := ⟨_, rfl⟩
            have n1 := mpp_not hM'
            have ex := orr_ext (T := T) (A := A) (by omega)
            rw [← hx0] at c0 cA2 ex
            rw [← hx1] at c1 n1
            rw [hA] at cA2 ex n1
            clear hx0 hx1 hM hM' e1 cA cE
            have HA1 := hide cA1
            clear cA1
            have HH : Hid (∀ w, Calls Try.prog 13 #[.int .u8 x0] w fun e w' => e = .returned (.int .i64 (hln x0)) ∧ w' = w) := fun w => zzahl_any x0 w
            by_cases hx : xt x0 = true
            · have hh : hln x0 = 4 := by simp [hln, hx]
              rw [hh] at HH cA2 ex
              have hx' : (bits .and .u8 x0 16 != 0) = true := by simpa [xt] using hx
              clear hx hh
              by_cases hL : (4 : Int) ≤ (k : Int)
              · have eL : decide ((4 : Int) ≤ (k : Int)) = true := by simpa using hL
                rw [eL] at cA2
                have HA2 := hide cA2
                rw [ex hL] at cE2
                have HE2 := hide cE2
                clear cA2 cE2 ex eL
                by_cases h2 : 2 ≤ k
                · obtain ⟨f14, f15⟩ := n1 h2
                  have c1' := c1 h2
                  clear n1 c1
                  go_wp2_with fail
                  refine HA1.out.mono ?_
                  rintro e wr ⟨rfl, rfl⟩
                  go_wp2_with fail
                  refine HA2.out.mono ?_
                  rintro e wr ⟨rfl, rfl⟩
                  go_wp2_with fail
                  refine HE2.out.mono ?_
                  rintro e wr ⟨rfl, rfl⟩
                  go_wp2_with fail
                  refine (HH.out _).mono ?_
                  rintro e wr ⟨rfl, rfl⟩
                  go_wp2_with fail
                  all_goals (go_ret; exact ⟨rfl, hb⟩)
                · omega
              · have eL : decide ((4 : Int) ≤ (k : Int)) = false := by simpa using hL
                rw [eL] at cA2
                have HA2 := hide cA2
                clear cA2 cE2 ex eL
                by_cases h2 : 2 ≤ k
                · obtain ⟨f14, f15⟩ := n1 h2
                  have c1' := c1 h2
                  clear n1 c1
                  go_wp2_with fail
                  refine HA1.out.mono ?_
                  rintro e wr ⟨rfl, rfl⟩
                  go_wp2_with fail
                  refine HA2.out.mono ?_
                  rintro e wr ⟨rfl, rfl⟩
                  go_wp2_with fail
                  refine (HH.out _).mono ?_
                  rintro e wr ⟨rfl, rfl⟩
                  go_wp2_with fail
                  all_goals (go_ret; exact ⟨rfl, hb⟩)
                · clear n1 c1
                  go_wp2_with fail
                  refine HA1.out.mono ?_
                  rintro e wr ⟨rfl, rfl⟩
                  go_wp2_with fail
                  refine HA2.out.mono ?_
                  rintro e wr ⟨rfl, rfl⟩
                  go_wp2_with fail
                  refine (HH.out _).mono ?_
                  rintro e wr ⟨rfl, rfl⟩
                  go_wp2_with fail
                  all_goals (go_ret; exact ⟨rfl, hb⟩)
            · have hh : hln x0 = 3 := by simp [hln, hx]
              rw [hh] at HH cA2 ex
              have hx' : (bits .and .u8 x0 16 != 0) = false := by simpa [xt] using hx
              clear hx hh
              by_cases hL : (3 : Int) ≤ (k : Int)
              · have eL : decide ((3 : Int) ≤ (k : Int)) = true := by simpa using hL
                rw [eL] at cA2
                have HA2 := hide cA2
                rw [ex hL] at cE2
                have HE2 := hide cE2
                clear cA2 cE2 ex eL
                by_cases h2 : 2 ≤ k
                · obtain ⟨f14, f15⟩ := n1 h2
                  have c1' := c1 h2
                  clear n1 c1
                  go_wp2_with fail
                  refine HA1.out.mono ?_
                  rintro e wr ⟨rfl, rfl⟩
                  go_wp2_with fail
                  refine HA2.out.mono ?_
                  rintro e wr ⟨rfl, rfl⟩
                  go_wp2_with fail
                  refine HE2.out.mono ?_
                  rintro e wr ⟨rfl, rfl⟩
                  go_wp2_with fail
                  refine (HH.out _).mono ?_
                  rintro e wr ⟨rfl, rfl⟩
                  go_wp2_with fail
                  all_goals (go_ret; exact ⟨rfl, hb⟩)
                · omega
              · have eL : decide ((3 : Int) ≤ (k : Int)) = false := by simpa using hL
                rw [eL] at cA2
                have HA2 := hide cA2
                clear cA2 cE2 ex eL
                by_cases h2 : 2 ≤ k
                · obtain ⟨f14, f15⟩ := n1 h2
                  have c1' := c1 h2
                  clear n1 c1
                  go_wp2_with fail
                  refine HA1.out.mono ?_
                  rintro e wr ⟨rfl, rfl⟩
                  go_wp2_with fail
                  refine HA2.out.mono ?_
                  rintro e wr ⟨rfl, rfl⟩
                  go_wp2_with fail
                  refine (HH.out _).mono ?_
                  rintro e wr ⟨rfl, rfl⟩
                  go_wp2_with fail
                  all_goals (go_ret; exact ⟨rfl, hb⟩)
                · clear n1 c1
                  go_wp2_with fail
                  refine HA1.out.mono ?_
                  rintro e wr ⟨rfl, rfl⟩
                  go_wp2_with fail
                  refine HA2.out.mono ?_
                  rintro e wr ⟨rfl, rfl⟩
                  go_wp2_with fail
                  refine (HH.out _).mono ?_
                  rintro e wr ⟨rfl, rfl⟩
                  go_wp2_with fail
                  all_goals (go_ret; exact ⟨rfl, hb⟩)

set_option maxHeartbeats 400000 in
theorem walk_empty (a : Option Addr) (ca : Nat) (t : Option Addr) (lt ct : Nat) (w : World) (hl : lt ≤ 1048576) :
    Calls Try.prog 4 #[.slice a 0 ca, .slice t lt ct] w fun e w' => e = .returned (.bool true) ∧ Below w.heap.size w w' := by
  go_enter Try.func4, Try.ntmps4
  go_wp2_with (go_at_call 10; refine (bytes10_yes _ _ _ _ _ _ _ (by omega)).mono ?_; rintro e w ⟨rfl, rfl⟩)
  go_ret
  exact ⟨rfl, Below.refl _ _⟩

set_option maxHeartbeats 400000 in
theorem walk_long (a : Option Addr) (la ca : Nat) (t : Option Addr) (lt ct : Nat) (w : World) (h : ¬ la + lt ≤ 1048576) (h1 : la ≤ maxLen) (h2 : lt ≤ maxLen) :
    Calls Try.prog 4 #[.slice a la ca, .slice t lt ct] w fun e w' => e = .returned (.bool true) ∧ Below w.heap.size w w' := by
  go_enter Try.func4, Try.ntmps4
  go_wp2_with (go_at_call 10; refine (bytes10_no _ _ _ _ _ _ _ h h1 h2).mono ?_; rintro e w ⟨rfl, rfl⟩)
  go_ret
  exact ⟨rfl, Below.refl _ _⟩

theorem isRow_rd {w : World} {a : Option Addr} {len cap : Nat} {zs : List Int} (h : IsRow .u8 w a len cap zs) : Rdb w a len cap (zs.take len) ∧ (zs.take len).length = len ∧ len ≤ maxLen := by
  rcases h with ⟨rfl, rfl, rfl, rfl⟩ | ⟨x, rfl, hlc, hcm, hz, hc, hwf⟩
  · exact ⟨Or.inl ⟨rfl, rfl, rfl⟩, rfl, by unfold maxLen; omega⟩
  · refine ⟨?_, by simp; omega, by omega⟩
    by_cases h0 : len = 0
    · exact Or.inr (Or.inl ⟨h0, x, rfl⟩)
    · obtain ⟨b, off, rfl, hcc⟩ := ints_at hc (by omega)
      refine Or.inr (Or.inr ⟨b, off, rfl, fun i hi => ?_⟩)
      rw [hcc i (by omega)]; simp [hi]

theorem walk (a0 : Option Addr) (len0 cap0 : Nat) (z0 : List Int) (a1 : Option Addr) (len1 cap1 : Nat) (z1 : List Int) (w : World) (w0 : IsRow .u8 w a0 len0 cap0 z0) (w1 : IsRow .u8 w a1 len1 cap1 z1) :
    Calls Try.prog 4 #[.slice a0 len0 cap0, .slice a1 len1 cap1] w fun e w' => e = .returned (.bool true) ∧ Below w.heap.size w w' := by
  obtain ⟨r0, l0, m0⟩ := isRow_rd w0
  obtain ⟨r1, l1, m1⟩ := isRow_rd w1
  by_cases h1 : len0 + len1 ≤ 1048576
  · by_cases h2 : 1 ≤ len0
    · exact walk_main a0 len0 cap0 _ a1 len1 cap1 _ w l0 l1 h2 h1 r0 r1
    · obtain rfl : len0 = 0 := by omega
      exact walk_empty a0 cap0 a1 len1 cap1 w (by omega)
  · exact walk_long a0 len0 cap0 a1 len1 cap1 w h1 m0 m1

/-! ### THE ROW's STEP: WRITTEN OUT: LEAVE IT -/
set_option maxRecDepth 100000 in
theorem lifted (os : Os) (started : os.Started) (H : Type) (enc : TypeId × Value → H) :
    ReturnsInHanded {} Try.checked os 4 .any (Rows.fnOverrunResetsMonotoneSpec.pre6 enc Try.prog Try.f4 Rows.fnOverrunResetsMonotoneRow.domain false) (Rows.fnOverrunResetsMonotoneSpec.post enc Try.prog Try.f4 false true false false) := by
  refine returnsInHanded_of_change (C := Try.checked) own started (by kernel_rfl) Try.func4
    (ChangeSpec.witness6 (enc := enc) (C := Try.checked) false ⟨#[], #[.slice none 0 0, .slice none 0 0], []⟩ 8 (by kernel_rfl) (by kernel_rfl) (by kernel_rfl) (by kernel_rfl)) ?_
  intro W base args ds gs before hval0 hW hcnd _
  have hval : ∀ (j : Nat) t v, Try.f4.params[j]? = some t → args[j]? = some v → Value.okWide Try.prog W .any base t v := hval0
  have hW' := hW
  obtain ⟨p, q, hA0, hV, rfl, hfz, hnd⟩ := hW
  have hA : DataW.TrodAll enc Try.prog W 0 (fun _ => true) true Try.f4.params.toList args.toList ds p := hA0
  rw [Try.params4] at hA hval
  obtain ⟨v0, vs0, d0, ds0, p0, q0, hargs, rfl, rfl, h0, r0⟩ := trodAll_cons hA
  obtain ⟨v1, vs1, d1, ds1, p1, q1, rfl, rfl, rfl, h1, r1⟩ := trodAll_cons r0
  obtain ⟨rfl, rfl, rfl⟩ := trodAll_nil r1
  obtain rfl : args = #[v0, v1] := by cases args; simp_all
  obtain ⟨rfl, rfl⟩ := trodVars_none hV
  obtain ⟨a0, len0, cap0, rfl⟩ := okWide_slice Try.underlying26 (hval 0 26 v0 rfl rfl)
  have k0 := h0
  have lt0 : ∀ x ∈ p0, x.block < W.heap.size := by obtain ⟨m, hm⟩ := k0; exact DataW.trod_lt m _ _ _ hm
  obtain ⟨z0, w0⟩ : ∃ zs, IsRow .u8 W a0 len0 cap0 zs := by
    obtain ⟨fuel, hf⟩ := h0
    rcases open_ints Try.underlying26 Try.underlying5 (by kernel_rfl) hf with ⟨hcs, _⟩ | ⟨x, l, c, zs, hcs, _, hl, hm, hz, _, hcell, hwz⟩
    · simp [Value.cells] at hcs
      obtain ⟨rfl, rfl, rfl⟩ := hcs
      exact ⟨[], .inl ⟨rfl, rfl, rfl, rfl⟩⟩
    · simp [Value.cells] at hcs
      obtain ⟨rfl, rfl, rfl⟩ := hcs
      exact ⟨zs, .inr ⟨_, rfl, hl, hm, by simpa using hz, hcell, hwz⟩⟩
  obtain ⟨a1, len1, cap1, rfl⟩ := okWide_slice Try.underlying26 (hval 1 26 v1 rfl rfl)
  have k1 := h1
  have lt1 : ∀ x ∈ p1, x.block < W.heap.size := by obtain ⟨m, hm⟩ := k1; exact DataW.trod_lt m _ _ _ hm
  obtain ⟨z1, w1⟩ : ∃ zs, IsRow .u8 W a1 len1 cap1 zs := by
    obtain ⟨fuel, hf⟩ := h1
    rcases open_ints Try.underlying26 Try.underlying5 (by kernel_rfl) hf with ⟨hcs, _⟩ | ⟨x, l, c, zs, hcs, _, hl, hm, hz, _, hcell, hwz⟩
    · simp [Value.cells] at hcs
      obtain ⟨rfl, rfl, rfl⟩ := hcs
      exact ⟨[], .inl ⟨rfl, rfl, rfl, rfl⟩⟩
    · simp [Value.cells] at hcs
      obtain ⟨rfl, rfl, rfl⟩ := hcs
      exact ⟨zs, .inr ⟨_, rfl, hl, hm, by simpa using hz, hcell, hwz⟩⟩
  clear hA0 hval0
  refine (walk a0 len0 cap0 z0 a1 len1 cap1 z1 W w0 w1).mono fun e W' ⟨he, bel⟩ => ?_
  subst he
  exact ⟨_, rfl, _, _, _, [], _, [], hW', trodAll_mk1 (shut_bool Try.underlying4 _), (trodAll_cons_mk (Below.trod laidOut (by kernel_rfl) (of_decide_eq_true (by kernel_rfl)) k0 bel lt0) (trodAll_cons_mk (Below.trod laidOut (by kernel_rfl) (of_decide_eq_true (by kernel_rfl)) k1 bel lt1) trodAll_mk0)), rfl, bel.frame _, fun h => by cases h⟩

theorem over : Rows.fnOverrunResetsMonotoneRow.holds Try.pinned (OpenSpec.ofChange Rows.fnOverrunResetsMonotoneSpec) :=
  OpenClaim.holds_of_wide 4 Try.f4 rfl rfl rfl rfl rfl rfl rfl ⟨rfl, rfl, rfl, rfl, rfl⟩ rfl rfl rfl rfl rfl (by kernel_rfl) Try.func4 (by kernel_rfl)
    (of_decide_eq_true (by kernel_rfl)) (by unfold Func.isWrapper; first | (rw [if_pos (by decide +kernel)]; kernel_rfl) | (rw [if_neg (by decide +kernel)]; exact ⟨rfl, rfl⟩))
    (fun os started H enc _ => lifted os started H enc)

/-- ████ THE STATEMENT ████ -/
theorem proved : Rows.FnOverrunResetsMonotoneSaid := over
#print axioms proved
end Go.Proofs.Qxb6002606a.fnOverrunResetsMonotone
