/-
  THE CONTRACT OF ZZB1Number, AND WHAT IT READS WHERE A NUMBER HAS BEEN WRITTEN.
-/
import Derived.Test.Qxb6601645aNumber
namespace Go.Proofs.Qxb6601645a.Base
open Go.RowKit
set_option maxHeartbeats 800000 in
theorem zznumber_any (s : ByteArray) (i : Nat) (ok : Bool) (d : Int) (w : World) (hs : s.size ≤ 1048576) (hi : i ≤ s.size) :
    Calls Try.prog 15 #[.string s, .int .i64 i, .bool ok, .int .i64 d] w fun e w' => ∃ j k : Nat,
      e = .returned (.tuple #[.string (s.extract j k), .int .i64 k, .bool (ok && okNum s (dig0 s j) k), .int .i64 d]) ∧
      Run (fun t => isSp (bt s t)) i s.size j ∧ Run (fun t => isDg (bt s t)) (dig0 s j) s.size k ∧ Below w.heap.size w w' := by
  go_enter Try.func15, Try.ntmps15
  go_wp2_with fail
  have hr : Rdr (w.alloc (.cells #[.string s, .int .i64 i, .bool ok, .int .i64 d] 35)) w.heap.size s i ok d := heap_alloc_new w _
  refine (number_any w.heap.size s i ok d _ hs hi hr).mono ?_
  rintro e w1 ⟨j, k, rfl, hj, hk, hrd, hbl⟩
  have hb1 : Below w.heap.size w w1 := ((Below.refl _ _).alloc (Nat.le_refl _) _).trans hbl
  have HJ := hide hj
  have HK := hide hk
  obtain ⟨c0, c1, c2, c3, cf⟩ := hrd.cells
  obtain ⟨ok', hok⟩ : ∃ b, b = (ok && okNum s (dig0 s j) k) := ⟨_, rfl⟩
  have HOK := hide hok
  rw [← hok] at c2
  clear hj hk hrd cf hr hbl hok
  go_wp2
  go_quiet (fail)
  go_wp2
  exact bodyPost_ret (v := .tuple #[.string (s.extract j k), .int .i64 k, .bool ok', .int .i64 d]) (by simp [results, Try.results15, go_sem]) rfl ⟨j, k, by rw [HOK.out], HJ.out, HK.out, below_drewN hb1 _⟩

/-! ### THE PLAIN LAW: a number t written behind pre and ahead of post -/
theorem bt_left {a b : ByteArray} {i : Nat} (h : i < a.size) : bt (a ++ b) i = bt a i := by
  rw [bt_eq h, bt_eq (by rw [ByteArray.size_append]; omega), ByteArray.getElem_append_left h]
theorem bt_right {a b : ByteArray} (i : Nat) : bt (a ++ b) (a.size + i) = bt b i := by
  by_cases h : i < b.size
  · rw [bt_eq h, bt_eq (by rw [ByteArray.size_append]; omega), ByteArray.getElem_append_right (Nat.le_add_right _ _)]
    simp
  · unfold bt
    rw [dif_neg (by rw [ByteArray.size_append]; omega), dif_neg h]

theorem sp_not_dg {c : Int} (h : isDg c = true) : isSp c = false := by
  simp [isDg] at h
  simp [isSp]
  omega

/-- a number: sg (0 or 1) octets of sign, then digits, at least one -/
def IsNum (t : ByteArray) (sg : Nat) : Prop := sg < t.size ∧ (sg = 0 ∨ (sg = 1 ∧ bt t 0 = 45)) ∧ ∀ i, sg ≤ i → i < t.size → isDg (bt t i) = true

theorem num_read {pre t post : ByteArray} {sg j k : Nat} (ht : IsNum t sg) (hp : post.size = 0 ∨ isDg (bt post 0) = false)
    (hj : Run (fun i => isSp (bt (pre ++ t ++ post) i)) pre.size (pre ++ t ++ post).size j) (hk : Run (fun i => isDg (bt (pre ++ t ++ post) i)) (dig0 (pre ++ t ++ post) j) (pre ++ t ++ post).size k) :
    j = pre.size ∧ k = pre.size + t.size ∧ (pre ++ t ++ post).extract j k = t ∧ okNum (pre ++ t ++ post) (dig0 (pre ++ t ++ post) j) k = !((bt t sg == 48) && decide (sg + 1 < t.size)) := by
  obtain ⟨h1, h2, h3⟩ := ht
  have hsz : (pre ++ t ++ post).size = pre.size + t.size + post.size := by simp [ByteArray.size_append]
  have hbt : ∀ i, i < t.size → bt (pre ++ t ++ post) (pre.size + i) = bt t i := fun i hi => by
    rw [bt_left (by rw [ByteArray.size_append]; omega), bt_right]
  have hbp : bt (pre ++ t ++ post) (pre.size + t.size) = bt post 0 := by
    have := bt_right (a := pre ++ t) (b := post) 0
    rw [ByteArray.size_append] at this
    simpa using this
  have hns : isSp (bt (pre ++ t ++ post) pre.size) = false := by
    have := hbt 0 (by omega)
    rw [Nat.add_zero] at this
    rw [this]
    rcases h2 with rfl | ⟨rfl, h45⟩
    · exact sp_not_dg (h3 0 (Nat.le_refl _) (by omega))
    · rw [h45]; rfl
  have hj' : j = pre.size := hj.same ⟨Nat.le_refl _, by omega, fun t a b => by omega, fun _ => hns⟩
  subst hj'
  have hd : dig0 (pre ++ t ++ post) pre.size = pre.size + sg := by
    have h0 := hbt 0 (by omega)
    rw [Nat.add_zero] at h0
    rcases h2 with rfl | ⟨rfl, h45⟩
    · have hdg := h3 0 (Nat.le_refl _) (by omega)
      have hne : ¬ bt t 0 = 45 := by simp [isDg] at hdg; omega
      simp [dig0, sgn, h0, hne]
    · have hlt : pre.size < pre.size + t.size + post.size := by omega
      simp [dig0, sgn, h0, h45, hsz, hlt]
  rw [hd] at hk ⊢
  have hk' : k = pre.size + t.size := by
    refine hk.same ⟨by omega, by omega, fun i a b => ?_, fun h => ?_⟩
    · have := hbt (i - pre.size) (by omega)
      rw [show pre.size + (i - pre.size) = i by omega] at this
      show isDg (bt (pre ++ t ++ post) i) = true
      rw [this]
      exact h3 _ (by omega) (by omega)
    · show isDg (bt (pre ++ t ++ post) (pre.size + t.size)) = false
      rw [hbp]
      rcases hp with hp | hp
      · omega
      · exact hp
  subst hk'
  refine ⟨rfl, rfl, ?_, ?_⟩
  · rw [ByteArray.extract_append, ByteArray.extract_append_eq_right rfl rfl]
    have : (pre ++ t).size = pre.size + t.size := ByteArray.size_append
    rw [this]
    have e : post.extract (pre.size - (pre.size + t.size)) (pre.size + t.size - (pre.size + t.size)) = ByteArray.empty := by
      apply ByteArray.ext
      rw [ByteArray.data_extract]
      apply Array.eq_empty_of_size_eq_zero
      simp
    rw [e, ByteArray.append_empty]
  · unfold okNum
    have hne : ¬ pre.size + t.size = pre.size + sg := by omega
    have hbt0 := hbt sg h1
    rw [hbt0]
    have e2 : decide (pre.size + sg + 1 < pre.size + t.size) = decide (sg + 1 < t.size) := by
      rw [decide_eq_decide]; omega
    rw [e2]
    have e3 : (pre.size + t.size == pre.size + sg) = false := by simpa using hne
    rw [e3]
    simp
end Go.Proofs.Qxb6601645a.Base
