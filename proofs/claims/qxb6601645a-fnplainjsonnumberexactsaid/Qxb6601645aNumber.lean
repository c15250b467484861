/-
  THE CONTRACT OF Reader.number.
-/
import Derived.Test.Qxb6601645aReader
import Derived.Deep.DeepCutAuto
import Derived.Deep.LoopGhost
namespace Go.Proofs.Qxb6601645a.Base
open Go.RowKit
/-- 0, or digits that do not begin with 0 -/
def okNum (s : ByteArray) (d0 k : Nat) : Bool := !((k == d0) || ((bt s d0 == 48) && decide (d0 + 1 < k)))
/-- is there a minus? -/
def sgn (s : ByteArray) (j : Nat) : Bool := decide (j < s.size) && (bt s j == 45)
/-- where the digits begin -/
def dig0 (s : ByteArray) (j : Nat) : Nat := if sgn s j = true then j + 1 else j

theorem sgn_true {s : ByteArray} {j : Nat} (h : sgn s j = true) : j + 1 ≤ s.size ∧ bt s j = 45 := by
  simp only [sgn, Bool.and_eq_true, decide_eq_true_eq, beq_iff_eq] at h
  exact ⟨h.1, h.2⟩
/-- is there a digit at k? -/
def dgAt (s : ByteArray) (k : Nat) : Bool := decide (k < s.size) && isDg (bt s k)
theorem dgAt_true {s : ByteArray} {k : Nat} (h : dgAt s k = true) : k + 1 ≤ s.size ∧ isDg (bt s k) = true := by
  simp only [dgAt, Bool.and_eq_true, decide_eq_true_eq] at h
  exact ⟨h.1, h.2⟩
theorem dgAt_false {s : ByteArray} {k : Nat} (h : dgAt s k = false) (hk : k < s.size) : isDg (bt s k) = false := by
  simpa [dgAt, hk] using h
theorem rdr_succ {w : World} {bp : Nat} {s : ByteArray} {k : Nat} {ok : Bool} {d : Int} (h : Rdr w bp s k ok d) (n : Nat) :
    Rdr ((w.setCell ⟨bp, 1, none⟩ (.int .i64 ((k : Int) + 1))).drewN n) bp s ((k + 1 : Nat) : Int) ok d := by
  rw [show ((k + 1 : Nat) : Int) = (k : Int) + 1 by omega]
  exact (h.set1 _).drewN _

set_option maxRecDepth 100000 in
set_option maxHeartbeats 1600000 in
theorem number_any (bp : Nat) (s : ByteArray) (i : Nat) (ok : Bool) (d : Int) (w : World) (hs : s.size ≤ 1048576) (hi : i ≤ s.size) (hr : Rdr w bp s i ok d) :
    Calls Try.prog 24 #[.pointer (some ⟨bp, 0, none⟩)] w fun e w' => ∃ j k : Nat, e = .returned (.string (s.extract j k)) ∧
      Run (fun t => isSp (bt s t)) i s.size j ∧ Run (fun t => isDg (bt s t)) (dig0 s j) s.size k ∧ Rdr w' bp s k (ok && okNum s (dig0 s j) k) d ∧ Below bp w w' := by
  go_enter Try.func24, Try.ntmps24
  go_wp2_with fail
  refine (rspace_any bp s i ok d _ hs hi hr).mono ?_
  rintro e w1 ⟨j, rfl, hrun, hrd, hbl⟩
  obtain ⟨c0, c1, c2, c3, cf⟩ := hrd.cells
  have f1 := cf 1
  have HR := hide hrd
  have HN := hide hrun
  have hj : j ≤ s.size := hrun.2.1
  clear hr hrd cf hrun c2 c3
  go_wp2_with fail
  go_cut [32] (fun v wc => v = .bool (sgn s j) ∧ ∃ n, wc = w1.drewN n)
  case first =>
    by_cases hlt : j < s.size
    · have hd : decide ((j : Int) < (s.size : Int)) = true := by simpa using hlt
      have hlt' : (j : Int) < (s.size : Int) := by omega
      have hj0 : (0 : Int) ≤ (j : Int) := by omega
      have hb := bt_eq hlt
      have HD : Hid (sgn s j = ((s[j].toNat : Int) == 45)) := by simp [Hid, sgn, hlt, hb]
      clear hb
      go_quiet (fail)
      go_wp2
      go_meet
      case rel => exact ⟨by rw [HD.out], _, rfl⟩
    · have hd : decide ((j : Int) < (s.size : Int)) = false := by simpa using hlt
      have HD : Hid (sgn s j = false) := by simp [Hid, sgn, hlt]
      go_quiet (fail)
      go_wp2
      go_meet
      case rel => exact ⟨by rw [HD.out], _, rfl⟩
  case rest =>
    obtain ⟨rfl, n1, rfl⟩ := hcut
    cases hsg : sgn s j
    · have hd0 := hj
      go_wp2
      go_loopg [] (s.size - j) (fun n wr => ∃ k : Nat, n = s.size - k ∧ j ≤ k ∧ k ≤ s.size ∧ Rdr wr bp s k ok d ∧ Below bp w wr ∧ ∀ t, j ≤ t → t < k → isDg (bt s t) = true)
      case atStart => exact ⟨j, rfl, Nat.le_refl _, hd0, (HR.out.drewN _), (below_drewN hbl _), fun t h1 h2 => by omega⟩
      case round =>
        obtain ⟨k, hgk, hdk, hk, hrd, hbk, hall⟩ := hrel
        obtain ⟨c0, c1, c2, c3, cf⟩ := hrd.cells
        have f1 := cf 1
        have f2 := cf 2
        have HR := hide hrd
        have HA := hide hall
        have HG := hide hgk
        clear hrd hall cf c3 hgk
        go_wp2_with fail
        go_cut [77] (fun v wc => v = .bool (dgAt s k) ∧ ∃ n, wc = wr.drewN n)
        case first =>
          by_cases hlt : k < s.size
          · have hd : decide ((k : Int) < (s.size : Int)) = true := by simpa using hlt
            have hlt' : (k : Int) < (s.size : Int) := by omega
            have hk0 : (0 : Int) ≤ (k : Int) := by omega
            have hb := bt_eq hlt
            by_cases h48 : (48 : Int) ≤ bt s k
            · have HD : Hid (dgAt s k = decide ((s[k].toNat : Int) ≤ 57)) := by simp [Hid, dgAt, hlt, isDg, h48, ← hb]
              rw [hb] at h48
              clear hb
              have e48 : decide ((48 : Int) ≤ (s[k].toNat : Int)) = true := by simpa using h48
              go_quiet (fail)
              go_wp2
              go_meet
              case rel => exact ⟨by rw [HD.out], _, rfl⟩
            · have HD : Hid (dgAt s k = false) := by simp [Hid, dgAt, isDg, h48]
              have e48 : decide ((48 : Int) ≤ (s[k].toNat : Int)) = false := by rw [← hb]; simpa using h48
              clear hb
              go_quiet (fail)
              go_wp2
              go_meet
              case rel => exact ⟨by rw [HD.out], _, rfl⟩
          · have hd : decide ((k : Int) < (s.size : Int)) = false := by simpa using hlt
            have HD : Hid (dgAt s k = false) := by simp [Hid, dgAt, hlt]
            go_quiet (fail)
            go_wp2
            go_meet
            case rel => exact ⟨by rw [HD.out], _, rfl⟩
        case rest =>
          obtain ⟨rfl, n2, rfl⟩ := hcut
          cases hdg : dgAt s k
          · have HD0 : Hid (dig0 s j = j) := by simp [Hid, dig0, hsg]
            have HK : Hid (Run (fun t => isDg (bt s t)) j s.size k) := ⟨hdk, hk, HA.out, fun h => dgAt_false hdg h⟩
            clear HA HG
            have hjk' : (j : Int) ≤ (k : Int) := by omega
            have hks' : (k : Int) ≤ (s.size : Int) := by omega
            have hj0' : (0 : Int) ≤ (j : Int) := by omega
            by_cases he : k = j
            · have HOK : Hid (okNum s j k = false) := by simp [Hid, okNum, he]
              have heq : ((k : Int) == (j : Int)) = true := by simp; omega
              have HR2 := hide (HR.out.set2 false)
              skip
              clear he
              go_wp2
              go_quiet (fail)
              go_wp2
              go_ret
              refine ⟨j, k, rfl, HN.out, ?_, ?_, ?_⟩
              · rw [HD0.out]; exact HK.out
              · rw [HD0.out, HOK.out, Bool.and_false]; exact HR2.out
              · first | exact below_drewN (hbk.setCell (Nat.le_refl _) _) _ | exact below_drewN (below_drewN (hbk.setCell (Nat.le_refl _) _) _) _
            · have hlt0 : j < s.size := by omega
              have hb0 := bt_eq hlt0
              have heq : ((k : Int) == (j : Int)) = false := by simp; omega
              have hi0 : (j : Int) < (s.size : Int) := by omega
              by_cases hz : bt s j = 48
              · have hz' : ((s[j].toNat : Int) == 48) = true := by rw [← hb0, hz]; rfl
                by_cases hg : j + 1 < k
                · have HOK : Hid (okNum s j k = false) := by simp [Hid, okNum, hz, hg]
                  have hg' : (j : Int) + 1 < (k : Int) := by omega
                  have HR2 := hide (HR.out.set2 false)
                  skip
                  clear he hz hb0
                  go_wp2
                  go_quiet (fail)
                  go_wp2
                  go_ret
                  refine ⟨j, k, rfl, HN.out, ?_, ?_, ?_⟩
                  · rw [HD0.out]; exact HK.out
                  · rw [HD0.out, HOK.out, Bool.and_false]; exact HR2.out
                  · first | exact below_drewN (hbk.setCell (Nat.le_refl _) _) _ | exact below_drewN (below_drewN (hbk.setCell (Nat.le_refl _) _) _) _
                · have HOK : Hid (okNum s j k = true) := by simp [Hid, okNum, hg, he]
                  have hg' : ¬ (j : Int) + 1 < (k : Int) := by omega
                  skip
                  clear he hz hb0
                  go_wp2
                  go_quiet (fail)
                  go_wp2
                  go_ret
                  refine ⟨j, k, rfl, HN.out, ?_, ?_, ?_⟩
                  · rw [HD0.out]; exact HK.out
                  · rw [HD0.out, HOK.out, Bool.and_true]; exact HR.out
                  · first | exact below_drewN hbk _ | exact below_drewN (below_drewN hbk _) _
              · have HOK : Hid (okNum s j k = true) := by simp [Hid, okNum, hz, he]
                have hz' : ((s[j].toNat : Int) == 48) = false := by rw [← hb0]; simpa using hz
                skip
                clear he hz hb0
                go_wp2
                go_quiet (fail)
                go_wp2
                go_ret
                refine ⟨j, k, rfl, HN.out, ?_, ?_, ?_⟩
                · rw [HD0.out]; exact HK.out
                · rw [HD0.out, HOK.out, Bool.and_true]; exact HR.out
                · first | exact below_drewN hbk _ | exact below_drewN (below_drewN hbk _) _
          · have hdg' := dgAt_true hdg
            go_wp2
            go_roundg (s.size - (k + 1))
            case measure => have := HG.out; omega
            case rel =>
              refine ⟨k + 1, rfl, by omega, by omega, ?_, ?_, all_step HA.out hdg'.2⟩
              · rw [show ((k + 1 : Nat) : Int) = (k : Int) + 1 by omega]
                exact (HR.out.set1 _).drewN _
              · exact below_drewN (hbk.setCell (Nat.le_refl _) _) _
    · have hsg' := sgn_true hsg
      have hd0 : j + 1 ≤ s.size := hsg'.1
      go_wp2
      go_loopg [] (s.size - (j + 1)) (fun n wr => ∃ k : Nat, n = s.size - k ∧ (j + 1) ≤ k ∧ k ≤ s.size ∧ Rdr wr bp s k ok d ∧ Below bp w wr ∧ ∀ t, (j + 1) ≤ t → t < k → isDg (bt s t) = true)
      case atStart => exact ⟨(j + 1), rfl, Nat.le_refl _, hd0, (rdr_succ HR.out _), (below_drewN (hbl.setCell (Nat.le_refl _) _) _), fun t h1 h2 => by omega⟩
      case round =>
        obtain ⟨k, hgk, hdk, hk, hrd, hbk, hall⟩ := hrel
        obtain ⟨c0, c1, c2, c3, cf⟩ := hrd.cells
        have f1 := cf 1
        have f2 := cf 2
        have HR := hide hrd
        have HA := hide hall
        have HG := hide hgk
        clear hrd hall cf c3 hgk
        go_wp2_with fail
        go_cut [77] (fun v wc => v = .bool (dgAt s k) ∧ ∃ n, wc = wr.drewN n)
        case first =>
          by_cases hlt : k < s.size
          · have hd : decide ((k : Int) < (s.size : Int)) = true := by simpa using hlt
            have hlt' : (k : Int) < (s.size : Int) := by omega
            have hk0 : (0 : Int) ≤ (k : Int) := by omega
            have hb := bt_eq hlt
            by_cases h48 : (48 : Int) ≤ bt s k
            · have HD : Hid (dgAt s k = decide ((s[k].toNat : Int) ≤ 57)) := by simp [Hid, dgAt, hlt, isDg, h48, ← hb]
              rw [hb] at h48
              clear hb
              have e48 : decide ((48 : Int) ≤ (s[k].toNat : Int)) = true := by simpa using h48
              go_quiet (fail)
              go_wp2
              go_meet
              case rel => exact ⟨by rw [HD.out], _, rfl⟩
            · have HD : Hid (dgAt s k = false) := by simp [Hid, dgAt, isDg, h48]
              have e48 : decide ((48 : Int) ≤ (s[k].toNat : Int)) = false := by rw [← hb]; simpa using h48
              clear hb
              go_quiet (fail)
              go_wp2
              go_meet
              case rel => exact ⟨by rw [HD.out], _, rfl⟩
          · have hd : decide ((k : Int) < (s.size : Int)) = false := by simpa using hlt
            have HD : Hid (dgAt s k = false) := by simp [Hid, dgAt, hlt]
            go_quiet (fail)
            go_wp2
            go_meet
            case rel => exact ⟨by rw [HD.out], _, rfl⟩
        case rest =>
          obtain ⟨rfl, n2, rfl⟩ := hcut
          cases hdg : dgAt s k
          · have HD0 : Hid (dig0 s j = (j + 1)) := by simp [Hid, dig0, hsg]
            have HK : Hid (Run (fun t => isDg (bt s t)) (j + 1) s.size k) := ⟨hdk, hk, HA.out, fun h => dgAt_false hdg h⟩
            clear HA HG
            have hjk' : (j : Int) ≤ (k : Int) := by omega
            have hks' : (k : Int) ≤ (s.size : Int) := by omega
            have hj0' : (0 : Int) ≤ (j : Int) := by omega
            by_cases he : k = (j + 1)
            · have HOK : Hid (okNum s (j + 1) k = false) := by simp [Hid, okNum, he]
              have heq : ((k : Int) == (j : Int) + 1) = true := by simp; omega
              have HR2 := hide (HR.out.set2 false)
              skip
              clear he
              go_wp2
              go_quiet (fail)
              go_wp2
              go_ret
              refine ⟨j, k, rfl, HN.out, ?_, ?_, ?_⟩
              · rw [HD0.out]; exact HK.out
              · rw [HD0.out, HOK.out, Bool.and_false]; exact HR2.out
              · first | exact below_drewN (hbk.setCell (Nat.le_refl _) _) _ | exact below_drewN (below_drewN (hbk.setCell (Nat.le_refl _) _) _) _
            · have hlt0 : (j + 1) < s.size := by omega
              have hb0 := bt_eq hlt0
              have heq : ((k : Int) == (j : Int) + 1) = false := by simp; omega
              have hi0 : ((j : Int) + 1) < (s.size : Int) := by omega
              by_cases hz : bt s (j + 1) = 48
              · have hz' : ((s[j + 1].toNat : Int) == 48) = true := by rw [← hb0, hz]; rfl
                by_cases hg : j + 1 + 1 < k
                · have HOK : Hid (okNum s (j + 1) k = false) := by simp [Hid, okNum, hz, hg]
                  have hg' : ((j : Int) + 1) + 1 < (k : Int) := by omega
                  have HR2 := hide (HR.out.set2 false)
                  skip
                  clear he hz hb0
                  go_wp2
                  go_quiet (fail)
                  go_wp2
                  go_ret
                  refine ⟨j, k, rfl, HN.out, ?_, ?_, ?_⟩
                  · rw [HD0.out]; exact HK.out
                  · rw [HD0.out, HOK.out, Bool.and_false]; exact HR2.out
                  · first | exact below_drewN (hbk.setCell (Nat.le_refl _) _) _ | exact below_drewN (below_drewN (hbk.setCell (Nat.le_refl _) _) _) _
                · have HOK : Hid (okNum s (j + 1) k = true) := by simp [Hid, okNum, hg, he]
                  have hg' : ¬ ((j : Int) + 1) + 1 < (k : Int) := by omega
                  skip
                  clear he hz hb0
                  go_wp2
                  go_quiet (fail)
                  go_wp2
                  go_ret
                  refine ⟨j, k, rfl, HN.out, ?_, ?_, ?_⟩
                  · rw [HD0.out]; exact HK.out
                  · rw [HD0.out, HOK.out, Bool.and_true]; exact HR.out
                  · first | exact below_drewN hbk _ | exact below_drewN (below_drewN hbk _) _
              · have HOK : Hid (okNum s (j + 1) k = true) := by simp [Hid, okNum, hz, he]
                have hz' : ((s[j + 1].toNat : Int) == 48) = false := by rw [← hb0]; simpa using hz
                skip
                clear he hz hb0
                go_wp2
                go_quiet (fail)
                go_wp2
                go_ret
                refine ⟨j, k, rfl, HN.out, ?_, ?_, ?_⟩
                · rw [HD0.out]; exact HK.out
                · rw [HD0.out, HOK.out, Bool.and_true]; exact HR.out
                · first | exact below_drewN hbk _ | exact below_drewN (below_drewN hbk _) _
          · have hdg' := dgAt_true hdg
            go_wp2
            go_roundg (s.size - (k + 1))
            case measure => have := HG.out; omega
            case rel =>
              refine ⟨k + 1, rfl, by omega, by omega, ?_, ?_, all_step HA.out hdg'.2⟩
              · rw [show ((k + 1 : Nat) : Int) = (k : Int) + 1 by omega]
                exact (HR.out.set1 _).drewN _
              · exact below_drewN (hbk.setCell (Nat.le_refl _) _) _
end Go.Proofs.Qxb6601645a.Base
