/-
  THE READER IN MEMORY; Reader.space, Reader.number, ZZB1Number.
-/
import Derived.Test.Qxb6601645aBase
namespace Go.Proofs.Qxb6601645a.Base
open Go.RowKit

/-- the Reader of block bp -/
def Rdr (w : World) (bp : Nat) (s : ByteArray) (i : Int) (ok : Bool) (d : Int) : Prop :=
  w.heap[bp]? = some (.cells #[.string s, .int .i64 i, .bool ok, .int .i64 d] 35 (0, 0))

theorem Rdr.cells {w : World} {bp : Nat} {s : ByteArray} {i : Int} {ok : Bool} {d : Int} (h : Rdr w bp s i ok d) :
    w.cell? ⟨bp, 0, none⟩ = some (.string s) ∧ w.cell? ⟨bp, 1, none⟩ = some (.int .i64 i) ∧ w.cell? ⟨bp, 2, none⟩ = some (.bool ok) ∧ w.cell? ⟨bp, 3, none⟩ = some (.int .i64 d) ∧ ∀ o, w.frozen? ⟨bp, o, none⟩ = false := by
  unfold Rdr at h
  simp [World.cell?, World.frozen?, h]

theorem Rdr.drewN {w : World} {bp : Nat} {s : ByteArray} {i : Int} {ok : Bool} {d : Int} (h : Rdr w bp s i ok d) (n : Nat) : Rdr (w.drewN n) bp s i ok d := h

theorem Rdr.set1 {w : World} {bp : Nat} {s : ByteArray} {i : Int} {ok : Bool} {d : Int} (h : Rdr w bp s i ok d) (k : Int) :
    Rdr (w.setCell ⟨bp, 1, none⟩ (.int .i64 k)) bp s k ok d := by
  unfold Rdr at h ⊢
  rw [heap_setCell_same w bp 1 _ 35 _ h]
  rfl
theorem Rdr.set2 {w : World} {bp : Nat} {s : ByteArray} {i : Int} {ok : Bool} {d : Int} (h : Rdr w bp s i ok d) (k : Bool) :
    Rdr (w.setCell ⟨bp, 2, none⟩ (.bool k)) bp s i k d := by
  unfold Rdr at h ⊢
  rw [heap_setCell_same w bp 2 _ 35 _ h]
  rfl

/-- the number in cell 1 of block bp -/
def atI (bp : Nat) (w : World) : Nat := match w.cell? ⟨bp, 1, none⟩ with | some v => (intOf v).toNat | none => 0
theorem Rdr.atI {w : World} {bp : Nat} {s : ByteArray} {i : Int} {ok : Bool} {d : Int} (h : Rdr w bp s i ok d) : atI bp w = i.toNat := by
  simp [Base.atI, h.cells.2.1, intOf]

theorem below_drewN {B : Nat} {a w : World} (h : Below B a w) (n : Nat) : Below B a (w.drewN n) := ⟨h.os, h.tape, h.output, h.size, h.block⟩

set_option maxHeartbeats 1600000 in
theorem rspace_any (bp : Nat) (s : ByteArray) (i : Nat) (ok : Bool) (d : Int) (w : World) (hs : s.size ≤ 1048576) (hi : i ≤ s.size) (hr : Rdr w bp s i ok d) :
    Calls Try.prog 29 #[.pointer (some ⟨bp, 0, none⟩)] w fun e w' => ∃ j : Nat, e = .returned (.tuple #[]) ∧ Run (fun t => isSp (bt s t)) i s.size j ∧ Rdr w' bp s j ok d ∧ Below bp w w' := by
  go_enter Try.func29, Try.ntmps29
  go_wp2
  go_loopw [20] (fun _ wr => ∃ k : Nat, k ≤ s.size ∧ i ≤ k ∧ Rdr wr bp s k ok d ∧ Below bp w wr ∧ ∀ t, i ≤ t → t < k → isSp (bt s t) = true) (fun _ wr => s.size - atI bp wr)
  case atStart => exact ⟨i, hi, Nat.le_refl _, hr, Below.refl _ _, fun t h1 h2 => by omega⟩
  case round =>
    obtain ⟨k, hk, hik, hrd, hbl, hall⟩ := hrel
    obtain ⟨c0, c1, c2, c3, cf⟩ := hrd.cells
    have f1 := cf 1
    have HA := hide hall
    have HR := hide hrd
    clear hall hrd cf hr c2 c3
    by_cases hlt : k < s.size
    · have hlt' : (k : Int) < (s.size : Int) := by omega
      have hd : decide ((k : Int) < (s.size : Int)) = true := by simpa using hlt
      have hk0 : (0 : Int) ≤ (k : Int) := by omega
      have hb := bt_eq hlt
      go_wp2
      go_quiet (fail)
      go_wp2
      go_quiet (fail)
      go_wp2
      all_goals first
        | (go_roundw
           case rel =>
             refine ⟨k + 1, by omega, by omega, ?_, ?_, all_step HA.out ?_⟩
             · rw [show ((k + 1 : Nat) : Int) = (k : Int) + 1 by omega]
               first | exact (HR.out.set1 _).drewN _ | exact (HR.out.drewN _).set1 _ | exact HR.out.set1 _
             · first | exact below_drewN (hbl.setCell (Nat.le_refl _) _) _ | exact (below_drewN hbl _).setCell (Nat.le_refl _) _
             · rw [hb]; simp [isSp]; simp at *; omega
           case measure =>
             first | (rw [((HR.out.set1 ((k : Int) + 1)).drewN _).atI, HR.out.atI]; omega) | (rw [((HR.out.drewN _).set1 ((k : Int) + 1)).atI, HR.out.atI]; omega))
        | (refine bodyPost_ret (results_none rfl _ _ _) rfl ?_
           refine ⟨k, rfl, ⟨hik, hk, HA.out, fun _ => ?_⟩, HR.out.drewN _, below_drewN hbl _⟩
           show isSp (bt s k) = false
           rw [hb]; simp [isSp]; simp at *; omega)
    · have HN : Hid (Run (fun t => isSp (bt s t)) i s.size k) := ⟨hik, hk, HA.out, fun h => absurd h hlt⟩
      have hd : decide ((k : Int) < (s.size : Int)) = false := by simpa using hlt
      go_wp2
      go_quiet (fail)
      go_wp2
      go_end0
      exact ⟨k, rfl, HN.out, HR.out.drewN _, below_drewN hbl _⟩
end Go.Proofs.Qxb6601645a.Base
