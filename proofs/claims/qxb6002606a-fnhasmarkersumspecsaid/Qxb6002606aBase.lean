/-
  SHARED BY THIS SEAT's LAWS: rows of bytes in memory, and the contract of zzG2CloneBytes.
-/
import Derived.Test.Qxb6002606aRows
import Derived.WalkKit
import Derived.ProofKit
import Derived.OpenShut
import Derived.ShutString
import Derived.ChangeOld
import Derived.Below
import Derived.Laws.Cover3
namespace Go.Proofs.Qxb6002606a.Base
open Go.RowKit

theorem info5 : (Try.prog.info? 5).map (fun i => (i.zero, i.size, i.bytes)) = some (some (.int .u8 0), 1, 1) := by kernel_rfl

theorem cell_lt {w : World} {a : Addr} {v : Value} (h : w.cell? a = some v) : a.block < w.heap.size := by
  unfold World.cell? at h
  by_cases hb : a.block < w.heap.size
  · exact hb
  · rw [Array.getElem?_eq_none (by omega)] at h
    simp at h

/-- what is owned below B is owned behind whatever turns nothing below B -/
theorem own_below {w w' : World} {base g n cap e size B : Nat} {xs : List Value} (h : w.ownsRow base e size (.slice (some ⟨g, 0, none⟩) n cap) n xs) (hb : Below B w w') (hg : g < B) :
    w'.ownsRow base e size (.slice (some ⟨g, 0, none⟩) n cap) n xs := by
  obtain ⟨h1, h2⟩ := h
  refine ⟨h1, ?_⟩
  rcases h2 with h2 | ⟨g', cap', cur, hv, hg', hh, r⟩
  · exact Or.inl h2
  · refine Or.inr ⟨g', cap', cur, hv, hg', ?_, r⟩
    simp only [Value.slice.injEq, Option.some.injEq, Addr.mk.injEq, and_true, true_and] at hv
    obtain ⟨rfl, rfl⟩ := hv
    rw [hb.block g hg]; exact hh

/-- the cells of an owned row of bytes -/
theorem own_cell {w : World} {base g n cap : Nat} {zs : List Int} (h : w.ownsRow base 5 1 (.slice (some ⟨g, 0, none⟩) n cap) n (zs.map (Value.int .u8))) (j : Nat) (hj : j < n) :
    w.cell? ⟨g, j, none⟩ = some (.int .u8 (zs.getD j 0)) := by
  have hl : zs.length = n := by simpa using h.1
  rw [h.cellAt j (by omega), List.getElem?_map, List.getElem?_eq_getElem (by omega)]
  simp [List.getElem?_eq_getElem (show j < zs.length by omega)]

theorem own_lt {w : World} {base g n cap e size : Nat} {xs : List Value} (h : w.ownsRow base e size (.slice (some ⟨g, 0, none⟩) n cap) n xs) : g < w.heap.size :=
  (h.lt g rfl).2

/-- octets stay octets in a part of the row -/
theorem take_bd {zs : List Int} (n : Nat) (h : ∀ j : Nat, 0 ≤ zs[j]?.getD 0 ∧ zs[j]?.getD 0 ≤ 255) (j : Nat) : 0 ≤ (zs.take n).getD j 0 ∧ (zs.take n).getD j 0 ≤ 255 := by
  rw [List.getD_eq_getElem?_getD, List.getElem?_take]
  split
  · exact h j
  · exact ⟨by decide, by decide⟩

/-- the half-copied row -/
def half (zs : List Int) (k : Nat) : List Int := zs.take k ++ List.replicate (zs.length - k) 0
theorem half_zero (zs : List Int) : half zs 0 = List.replicate zs.length 0 := by simp [half]
theorem half_all (zs : List Int) : half zs zs.length = zs := by simp [half]
theorem half_length (zs : List Int) (k : Nat) (h : k ≤ zs.length) : (half zs k).length = zs.length := by simp [half]; omega
theorem half_succ (zs : List Int) (k : Nat) (h : k < zs.length) : (half zs k).set k (zs.getD k 0) = half zs (k + 1) := by
  apply List.ext_getElem?
  intro j
  rw [List.getElem?_set]
  by_cases hj : k = j
  · subst hj
    rw [if_pos rfl, if_pos (by rw [half_length _ _ (by omega)]; exact h)]
    unfold half
    rw [List.getElem?_append_left (by simp; omega), List.getElem?_take, if_pos (by omega)]
    simp [h]
  · rw [if_neg hj]
    unfold half
    by_cases hlt : j < k
    · rw [List.getElem?_append_left (by simp; omega), List.getElem?_append_left (by simp; omega)]
      simp [hlt, show j < k + 1 by omega]
    · rw [List.getElem?_append_right (by simp; omega), List.getElem?_append_right (by simp; omega)]
      simp only [List.length_take, List.getElem?_replicate]
      congr 1
      rw [eq_iff_iff]
      omega

theorem start_own {w : World} {base g n : Nat} {zs : List Int} (hz : zs.length = n) (h : w.ownsRow base 5 1 (.slice (some ⟨g, 0, none⟩) n n) n (madeCells #[Value.int .u8 0] n).toList) :
    w.ownsRow base 5 1 (.slice (some ⟨g, 0, none⟩) n n) n ((half zs 0).map (Value.int .u8)) := by
  rw [half_zero, hz, List.map_replicate]
  rwa [toList_madeCells_one] at h

theorem step_own {w : World} {base g n : Nat} {zs : List Int} {k : Nat} (hz : zs.length = n) (hk : k < n) (h : w.ownsRow base 5 1 (.slice (some ⟨g, 0, none⟩) n n) n ((half zs k).map (Value.int .u8))) :
    (w.setCell ⟨g, k, none⟩ (.int .u8 (zs.getD k 0))).ownsRow base 5 1 (.slice (some ⟨g, 0, none⟩) n n) n ((half zs (k + 1)).map (Value.int .u8)) := by
  have := (h.stored k (.int .u8 (zs.getD k 0))).1
  rwa [← half_succ zs k (by omega), List.map_set]

/-- 's == nil' of a []byte -/
theorem run_eql_slice_nil (w : World) (a : Option Addr) (l c : Nat) : (binOp .eql 26 (.slice a l c) (.slice none 0 0)).run Try.prog w = .ok (.bool a.isNone) w := by
  simp only [binOp]
  simp [run_equal_slice_nil w 26 5 a l c Try.underlying26]
attribute [local go_sem] run_eql_slice_nil

set_option maxHeartbeats 400000 in
theorem clone_nil (w : World) :
    Calls Try.prog 11 #[.slice none 0 0] w fun e w' => e = .returned (.slice none 0 0) ∧ w' = w := by
  go_enter Try.func11, Try.ntmps11
  go_wp2
  go_ret
  exact ⟨rfl, rfl⟩

set_option maxHeartbeats 800000 in
theorem clone_some (b off len cap : Nat) (zs : List Int) (w : World) (hz : zs.length = len) (hl : len ≤ 1048576)
    (hc : ∀ i, i < len → w.cell? ⟨b, off + i, none⟩ = some (.int .u8 (zs.getD i 0))) :
    Calls Try.prog 11 #[.slice (some ⟨b, off, none⟩) len cap] w fun e w' => e = .returned (.slice (some ⟨w.heap.size, 0, none⟩) len len) ∧
      w'.ownsRow w.heap.size 5 1 (.slice (some ⟨w.heap.size, 0, none⟩) len len) len (zs.map (Value.int .u8)) ∧ Below w.heap.size w w' := by
  obtain ⟨i0, hi, hz0, hz1, hz2⟩ := info_parts info5
  go_enter Try.func11, Try.ntmps11
  go_wp2_with (at_make; refine wpList_make_full _ rfl _ _ 26 rfl w.heap.size 5 i0 (.int .u8 0) 1 Try.underlying26 hi hz0 hz1 _ _ _ _ len rfl rfl (by omega) (by omega) ?b2 ?b3 (Nat.le_refl _) ?_)
  case b2 => rw [hz2]; omega
  case b3 => unfold maxLen; omega
  intro w0 hown0 hgrow0
  go_wp2
  go_loopw [4] (fun i wr => ∃ k : Nat, k ≤ len ∧ i = .int .i64 k ∧ wr.ownsRow w.heap.size 5 1 (.slice (some ⟨w.heap.size, 0, none⟩) len len) len ((half zs k).map (Value.int .u8)) ∧ Below w.heap.size w wr)
    (fun i _ => len - (intOf i).toNat)
  case atStart => exact ⟨0, Nat.zero_le _, rfl, start_own hz hown0, (Below.refl _ _).grown hgrow0 (Nat.le_refl _) (fun k h => by cases h)⟩
  case round =>
    obtain ⟨k, hk, rfl, hown, hnx⟩ := hrel
    by_cases hlt : k < len
    · have hbl := cell_lt (hc k hlt)
      have g1 : wr.cell? ⟨b, off + k, none⟩ = some (.int .u8 (zs.getD k 0)) := (hnx.cell (by exact hbl)).trans (hc k hlt)
      have g2 : wr.frozen? ⟨w.heap.size, k, none⟩ = false := hown.frozenAt k
      have g3 : wr.cell? ⟨w.heap.size, k, none⟩ = some (.int .u8 ((half zs k).getD k 0)) := own_cell hown k hlt
      have hown' := step_own hz hlt hown
      go_wp2
      go_roundw
      case rel => exact ⟨k + 1, by omega, by go_num, by simpa [show k < zs.length by omega] using hown', hnx.setCell (Nat.le_refl _) _⟩
      case measure => simp [intOf]; omega
    · go_wp2
      have hkl : k = len := by omega
      subst hkl
      go_ret
      refine ⟨rfl, ?_, hnx⟩
      rw [← hz, half_all] at hown
      rw [← hz]; exact hown

set_option maxHeartbeats 800000 in
theorem clone_empty (x : Addr) (cap : Nat) (w : World) :
    Calls Try.prog 11 #[.slice (some x) 0 cap] w fun e w' => e = .returned (.slice (some ⟨w.heap.size, 0, none⟩) 0 0) ∧
      w'.ownsRow w.heap.size 5 1 (.slice (some ⟨w.heap.size, 0, none⟩) 0 0) 0 [] ∧ Below w.heap.size w w' := by
  obtain ⟨i0, hi, hz0, hz1, hz2⟩ := info_parts info5
  go_enter Try.func11, Try.ntmps11
  go_wp2_with (at_make; refine wpList_make_full _ rfl _ _ 26 rfl w.heap.size 5 i0 (.int .u8 0) 1 Try.underlying26 hi hz0 hz1 _ _ _ _ 0 rfl rfl (by omega) (by omega) ?b2 ?b3 (Nat.le_refl _) ?_)
  case b2 => omega
  case b3 => unfold maxLen; omega
  intro w0 hown0 hgrow0
  go_wp2
  refine wp_loop_rounds 1 ?_
  rw [rounds_succ]
  go_wp2
  go_ret
  exact ⟨rfl, start_own (zs := []) rfl hown0, (Below.refl _ _).grown hgrow0 (Nat.le_refl _) (fun k h => by cases h)⟩

/-- a []byte that can be read: nil, empty, or a row of octets -/
def Rdb (w : World) (a : Option Addr) (len cap : Nat) (zs : List Int) : Prop :=
  (a = none ∧ len = 0 ∧ cap = 0) ∨ (len = 0 ∧ ∃ x, a = some x) ∨ ∃ b off, a = some ⟨b, off, none⟩ ∧ ∀ i, i < len → w.cell? ⟨b, off + i, none⟩ = some (.int .u8 (zs.getD i 0))

theorem clone_any (a : Option Addr) (len cap : Nat) (zs : List Int) (w : World) (hz : zs.length = len) (hl : len ≤ 1048576) (hr : Rdb w a len cap zs) :
    Calls Try.prog 11 #[.slice a len cap] w fun e w' => ∃ a', e = .returned (.slice a' len len) ∧ Below w.heap.size w w' ∧
      (len = 0 ∨ a' = some ⟨w.heap.size, 0, none⟩ ∧ w'.ownsRow w.heap.size 5 1 (.slice (some ⟨w.heap.size, 0, none⟩) len len) len (zs.map (Value.int .u8))) := by
  rcases hr with ⟨rfl, rfl, rfl⟩ | ⟨rfl, x, rfl⟩ | ⟨b, off, rfl, hc⟩
  · refine (clone_nil w).mono ?_
    rintro e w' ⟨rfl, rfl⟩
    exact ⟨none, rfl, Below.refl _ _, Or.inl rfl⟩
  · refine (clone_empty x cap w).mono ?_
    rintro e w' ⟨rfl, h, hb⟩
    exact ⟨_, rfl, hb, Or.inl rfl⟩
  · refine (clone_some b off len cap zs w hz hl hc).mono ?_
    rintro e w' ⟨rfl, h, hb⟩
    exact ⟨_, rfl, hb, Or.inr ⟨rfl, h⟩⟩
end Go.Proofs.Qxb6002606a.Base
