/-
  THE LEAVES OF THE PMSI LAWS: zzG2EqualBytes, label, bytes.Clone, Label.append.
-/
import Derived.Test.Qxb6002606aAppend
import Derived.Deep.QuietTactic
import Derived.BigQuiet
namespace Go.Proofs.Qxb6002606a.Base
open Go.RowKit
attribute [local go_sem] run_eql_slice_nil

theorem below_drewN {B : Nat} {a w : World} (h : Below B a w) (n : Nat) : Below B a (w.drewN n) := ⟨h.os, h.tape, h.output, h.size, h.block⟩

theorem or_label (x y z : Int) (hx0 : 0 ≤ x) (hx1 : x ≤ 255) (hy0 : 0 ≤ y) (hy1 : y ≤ 255) (hz0 : 0 ≤ z) (hz1 : z ≤ 255) :
    bits .or .u32 (bits .or .u32 (x * 65536) (y * 256)) z = x * 65536 + y * 256 + z := by
  obtain ⟨a, rfl⟩ := Int.eq_ofNat_of_zero_le hx0
  obtain ⟨b, rfl⟩ := Int.eq_ofNat_of_zero_le hy0
  obtain ⟨c, rfl⟩ := Int.eq_ofNat_of_zero_le hz0
  have e1 : bits .or .u32 ((a : Int) * 65536) ((b : Int) * 256) = ((2 ^ 16 * a + b * 256 : Nat) : Int) := by
    rw [show ((a : Int) * 65536) = ((2 ^ 16 * a : Nat) : Int) by omega, show ((b : Int) * 256) = ((b * 256 : Nat) : Int) by omega]
    rw [u32_or_nat _ _ (by omega) (by omega), ← Nat.two_pow_add_eq_or_of_lt (by omega)]
  have e2 : bits .or .u32 ((2 ^ 16 * a + b * 256 : Nat) : Int) (c : Int) = ((2 ^ 8 * (a * 256 + b) + c : Nat) : Int) := by
    rw [show 2 ^ 16 * a + b * 256 = 2 ^ 8 * (a * 256 + b) by omega]
    rw [u32_or_nat _ _ (by omega) (by omega), ← Nat.two_pow_add_eq_or_of_lt (by omega)]
  show bits .or .u32 (bits .or .u32 ((a : Int) * 65536) ((b : Int) * 256)) (c : Int) = (a : Int) * 65536 + (b : Int) * 256 + (c : Int)
  rw [e1, e2]
  omega

set_option maxHeartbeats 400000 in
theorem label_any (b off len cap : Nat) (x y z : Int) (w : World) (h3 : 3 ≤ len) (hl : len ≤ 2097152)
    (hx0 : 0 ≤ x) (hx1 : x ≤ 255) (hy0 : 0 ≤ y) (hy1 : y ≤ 255) (hz0 : 0 ≤ z) (hz1 : z ≤ 255)
    (c0 : w.cell? ⟨b, off, none⟩ = some (.int .u8 x)) (c1 : w.cell? ⟨b, off + 1, none⟩ = some (.int .u8 y)) (c2 : w.cell? ⟨b, off + 2, none⟩ = some (.int .u8 z)) :
    Calls Try.prog 27 #[.slice (some ⟨b, off, none⟩) len cap] w fun e w' => e = .returned (.int .u32 (x * 65536 + y * 256 + z)) ∧ ∃ n, w' = w.drewN n := by
  have i0 : (0 : Int) < (len : Int) := by omega
  have i1 : (1 : Int) < (len : Int) := by omega
  have i2 : (2 : Int) < (len : Int) := by omega
  go_enter Try.func27, Try.ntmps27
  go_wp2
  go_quiet (fail)
  go_wp2
  go_ret
  exact ⟨by rw [← or_label x y z hx0 hx1 hy0 hy1 hz0 hz1]; rfl, _, rfl⟩

set_option maxHeartbeats 400000 in
theorem labelAppend_any (B g0 n cap : Nat) (l : Int) (xs : List Int) (w : World) (h0 : 0 ≤ l) (h1 : l ≤ 16777215) (hn : n ≤ 1048576) (hB : B ≤ w.heap.size)
    (hown : w.ownsRow B 5 1 (.slice (some ⟨g0, 0, none⟩) n cap) n (xs.map (Value.int .u8))) :
    Calls Try.prog 29 #[.int .u32 l, .slice (some ⟨g0, 0, none⟩) n cap] w fun e w' => ∃ g cap', e = .returned (.slice (some ⟨g, 0, none⟩) (n + 3) cap') ∧
      w'.ownsRow B 5 1 (.slice (some ⟨g, 0, none⟩) (n + 3) cap') (n + 3) ((xs ++ [l / 65536, l / 256 % 256, l % 256]).map (Value.int .u8)) ∧ Below B w w' := by
  have hg0 := (hown.lt g0 rfl).1
  go_enter Try.func29, Try.ntmps29
  go_wp2_with (at_builtin; refine wpList_append_src _ rfl _ _ rfl B n cap g0 _ rfl (hown.alloc _) _ 3 3 [l / 65536, l / 256 % 256, l % 256] rfl ⟨rfl, Or.inr ⟨_, rfl, World.news_of_block (cs := #[.int .u8 (l / 65536), .int .u8 (l / 256 % 256), .int .u8 (l % 256)]) (t := 5) (fr := (0, 0)) (heap_alloc_new w _)⟩⟩ (by omega) (by simp; omega) ?_; intro g cap' w1 hown1 hgrow1 hlt1)
  go_ret
  refine ⟨g, cap', rfl, ?_, ((Below.refl _ _).alloc hB _).grown hgrow1 (by simp; omega) (fun k hk => by cases hk; exact hg0)⟩
  rw [List.map_append]
  exact hown1

set_option maxHeartbeats 400000 in
theorem bclone_any (ad : Addr) (m c : Nat) (zs : List Int) (w : World) (hm : m ≤ 1048576) (hs : Src w (some ad) m c zs) :
    Calls Try.prog 28 #[.slice (some ad) m c] w fun e w' => ∃ g cap', e = .returned (.slice (some ⟨g, 0, none⟩) m cap') ∧
      w'.ownsRow w.heap.size 5 1 (.slice (some ⟨g, 0, none⟩) m cap') m (zs.map (Value.int .u8)) ∧ Below w.heap.size w w' := by
  have hs' : ∀ o, Src (w.alloc o) (some ad) m c zs := by
    intro o
    obtain ⟨h1, h2⟩ := hs
    refine ⟨h1, ?_⟩
    rcases h2 with h2 | ⟨ad, h2, h3⟩
    · exact Or.inl h2
    · exact Or.inr ⟨ad, h2, fun j u hu => by
        have := h3 j u hu
        rw [← this]
        exact ((Below.refl w.heap.size w).alloc (Nat.le_refl _) o).cell (cell_lt this)⟩
  have hown0 : (w.alloc (.cells #[] 5)).ownsRow w.heap.size 5 1 (.slice (some ⟨w.heap.size, 0, none⟩) 0 0) 0 [] := World.ownsRow_lit w #[] 0 (Nat.le_refl _) (by unfold maxLen; omega) rfl
  have HS : Hid (∀ o, Src (w.alloc o) (some ad) m c zs) := hs'
  clear hs hs'
  go_enter Try.func28, Try.ntmps28
  go_wp2_with (at_builtin; refine wpList_append_src _ rfl _ _ rfl w.heap.size 0 0 w.heap.size _ rfl hown0 _ m c zs rfl (HS.out _) (by omega) (by simp) ?_; intro g cap' w1 hown1 hgrow1 hlt1)
  go_ret
  refine ⟨g, cap', ?_, ?_, ((Below.refl _ _).alloc (Nat.le_refl _) _).grown hgrow1 (by simp) (fun k hk => by cases hk; exact Nat.le_refl _)⟩
  · simp
  · simpa using hown1

/-- two slices that read alike -/
theorem equal_any (a1 a2 : Option Addr) (n c1 c2 : Nat) (zs : List Int) (w : World) (hn : n ≤ 2097152) (hz : zs.length = n)
    (h1 : n = 0 ∨ ∃ b off, a1 = some ⟨b, off, none⟩ ∧ ∀ i, i < n → w.cell? ⟨b, off + i, none⟩ = some (.int .u8 (zs.getD i 0)))
    (h2 : n = 0 ∨ ∃ b off, a2 = some ⟨b, off, none⟩ ∧ ∀ i, i < n → w.cell? ⟨b, off + i, none⟩ = some (.int .u8 (zs.getD i 0))) :
    Calls Try.prog 19 #[.slice a1 n c1, .slice a2 n c2] w fun e w' => e = .returned (.bool true) ∧ ∃ k, w' = w.drewN k := by
  go_enter Try.func19, Try.ntmps19
  go_wp2
  go_loopw [5] (fun i wr => ∃ k : Nat, k ≤ n ∧ i = .int .i64 k ∧ ∃ d, wr = w.drewN d) (fun i _ => n - (intOf i).toNat)
  case atStart => exact ⟨0, Nat.zero_le _, rfl, 0, rfl⟩
  case round =>
    obtain ⟨k, hk, rfl, d, rfl⟩ := hrel
    by_cases hlt : k < n
    · rcases h1 with h1 | ⟨b1, o1, rfl, h1⟩
      · omega
      rcases h2 with h2 | ⟨b2, o2, rfl, h2⟩
      · omega
      have g1 := h1 k hlt
      have g2 := h2 k hlt
      obtain ⟨c, hcc⟩ : ∃ c, c = zs.getD k 0 := ⟨_, rfl⟩
      rw [← hcc] at g1 g2
      clear h1 h2 hcc
      have hlt' : (k : Int) < (n : Int) := by omega
      have hk0 : (0 : Int) ≤ (k : Int) := by omega
      go_wp2
      go_quiet (fail)
      go_wp2
      go_roundw
      case rel => exact ⟨k + 1, by omega, by go_num, _, rfl⟩
      case measure => simp [intOf]; omega
    · go_wp2
      go_ret
      exact ⟨rfl, _, rfl⟩
end Go.Proofs.Qxb6002606a.Base
