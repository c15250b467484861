import Derived.Test.Qxb6002606aPmsiLeaf
import Derived.Deep.RegionHeld3
import Derived.WalkSpells
import Derived.StillTactics
namespace Go.Proofs.Qxb6002606a.Base
open Go.RowKit
attribute [local go_sem] run_eql_slice_nil
/-- a source below B stays a source -/
theorem src_below {w w' : World} {ao : Option Addr} {m c : Nat} {zs : List Int} (h : Src w ao m c zs) (hb : Below w.heap.size w w') : Src w' ao m c zs := by
  obtain ⟨h1, h2⟩ := h
  refine ⟨h1, ?_⟩
  rcases h2 with h2 | ⟨ad, h2, h3⟩
  · exact Or.inl h2
  · exact Or.inr ⟨ad, h2, fun j u hu => by
      have := h3 j u hu
      rw [← this]
      exact hb.cell (cell_lt this)⟩

set_option maxRecDepth 100000 in
set_option maxHeartbeats 1600000 in
theorem pappend_any (bp : Nat) (f t l : Int) (ao : Option Addr) (m c : Nat) (zs : List Int) (w : World) (h0 : 0 ≤ l) (h1 : l ≤ 16777215) (hm : m ≤ 1048576)
    (c0 : w.cell? ⟨bp, 0, none⟩ = some (.int .u8 f)) (c1 : w.cell? ⟨bp, 1, none⟩ = some (.int .u8 t)) (c2 : w.cell? ⟨bp, 2, none⟩ = some (.int .u32 l)) (c3 : w.cell? ⟨bp, 3, none⟩ = some (.slice ao m c))
    (hs : Src w ao m c zs) :
    Calls Try.prog 26 #[.pointer (some ⟨bp, 0, none⟩), .slice none 0 0] w fun e w' => ∃ g cap', e = .returned (.slice (some ⟨g, 0, none⟩) (5 + m) cap') ∧
      w'.ownsRow w.heap.size 5 1 (.slice (some ⟨g, 0, none⟩) (5 + m) cap') (5 + m) (([f, t, l / 65536, l / 256 % 256, l % 256] ++ zs).map (Value.int .u8)) ∧ Below w.heap.size w w' := by
  obtain ⟨i0, hi, hz0, hz1, hz2⟩ := info_parts info5
  have hbp := cell_lt c0
  have hbp : bp < w.heap.size := hbp
  have HS : Hid (Src w ao m c zs) := hs
  clear hs
  go_enter Try.func26, Try.ntmps26
  go_wp2_with fail
  go_region_held3 (fun w' => w'.cell? ⟨bp, 0, none⟩ = some (.int .u8 f) ∧ w'.cell? ⟨bp, 1, none⟩ = some (.int .u8 t))
    (first
      | go_keep
      | (go_split_ands
         refine ⟨?_, ?_⟩
         · (rw [hgrow1.cell_far _ (by simp; omega) (by simp [Value.ownBlock])]; assumption)
         · (rw [hgrow1.cell_far _ (by simp; omega) (by simp [Value.ownBlock])]; assumption)))
    ((refine step_append_lies _ (by rfl) _ _ _ (by rfl) w.heap.size 5 i0 (.int .u8 0) 1 1 Try.underlying26 hi hz0 hz1 hz2 rfl (by omega) (.slice none 0 0) 0 [] (by rfl) (World.ownsRow_nil _ _ _ _)
        ⟨w.heap.size, 0, none⟩ 2 2 [.int .u8 f, .int .u8 t] (by rfl) (by rfl) (World.news_of_block (cs := #[.int .u8 f, .int .u8 t]) (t := 5) (fr := (0, 0)) (heap_alloc_new w _)) (by simp [Value.oneCell'])
        (by omega) (by unfold maxLen; omega) (by omega) (by simp) (w.heap.size + 1) (by simp) ?_; intro g1 cap1 w1 hown1 hgrow1 hat1 hlt1))
  simp only [Nat.zero_add, List.nil_append] at hown1
  have hb1 : Below w.heap.size w w1 := ((Below.refl _ _).alloc (Nat.le_refl _) _).drew.grown hgrow1 (by simp) (fun k hk => by cases hk)
  have d2 : w1.cell? ⟨bp, 2, none⟩ = some (.int .u32 l) := (hb1.cell (by exact hbp)).trans c2
  have d3 : w1.cell? ⟨bp, 3, none⟩ = some (.slice ao m c) := (hb1.cell (by exact hbp)).trans c3
  have hown1' : w1.ownsRow w.heap.size 5 1 (.slice (some ⟨g1, 0, none⟩) 2 cap1) 2 ([f, t].map (Value.int .u8)) := hown1
  have hsz1 : w.heap.size ≤ w1.heap.size := hb1.size
  clear hown1 hgrow1 hat1 c0 c1 c2 c3
  go_wp2_with fail
  go_region_held3 (fun w' => w'.cell? ⟨bp, 2, none⟩ = some (.int .u32 l) ∧ w'.cell? ⟨bp, 3, none⟩ = some (.slice ao m c))
    (first
      | go_keep
      | (go_split_ands
         refine ⟨?_, ?_⟩
         · (rw [hb2.cell (by exact hbp)]; assumption)
         · (rw [hb2.cell (by exact hbp)]; assumption))
      | (go_split_ands
         refine ⟨?_, ?_⟩
         · (rw [hb3.cell (by exact hbp)]; assumption)
         · (rw [hb3.cell (by exact hbp)]; assumption)))
    (first
      | (go_at_call 29; have X := labelAppend_any w.heap.size g1 2 cap1 l [f, t] w1.drew h0 h1 (by omega) hsz1 hown1'.drew; refine X.mono ?_; clear X; rintro e w2 ⟨g2, cap2, rfl, hown2, hb2⟩; have hsz2 := hb2.size)
      | (refine step_append_src _ (by rfl) _ _ (by rfl) w.heap.size 5 cap2 g2 _ (by rfl) hown2 _ m c zs (by rfl) (src_below HS.out (hb1.drew.trans hb2)) (by omega) (by simp at hsz2; omega) ?_; intro g3 cap3 w3 hown3 hgrow3 hlt3; have hb3 := (Below.refl w.heap.size _).grown hgrow3 (by simp at hsz2; omega) (fun k hk => by cases hk; exact (hown2.lt g2 rfl).1)))
  have hbf : Below w.heap.size w w3 := (hb1.drew.trans hb2).trans hb3
  have e5 : [f, t, l / 65536, l / 256 % 256, l % 256] ++ zs = ([f, t] ++ [l / 65536, l / 256 % 256, l % 256]) ++ zs := rfl
  rw [← List.map_append, ← e5] at hown3
  clear hb1 hb2 hb3 hown2 hgrow3 hown1' HS
  go_wp2
  go_ret
  exact ⟨g3, cap3, rfl, hown3, hbf⟩
end Go.Proofs.Qxb6002606a.Base
