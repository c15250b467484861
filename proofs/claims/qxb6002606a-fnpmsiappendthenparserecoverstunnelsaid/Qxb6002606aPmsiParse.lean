/-
  THE CONTRACT OF parsePMSITunnel, AND OF THE TWO EXPORTS.
-/
import Derived.Test.Qxb6002606aPmsiAppend
namespace Go.Proofs.Qxb6002606a.Base
open Go.RowKit
theorem after_clone {w w2 : World} {ba d : Nat} {v4 : Value} (ca : w.cell? ⟨ba, 4, none⟩ = some v4) (fa : w.frozen? ⟨ba, 4, none⟩ = false) (hb2 : Below (w.drewN (1 + d)).heap.size (w.drewN (1 + d)) w2) :
    w.heap.size ≤ w2.heap.size ∧ w2.cell? ⟨ba, 4, none⟩ = some v4 ∧ w2.frozen? ⟨ba, 4, none⟩ = false ∧ ba < w2.heap.size ∧ ¬ w2.heap.size = ba := by
  have hba : ba < w.heap.size := cell_lt ca
  have h : w.heap.size ≤ w2.heap.size := hb2.size
  exact ⟨h, (hb2.cell (by exact hba)).trans ca, (hb2.frozen (by exact hba)).trans fa, by omega, by omega⟩

theorem kept_sa {w2 : World} {ba : Nat} {p : Value} {o : Obj} {a : Addr} (h1 : a.block ≠ ba) (h2 : a.block < w2.heap.size) : ((w2.setCell ⟨ba, 4, none⟩ p).alloc o).cell? a = w2.cell? a := by
  refine (World.cell?_of_block ?_).trans (World.cell?_of_block ?_ (w := w2) (w' := w2.setCell ⟨ba, 4, none⟩ p))
  · exact Below.heap_alloc _ _ _ (by simpa [World.setCell] using h2)
  · exact Below.heap_setCell _ _ _ _ h1

/-- what parsePMSITunnel leaves: field 2 of the attributes (cell 4 of block ba) leads to a new PMSITunnel; nothing else that was there has turned -/
def Parsed (w w' : World) (ba : Nat) (x0 x1 lab : Int) (m : Nat) (zs : List Int) : Prop :=
  ∃ q g cap, w.heap.size ≤ q ∧ q < w'.heap.size ∧ w'.cell? ⟨ba, 4, none⟩ = some (.pointer (some ⟨q, 0, none⟩)) ∧
    w'.cell? ⟨q, 0, none⟩ = some (.int .u8 x0) ∧ w'.cell? ⟨q, 1, none⟩ = some (.int .u8 x1) ∧ w'.cell? ⟨q, 2, none⟩ = some (.int .u32 lab) ∧ w'.cell? ⟨q, 3, none⟩ = some (.slice (some ⟨g, 0, none⟩) m cap) ∧
    w'.ownsRow w.heap.size 5 1 (.slice (some ⟨g, 0, none⟩) m cap) m (zs.map (Value.int .u8)) ∧ w.grownBy w' (some ba) ∧ w'.heap[q]? = some (.cells #[.int .u8 x0, .int .u8 x1, .int .u32 lab, .slice (some ⟨g, 0, none⟩) m cap] 38 (0, 0))

theorem parsed_mk {w w2 : World} {ba d m g cap : Nat} {v4 : Value} {x0 x1 lab : Int} {zs : List Int} (ca : w.cell? ⟨ba, 4, none⟩ = some v4)
    (hb2 : Below (w.drewN (1 + d)).heap.size (w.drewN (1 + d)) w2) (hown2 : w2.ownsRow (w.drewN (1 + d)).heap.size 5 1 (.slice (some ⟨g, 0, none⟩) m cap) m (zs.map (Value.int .u8))) :
    Parsed w ((w2.setCell ⟨ba, 4, none⟩ (.pointer (some ⟨w2.heap.size, 0, none⟩))).alloc (.cells #[.int .u8 x0, .int .u8 x1, .int .u32 lab, .slice (some ⟨g, 0, none⟩) m cap] 38)) ba x0 x1 lab m zs := by
  have hba : ba < w.heap.size := cell_lt ca
  have hsz : w.heap.size ≤ w2.heap.size := hb2.size
  have hown2' : w2.ownsRow w.heap.size 5 1 (.slice (some ⟨g, 0, none⟩) m cap) m (zs.map (Value.int .u8)) := hown2
  have hg := hown2'.lt g rfl
  have ca2 : w2.cell? ⟨ba, 4, none⟩ = some v4 := (hb2.cell (by exact hba)).trans ca
  have hss : (w2.setCell ⟨ba, 4, none⟩ (.pointer (some ⟨w2.heap.size, 0, none⟩))).heap.size = w2.heap.size := by simp [World.setCell]
  obtain ⟨W, hW⟩ : ∃ W, W = w2.setCell ⟨ba, 4, none⟩ (.pointer (some ⟨w2.heap.size, 0, none⟩)) := ⟨_, rfl⟩
  have hWb : W.cell? ⟨ba, 4, none⟩ = some (.pointer (some ⟨w2.heap.size, 0, none⟩)) := by
    rw [hW]
    exact World.cell?_setCell_same _ _ _ ca2
  have hWs : W.heap.size = w2.heap.size := by rw [hW]; exact hss
  have hWo : W.ownsRow w.heap.size 5 1 (.slice (some ⟨g, 0, none⟩) m cap) m (zs.map (Value.int .u8)) := by
    rw [hW]
    exact ownsRow_setCell_other hown2' (by simp [Value.ownBlock]; omega) _
  have hWg : w.grownBy W (some ba) := by
    rw [hW]
    refine ⟨hb2.os, hb2.tape, hb2.output, ?_, fun k hk hne => ?_⟩
    · rw [hss]; exact hsz
    · rw [Below.heap_setCell _ _ _ _ (by intro e; exact hne (by rw [e]))]
      exact hb2.block k hk
  rw [← hW]
  refine ⟨w2.heap.size, g, cap, hsz, by simp [hWs], ?_, ?_, ?_, ?_, ?_, hWo.alloc _, grown_trans hWg (World.grownBy_alloc _ _ _), by rw [← hWs]; exact heap_alloc_new W _⟩
  · rw [World.cell?_alloc_past _ _ _ (by omega)]; exact hWb
  · rw [← hWs]; simp
  · rw [← hWs]; simp
  · rw [← hWs]; simp
  · rw [← hWs]; simp

set_option maxRecDepth 100000 in
set_option maxHeartbeats 1600000 in
theorem parse_long (ba g len cap : Nat) (zs : List Int) (w : World) (x0 x1 x2 x3 x4 : Int) (v4 : Value) (h5 : 5 ≤ len) (hl : len ≤ 1048581) (hlc : len ≤ cap) (hne : g ≠ ba)
    (hx2 : 0 ≤ x2 ∧ x2 ≤ 255) (hx3 : 0 ≤ x3 ∧ x3 ≤ 255) (hx4 : 0 ≤ x4 ∧ x4 ≤ 255)
    (c0 : w.cell? ⟨g, 0, none⟩ = some (.int .u8 x0)) (c1 : w.cell? ⟨g, 1, none⟩ = some (.int .u8 x1)) (c2 : w.cell? ⟨g, 2, none⟩ = some (.int .u8 x2)) (c3 : w.cell? ⟨g, 3, none⟩ = some (.int .u8 x3)) (c4 : w.cell? ⟨g, 4, none⟩ = some (.int .u8 x4))
    (hs : Src w (some ⟨g, 5, none⟩) (len - 5) (cap - 5) zs)
    (ca : w.cell? ⟨ba, 4, none⟩ = some v4) (fa : w.frozen? ⟨ba, 4, none⟩ = false) (n5 : ¬ cap = 5) :
    Calls Try.prog 25 #[.pointer (some ⟨ba, 0, none⟩), .slice (some ⟨g, 0, none⟩) len cap] w fun e w' => e = .returned (.int .u8 0) ∧ Parsed w w' ba x0 x1 (x2 * 65536 + x3 * 256 + x4) (len - 5) zs := by
  have hg : g < w.heap.size := cell_lt c0
  have hba : ba < w.heap.size := cell_lt ca
  have i0 : (0 : Int) < (len : Int) := by omega
  have j0 : 0 < len := by omega
  have i1 : (1 : Int) < (len : Int) := by omega
  have i2 : (2 : Int) ≤ (len : Int) := by omega
  have i5 : (5 : Int) ≤ (len : Int) := by omega
  have ic : (len : Int) ≤ (cap : Int) := by omega
  have n2 : ¬ cap = 2 := by omega
  have HS : Hid (Src w (some ⟨g, 5, none⟩) (len - 5) (cap - 5) zs) := hs
  clear hs
  go_enter Try.func25, Try.ntmps25
  go_wp2_with fail
  go_region_held3 (fun w' => w'.cell? ⟨g, 0, none⟩ = some (.int .u8 x0) ∧ w'.cell? ⟨g, 1, none⟩ = some (.int .u8 x1))
    (first
      | go_keep
      | (go_split_ands
         refine ⟨?_, ?_⟩
         · (rw [hb2.cell (by exact hg)]; assumption)
         · (rw [hb2.cell (by exact hg)]; assumption))
      | (go_split_ands
         refine ⟨?_, ?_⟩
         · (rw [kept_sa (by exact hne) (by exact hg2)]; assumption)
         · (rw [kept_sa (by exact hne) (by exact hg2)]; assumption)))
    (first
      | (go_at_call 27; have X := label_any g 2 (len - 2) (cap - 2) x2 x3 x4 w.drew (by omega) (by omega) hx2.1 hx2.2 hx3.1 hx3.2 hx4.1 hx4.2 c2 c3 c4; refine X.mono ?_; clear X; rintro e w1 ⟨rfl, d, rfl⟩)
      | (go_at_call 28; have X := bclone_any ⟨g, 5, none⟩ (len - 5) (cap - 5) zs (w.drewN (1 + d)) (by omega) (src_below HS.out (below_drewN (Below.refl _ _) (1 + d))); refine X.mono ?_; clear X; rintro e w2 ⟨g2, cap2, rfl, hown2, hb2⟩; obtain ⟨hz2, ca2, fa2, hba2, ne2⟩ := after_clone ca fa hb2; have hg2 := Nat.lt_of_lt_of_le hg hz2; have d0 := (hb2.cell (p := ⟨g, 0, none⟩) (by exact hg)).trans c0; have d1 := (hb2.cell (p := ⟨g, 1, none⟩) (by exact hg)).trans c1))
  have HP := parsed_mk (x0 := x0) (x1 := x1) (lab := x2 * 65536 + x3 * 256 + x4) ca hb2 hown2
  clear hb2 hown2 ca2 fa2 d0 d1 HS c0 c1 c2 c3 c4 ca fa
  go_wp2
  go_ret
  exact ⟨rfl, HP⟩

set_option maxRecDepth 100000 in
set_option maxHeartbeats 1600000 in
theorem parse_five (ba g : Nat) (w : World) (x0 x1 x2 x3 x4 : Int) (v4 : Value) (hne : g ≠ ba)
    (hx2 : 0 ≤ x2 ∧ x2 ≤ 255) (hx3 : 0 ≤ x3 ∧ x3 ≤ 255) (hx4 : 0 ≤ x4 ∧ x4 ≤ 255)
    (c0 : w.cell? ⟨g, 0, none⟩ = some (.int .u8 x0)) (c1 : w.cell? ⟨g, 1, none⟩ = some (.int .u8 x1)) (c2 : w.cell? ⟨g, 2, none⟩ = some (.int .u8 x2)) (c3 : w.cell? ⟨g, 3, none⟩ = some (.int .u8 x3)) (c4 : w.cell? ⟨g, 4, none⟩ = some (.int .u8 x4))
    (ca : w.cell? ⟨ba, 4, none⟩ = some v4) (fa : w.frozen? ⟨ba, 4, none⟩ = false) :
    Calls Try.prog 25 #[.pointer (some ⟨ba, 0, none⟩), .slice (some ⟨g, 0, none⟩) 5 5] w fun e w' => e = .returned (.int .u8 0) ∧ Parsed w w' ba x0 x1 (x2 * 65536 + x3 * 256 + x4) 0 [] := by
  have hg : g < w.heap.size := cell_lt c0
  have HS : Hid (Src w (some ⟨g, 0, none⟩) 0 0 []) := ⟨rfl, Or.inl ⟨rfl, fun _ => rfl⟩⟩
  go_enter Try.func25, Try.ntmps25
  go_wp2_with fail
  go_region_held3 (fun w' => w'.cell? ⟨g, 0, none⟩ = some (.int .u8 x0) ∧ w'.cell? ⟨g, 1, none⟩ = some (.int .u8 x1))
    (first
      | go_keep
      | (go_split_ands
         refine ⟨?_, ?_⟩
         · (rw [hb2.cell (by exact hg)]; assumption)
         · (rw [hb2.cell (by exact hg)]; assumption))
      | (go_split_ands
         refine ⟨?_, ?_⟩
         · (rw [kept_sa (by exact hne) (by exact hg2)]; assumption)
         · (rw [kept_sa (by exact hne) (by exact hg2)]; assumption)))
    (first
      | (go_at_call 27; have X := label_any g 2 3 3 x2 x3 x4 w.drew (by omega) (by omega) hx2.1 hx2.2 hx3.1 hx3.2 hx4.1 hx4.2 c2 c3 c4; refine X.mono ?_; clear X; rintro e w1 ⟨rfl, d, rfl⟩)
      | (go_at_call 28; have X := bclone_any ⟨g, 0, none⟩ 0 0 [] (w.drewN (1 + d)) (by omega) (src_below HS.out (below_drewN (Below.refl _ _) (1 + d))); refine X.mono ?_; clear X; rintro e w2 ⟨g2, cap2, rfl, hown2, hb2⟩; obtain ⟨hz2, ca2, fa2, hba2, ne2⟩ := after_clone ca fa hb2; have hg2 := Nat.lt_of_lt_of_le hg hz2; have d0 := (hb2.cell (p := ⟨g, 0, none⟩) (by exact hg)).trans c0; have d1 := (hb2.cell (p := ⟨g, 1, none⟩) (by exact hg)).trans c1))
  have HP := parsed_mk (x0 := x0) (x1 := x1) (lab := x2 * 65536 + x3 * 256 + x4) ca hb2 hown2
  clear hb2 hown2 ca2 fa2 d0 d1 HS c0 c1 c2 c3 c4 ca fa
  go_wp2
  go_ret
  exact ⟨rfl, HP⟩

set_option maxHeartbeats 400000 in
theorem parse_short (pa : Value) (a : Option Addr) (len cap : Nat) (w : World) (h : len < 5) :
    Calls Try.prog 25 #[pa, .slice a len cap] w fun e w' => e = .returned (.int .u8 12) ∧ w' = w := by
  go_enter Try.func25, Try.ntmps25
  go_wp2
  go_ret
  exact ⟨rfl, rfl⟩

theorem parse_any (ba g len cap : Nat) (zs : List Int) (w : World) (v4 : Value) (hz : zs.length = len) (h5 : 5 ≤ len) (hl : len ≤ 1048581) (hlc : len ≤ cap) (hne : g ≠ ba)
    (hb : ∀ j, 0 ≤ zs.getD j 0 ∧ zs.getD j 0 ≤ 255) (hc : ∀ i, i < len → w.cell? ⟨g, i, none⟩ = some (.int .u8 (zs.getD i 0)))
    (ca : w.cell? ⟨ba, 4, none⟩ = some v4) (fa : w.frozen? ⟨ba, 4, none⟩ = false) :
    Calls Try.prog 25 #[.pointer (some ⟨ba, 0, none⟩), .slice (some ⟨g, 0, none⟩) len cap] w fun e w' => e = .returned (.int .u8 0) ∧
      Parsed w w' ba (zs.getD 0 0) (zs.getD 1 0) (zs.getD 2 0 * 65536 + zs.getD 3 0 * 256 + zs.getD 4 0) (len - 5) (zs.drop 5) := by
  by_cases h : cap = 5
  · obtain rfl : len = 5 := by omega
    subst h
    have : zs.drop 5 = [] := List.drop_of_length_le (by omega)
    rw [this]
    exact parse_five ba g w _ _ _ _ _ v4 hne (hb 2) (hb 3) (hb 4) (hc 0 (by omega)) (hc 1 (by omega)) (hc 2 (by omega)) (hc 3 (by omega)) (hc 4 (by omega)) ca fa
  · refine parse_long ba g len cap (zs.drop 5) w _ _ _ _ _ v4 h5 hl hlc hne (hb 2) (hb 3) (hb 4) (hc 0 (by omega)) (hc 1 (by omega)) (hc 2 (by omega)) (hc 3 (by omega)) (hc 4 (by omega)) ?_ ca fa h
    refine src_at (by simp; omega) (fun i hi => ?_)
    rw [hc (5 + i) (by omega)]
    simp

set_option maxHeartbeats 400000 in
theorem zzparse_short (pa : Value) (a : Option Addr) (len cap : Nat) (w : World) (h : len < 5) :
    Calls Try.prog 17 #[pa, .slice a len cap] w fun e w' => e = .returned (.int .u8 12) ∧ w' = w := by
  go_enter Try.func17, Try.ntmps17
  go_wp2_with (go_at_call 25; refine (parse_short _ _ _ _ _ h).mono ?_; rintro e w ⟨rfl, rfl⟩)
  go_ret
  exact ⟨rfl, rfl⟩

set_option maxHeartbeats 400000 in
theorem zzparse_any (ba g len cap : Nat) (zs : List Int) (w : World) (v4 : Value) (hz : zs.length = len) (h5 : 5 ≤ len) (hl : len ≤ 1048581) (hlc : len ≤ cap) (hne : g ≠ ba)
    (hb : ∀ j, 0 ≤ zs.getD j 0 ∧ zs.getD j 0 ≤ 255) (hc : ∀ i, i < len → w.cell? ⟨g, i, none⟩ = some (.int .u8 (zs.getD i 0)))
    (ca : w.cell? ⟨ba, 4, none⟩ = some v4) (fa : w.frozen? ⟨ba, 4, none⟩ = false) :
    Calls Try.prog 17 #[.pointer (some ⟨ba, 0, none⟩), .slice (some ⟨g, 0, none⟩) len cap] w fun e w' => e = .returned (.int .u8 0) ∧
      Parsed w w' ba (zs.getD 0 0) (zs.getD 1 0) (zs.getD 2 0 * 65536 + zs.getD 3 0 * 256 + zs.getD 4 0) (len - 5) (zs.drop 5) := by
  have HX : Hid (Calls Try.prog 25 #[.pointer (some ⟨ba, 0, none⟩), .slice (some ⟨g, 0, none⟩) len cap] w fun e w' => e = .returned (.int .u8 0) ∧
      Parsed w w' ba (zs.getD 0 0) (zs.getD 1 0) (zs.getD 2 0 * 65536 + zs.getD 3 0 * 256 + zs.getD 4 0) (len - 5) (zs.drop 5)) := parse_any ba g len cap zs w v4 hz h5 hl hlc hne hb hc ca fa
  clear hb hc ca fa
  go_enter Try.func17, Try.ntmps17
  go_wp2_with fail
  refine HX.out.mono ?_
  rintro e w1 ⟨rfl, HP⟩
  go_wp2
  go_ret
  exact ⟨rfl, HP⟩

set_option maxHeartbeats 400000 in
theorem zzappend_any (bp : Nat) (f t l : Int) (ao : Option Addr) (m c : Nat) (zs : List Int) (w : World) (h0 : 0 ≤ l) (h1 : l ≤ 16777215) (hm : m ≤ 1048576)
    (c0 : w.cell? ⟨bp, 0, none⟩ = some (.int .u8 f)) (c1 : w.cell? ⟨bp, 1, none⟩ = some (.int .u8 t)) (c2 : w.cell? ⟨bp, 2, none⟩ = some (.int .u32 l)) (c3 : w.cell? ⟨bp, 3, none⟩ = some (.slice ao m c))
    (hs : Src w ao m c zs) :
    Calls Try.prog 18 #[.pointer (some ⟨bp, 0, none⟩), .slice none 0 0] w fun e w' => ∃ g cap', e = .returned (.slice (some ⟨g, 0, none⟩) (5 + m) cap') ∧
      w'.ownsRow w.heap.size 5 1 (.slice (some ⟨g, 0, none⟩) (5 + m) cap') (5 + m) (([f, t, l / 65536, l / 256 % 256, l % 256] ++ zs).map (Value.int .u8)) ∧ Below w.heap.size w w' := by
  have X := pappend_any bp f t l ao m c zs w h0 h1 hm c0 c1 c2 c3 hs
  clear c0 c1 c2 c3 hs
  go_enter Try.func18, Try.ntmps18
  go_wp2_with fail
  refine X.mono ?_
  rintro e w1 ⟨g, cap', rfl, h2, h3⟩
  go_wp2
  go_ret
  exact ⟨g, cap', rfl, h2, h3⟩
end Go.Proofs.Qxb6002606a.Base
