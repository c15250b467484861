/-
  THE CONTRACT OF pjb1Itoa64: what it writes is a number by the grammar.
-/
import Derived.Test.Qxb6601645aZz
namespace Go.Proofs.Qxb6601645a.Base
open Go.RowKit

/-- the array of 24 octets of block b -/
def Buf (w : World) (b : Nat) (zs : List Int) : Prop := w.heap[b]? = some (.cells (zs.map (Value.int .u8)).toArray 39 (0, 0)) ∧ zs.length = 24

theorem Buf.cell {w : World} {b : Nat} {zs : List Int} (h : Buf w b zs) {i : Nat} (hi : i < 24) : w.cell? ⟨b, i, none⟩ = some (.int .u8 (zs.getD i 0)) := by
  obtain ⟨h1, h2⟩ := h
  simp [World.cell?, h1, show i < zs.length by omega]
theorem Buf.free {w : World} {b : Nat} {zs : List Int} (h : Buf w b zs) (i : Nat) : w.frozen? ⟨b, i, none⟩ = false := by
  simp [World.frozen?, h.1]
theorem Buf.set {w : World} {b : Nat} {zs : List Int} (h : Buf w b zs) (i : Nat) (c : Int) : Buf (w.setCell ⟨b, i, none⟩ (.int .u8 c)) b (zs.set i c) := by
  refine ⟨?_, by simpa using h.2⟩
  rw [heap_setCell_same w b i _ 39 _ h.1, List.map_set]
  simp

/-- u still to be written, octets k..23 of the array are digits -/
def Digs (zs : List Int) (u k : Nat) : Prop := 4 ≤ k ∧ k ≤ 24 ∧ u < 10 ^ (k - 4) ∧ (∀ i, k ≤ i → i < 24 → isDg (zs.getD i 0) = true) ∧ (u = 0 → k < 24 ∧ (k = 23 ∨ zs.getD k 0 ≠ 48))

theorem digs_step {zs : List Int} {u m : Nat} (hz : zs.length = 24) (h : Digs zs u (m + 1)) (hu : 0 < u) : Digs (zs.set m (48 + (u : Int) % 10)) (u / 10) m := by
  obtain ⟨h1, h2, h3, h4, h5⟩ := h
  have hm : 4 ≤ m := by
    by_cases e : m + 1 = 4
    · rw [e] at h3; simp at h3; omega
    · omega
  have hget : ∀ i, i < 24 → (zs.set m (48 + (u : Int) % 10)).getD i 0 = if m = i then 48 + (u : Int) % 10 else zs.getD i 0 := fun i hi => by
    rw [List.getD_eq_getElem?_getD, List.getElem?_set]
    by_cases e : m = i
    · rw [if_pos e, if_pos e, if_pos (by omega)]; rfl
    · rw [if_neg e, if_neg e]; simp
  refine ⟨hm, by omega, ?_, fun i a b => ?_, fun h0 => ⟨by omega, Or.inr ?_⟩⟩
  · rw [show m + 1 - 4 = (m - 4) + 1 by omega, Nat.pow_succ] at h3
    exact (Nat.div_lt_iff_lt_mul (by omega)).mpr h3
  · rw [hget i b]
    by_cases e : m = i
    · rw [if_pos e]; simp [isDg]; omega
    · rw [if_neg e]; exact h4 i (by omega) b
  · rw [hget m (by omega), if_pos rfl]
    omega

theorem digs_start {u : Nat} {zs : List Int} (hu : 0 < u) (h : u ≤ 9223372036854775808) : Digs zs u 24 :=
  ⟨by omega, by omega, by simp; omega, fun i a b => by omega, fun h0 => by omega⟩

theorem digs_zero {zs : List Int} (hz : zs.length = 24) : Digs (zs.set 23 48) 0 23 := by
  refine ⟨by omega, by omega, by simp, fun i a b => ?_, fun _ => ⟨by omega, Or.inl rfl⟩⟩
  have : i = 23 := by omega
  subst this
  rw [List.getD_eq_getElem?_getD, List.getElem?_set, if_pos rfl, if_pos (by omega)]
  rfl

theorem info5 : (Try.prog.info? 5).map (fun i => (i.zero, i.size, i.bytes)) = some (some (.int .u8 0), 1, 1) := by kernel_rfl

/-- 'buf[k:]' of the array -/
theorem run_slice39 (w : World) (b K : Nat) (h : K < 24) : (Instr.sliceAt 39 (.pointer (some ⟨b, 0, none⟩)) (some (.int .i64 (K : Int))) none none).run Try.prog w = .ok (.slice (some ⟨b, K, none⟩) (24 - K) (24 - K)) w := by
  have hu := Try.underlying39
  have hal : Try.prog.arrayLen 39 = 24 := by simp [Program.arrayLen, hu]
  have hel : Try.prog.elem 39 = 5 := by simp [Program.elem, hu]
  obtain ⟨i, hi, hz0, hz1, hz2⟩ := info_parts info5
  rw [run_sliceAt_array_l w 39 ⟨b, 0, none⟩ (by rw [hu, hal, hel]) .i64 (K : Int) (by omega) (by rw [hal]; omega), hal, hel]
  have hne : ¬ 24 = K := by omega
  simp [sizeOf, typeInfo, hi, hz1, slicedAt, hne, Result.andThen, Go.WideShapes.add_plain]

/-- the text of octets -/
def txt (zs : List Int) : ByteArray := zs.foldl (fun r n => r.push (UInt8.ofNat n.toNat)) ByteArray.empty
theorem txt_fold (zs : List Int) : ∀ s : ByteArray, zs.foldl (fun r n => r.push (UInt8.ofNat n.toNat)) s = ⟨s.data ++ (zs.map fun n => UInt8.ofNat n.toNat).toArray⟩ := by
  induction zs with
  | nil => intro s; simp
  | cons z zs ih => intro s; rw [List.foldl_cons, ih]; simp
theorem txt_eq (zs : List Int) : txt zs = ⟨(zs.map fun n => UInt8.ofNat n.toNat).toArray⟩ := by
  unfold txt
  rw [txt_fold]
  simp
theorem txt_size (zs : List Int) : (txt zs).size = zs.length := by
  rw [txt_eq]; simp [ByteArray.size]
theorem txt_bt {zs : List Int} {i : Nat} (hi : i < zs.length) (h0 : 0 ≤ zs.getD i 0) (h1 : zs.getD i 0 ≤ 255) : bt (txt zs) i = zs.getD i 0 := by
  rw [bt_eq (by rw [txt_size]; exact hi)]
  have : (txt zs)[i]'(by rw [txt_size]; exact hi) = UInt8.ofNat (zs.getD i 0).toNat := by
    simp only [ByteArray.getElem_eq_getElem_data, txt_eq]
    simp [hi]
  rw [this]
  have : (UInt8.ofNat (zs.getD i 0).toNat).toNat = (zs.getD i 0).toNat := by
    rw [UInt8.toNat_ofNat']
    omega
  rw [this]
  omega

/-- 'string(buf[k:])' -/
theorem run_conv40 (w : World) (b K len c : Nat) (zs : List Int) (hz : zs.length = len) (h : ∀ j, j < len → w.cell? ⟨b, K + j, none⟩ = some (.int .u8 (zs.getD j 0))) :
    (convert 40 9 (.slice (some ⟨b, K, none⟩) len c)).run Try.prog w = .ok (.string (txt zs)) w := by
  rw [run_convert_bytes_string w 40 9 5 _ _ _ Try.underlying40 Try.underlying5 Try.underlying9]
  refine run_bytesToString w _ len c zs ?_
  have := run_loadCells_list (P := Try.prog) w ⟨b, K, none⟩ (zs.map (Value.int .u8)) (fun j v hv => by
    rw [Go.WideShapes.add_plain]
    by_cases hj : j < len
    · rw [h j hj, ← hv]
      simp [show j < zs.length by omega]
    · rw [List.getElem?_eq_none (by simp; omega)] at hv
      cases hv)
  simpa [hz] using this

/-- what is written is a number by the grammar -/
def Good (t : ByteArray) : Prop := ∃ sg, IsNum t sg ∧ t.size ≤ 24 ∧ ((bt t sg == 48) && decide (sg + 1 < t.size)) = false

theorem dg_bd {c : Int} (h : isDg c = true) : 0 ≤ c ∧ c ≤ 255 := by simp [isDg] at h; omega

theorem drop_getD (zs : List Int) (K i : Nat) : (zs.drop K).getD i 0 = zs.getD (K + i) 0 := by simp

theorem good_pos {zs : List Int} {K : Nat} (hz : zs.length = 24) (h : Digs zs 0 K) : Good (txt (zs.drop K)) := by
  obtain ⟨h1, h2, _, h4, h5⟩ := h
  obtain ⟨h6, h7⟩ := h5 rfl
  have hl : (zs.drop K).length = 24 - K := by simp [hz]
  have hb : ∀ i, i < 24 - K → bt (txt (zs.drop K)) i = zs.getD (K + i) 0 := fun i hi => by
    have hd := dg_bd (h4 (K + i) (by omega) (by omega))
    rw [txt_bt (by omega) (by rw [drop_getD]; exact hd.1) (by rw [drop_getD]; exact hd.2), drop_getD]
  refine ⟨0, ⟨by rw [txt_size]; omega, Or.inl rfl, fun i _ hi => ?_⟩, by rw [txt_size]; omega, ?_⟩
  · rw [txt_size, hl] at hi
    rw [hb i hi]
    exact h4 _ (by omega) (by omega)
  · rw [txt_size, hl, hb 0 (by omega), Nat.add_zero]
    rcases h7 with h7 | h7
    · subst h7; simp
    · have : (zs.getD K 0 == 48) = false := beq_eq_false_iff_ne.mpr h7
      rw [this, Bool.false_and]

theorem good_neg {zs : List Int} {m : Nat} (hz : zs.length = 24) (h : Digs zs 0 (m + 1)) : Good (txt ((zs.set m 45).drop m)) := by
  obtain ⟨h1, h2, _, h4, h5⟩ := h
  obtain ⟨h6, h7⟩ := h5 rfl
  have hl : ((zs.set m 45).drop m).length = 24 - m := by simp [hz]
  have hg : ∀ i, i < 24 - m → (zs.set m 45).getD (m + i) 0 = if i = 0 then 45 else zs.getD (m + i) 0 := fun i hi => by
    rw [List.getD_eq_getElem?_getD, List.getElem?_set]
    by_cases e : i = 0
    · subst e; rw [if_pos (by omega), if_pos rfl, if_pos (by omega)]; rfl
    · rw [if_neg (by omega), if_neg e]; simp
  have hb : ∀ i, i < 24 - m → bt (txt ((zs.set m 45).drop m)) i = if i = 0 then 45 else zs.getD (m + i) 0 := fun i hi => by
    have hbd : 0 ≤ (zs.set m 45).getD (m + i) 0 ∧ (zs.set m 45).getD (m + i) 0 ≤ 255 := by
      rw [hg i hi]
      split
      · omega
      · exact dg_bd (h4 (m + i) (by omega) (by omega))
    rw [txt_bt (by omega) (by rw [drop_getD]; exact hbd.1) (by rw [drop_getD]; exact hbd.2), drop_getD, hg i hi]
  refine ⟨1, ⟨by rw [txt_size]; omega, Or.inr ⟨rfl, by rw [hb 0 (by omega)]; rfl⟩, fun i hi1 hi => ?_⟩, by rw [txt_size]; omega, ?_⟩
  · rw [txt_size, hl] at hi
    rw [hb i hi, if_neg (by omega)]
    exact h4 _ (by omega) (by omega)
  · rw [txt_size, hl, hb 1 (by omega), if_neg (by omega)]
    rcases h7 with h7 | h7
    · have : m = 22 := by omega
      subst this; simp
    · have : (zs.getD (m + 1) 0 == 48) = false := beq_eq_false_iff_ne.mpr h7
      rw [this, Bool.false_and]

set_option maxHeartbeats 1600000 in
theorem itoa_pos (n : Nat) (w : World) (h0 : 0 < n) (h1 : n ≤ 9223372036854775807) :
    Calls Try.prog 19 #[.int .i64 (n : Int)] w fun e w' => ∃ t, e = .returned (.string t) ∧ Good t ∧ Below w.heap.size w w' := by
  have hnz : ((n : Int) == 0) = false := beq_eq_false_iff_ne.mpr (by omega)
  go_enter Try.func19, Try.ntmps19
  go_wp2
  go_loopw [4, 6] (fun u k wr => ∃ (U K : Nat) (zs : List Int), u = .int .u64 U ∧ k = .int .i64 K ∧ U ≤ 9223372036854775808 ∧ Buf wr w.heap.size zs ∧ Digs zs U K ∧ Below w.heap.size w wr) (fun u _ _ => (intOf u).toNat)
  case atStart => exact ⟨n, 24, List.replicate 24 0, rfl, rfl, by omega, ⟨heap_alloc_new w _, rfl⟩, digs_start h0 (by omega), (Below.refl _ _).alloc (Nat.le_refl _) _⟩
  case round =>
    obtain ⟨U, K, zs, rfl, rfl, hU, hbuf, hdg, hbl⟩ := hrel
    by_cases hu : 0 < U
    · obtain ⟨m, rfl⟩ : ∃ m, K = m + 1 := ⟨K - 1, by have := hdg.1; omega⟩
      have HS := hide (digs_step hbuf.2 hdg hu)
      have HBf := hide (hbuf.set m (48 + (U : Int) % 10))
      have hm : m < 24 := by have := hdg.2.1; omega
      have hc := hbuf.cell hm
      have hf := hbuf.free m
      have hm' : (m : Int) < 24 := by omega
      clear hdg hbuf
      go_wp2
      go_roundw
      case rel => exact ⟨U / 10, m, _, by first | rfl | (congr 1), rfl, by omega, HBf.out, HS.out, hbl.setCell (Nat.le_refl _) _⟩
      case measure => simp [intOf]; omega
    · obtain rfl : U = 0 := by omega
      have hK := hdg.2.2.2.2 rfl
      have hz := hbuf.2
      have HG := hide (good_pos hz hdg)
      have hsl := run_slice39 wr w.heap.size K hK.1
      have hcv := run_conv40 wr w.heap.size K (24 - K) (24 - K) (zs.drop K) (by simp [hz]) (fun j hj => by rw [hbuf.cell (by omega), drop_getD])
      clear hbuf hdg hK
      go_wp2
      go_ret
      exact ⟨_, rfl, HG.out, hbl⟩

set_option maxHeartbeats 1600000 in
theorem itoa_neg (n : Nat) (w : World) (h0 : 0 < n) (h1 : n ≤ 9223372036854775808) :
    Calls Try.prog 19 #[.int .i64 (-(n : Int))] w fun e w' => ∃ t, e = .returned (.string t) ∧ Good t ∧ Below w.heap.size w w' := by
  have hnn : -(n : Int) < 0 := by omega
  go_enter Try.func19, Try.ntmps19
  go_wp2
  go_loopw [4, 6] (fun u k wr => ∃ (U K : Nat) (zs : List Int), u = .int .u64 U ∧ k = .int .i64 K ∧ U ≤ 9223372036854775808 ∧ Buf wr w.heap.size zs ∧ Digs zs U K ∧ Below w.heap.size w wr) (fun u _ _ => (intOf u).toNat)
  case atStart => exact ⟨n, 24, List.replicate 24 0, by first | rfl | (congr 1; omega), rfl, by omega, ⟨heap_alloc_new w _, rfl⟩, digs_start h0 (by omega), (Below.refl _ _).alloc (Nat.le_refl _) _⟩
  case round =>
    obtain ⟨U, K, zs, rfl, rfl, hU, hbuf, hdg, hbl⟩ := hrel
    by_cases hu : 0 < U
    · obtain ⟨m, rfl⟩ : ∃ m, K = m + 1 := ⟨K - 1, by have := hdg.1; omega⟩
      have HS := hide (digs_step hbuf.2 hdg hu)
      have HBf := hide (hbuf.set m (48 + (U : Int) % 10))
      have hm : m < 24 := by have := hdg.2.1; omega
      have hc := hbuf.cell hm
      have hf := hbuf.free m
      have hm' : (m : Int) < 24 := by omega
      clear hdg hbuf
      go_wp2
      go_roundw
      case rel => exact ⟨U / 10, m, _, by first | rfl | (congr 1), rfl, by omega, HBf.out, HS.out, hbl.setCell (Nat.le_refl _) _⟩
      case measure => simp [intOf]; omega
    · obtain rfl : U = 0 := by omega
      have hK := hdg.2.2.2.2 rfl
      have hz := hbuf.2
      obtain ⟨m, rfl⟩ : ∃ m, K = m + 1 := ⟨K - 1, by have := hdg.1; omega⟩
      have HG := hide (good_neg hz hdg)
      have hm : m < 24 := by omega
      have hc := hbuf.cell hm
      have hf := hbuf.free m
      have hm' : (m : Int) < 24 := by omega
      have hbuf2 := hbuf.set m 45
      have hsl := run_slice39 (wr.setCell ⟨w.heap.size, m, none⟩ (.int .u8 45)) w.heap.size m hm
      have hcv := run_conv40 (wr.setCell ⟨w.heap.size, m, none⟩ (.int .u8 45)) w.heap.size m (24 - m) (24 - m) ((zs.set m 45).drop m) (by simp [hz]) (fun j hj => by rw [hbuf2.cell (by omega), drop_getD])
      clear hbuf hdg hK hbuf2
      go_wp2
      go_ret
      exact ⟨_, rfl, HG.out, hbl.setCell (Nat.le_refl _) _⟩

set_option maxHeartbeats 1600000 in
theorem itoa_zero  (w : World)  :
    Calls Try.prog 19 #[.int .i64 0] w fun e w' => ∃ t, e = .returned (.string t) ∧ Good t ∧ Below w.heap.size w w' := by
  go_enter Try.func19, Try.ntmps19
  go_wp2
  go_loopw [4, 6] (fun u k wr => ∃ (U K : Nat) (zs : List Int), u = .int .u64 U ∧ k = .int .i64 K ∧ U ≤ 9223372036854775808 ∧ Buf wr w.heap.size zs ∧ Digs zs U K ∧ Below w.heap.size w wr) (fun u _ _ => (intOf u).toNat)
  case atStart => exact ⟨0, 23, (List.replicate 24 0).set 23 48, rfl, rfl, by omega, ⟨heap_alloc_new w _, rfl⟩, digs_zero rfl, (Below.refl _ _).alloc (Nat.le_refl _) _⟩
  case round =>
    obtain ⟨U, K, zs, rfl, rfl, hU, hbuf, hdg, hbl⟩ := hrel
    by_cases hu : 0 < U
    · obtain ⟨m, rfl⟩ : ∃ m, K = m + 1 := ⟨K - 1, by have := hdg.1; omega⟩
      have HS := hide (digs_step hbuf.2 hdg hu)
      have HBf := hide (hbuf.set m (48 + (U : Int) % 10))
      have hm : m < 24 := by have := hdg.2.1; omega
      have hc := hbuf.cell hm
      have hf := hbuf.free m
      have hm' : (m : Int) < 24 := by omega
      clear hdg hbuf
      go_wp2
      go_roundw
      case rel => exact ⟨U / 10, m, _, by first | rfl | (congr 1), rfl, by omega, HBf.out, HS.out, hbl.setCell (Nat.le_refl _) _⟩
      case measure => simp [intOf]; omega
    · obtain rfl : U = 0 := by omega
      have hK := hdg.2.2.2.2 rfl
      have hz := hbuf.2
      have HG := hide (good_pos hz hdg)
      have hsl := run_slice39 wr w.heap.size K hK.1
      have hcv := run_conv40 wr w.heap.size K (24 - K) (24 - K) (zs.drop K) (by simp [hz]) (fun j hj => by rw [hbuf.cell (by omega), drop_getD])
      clear hbuf hdg hK
      go_wp2
      go_ret
      exact ⟨_, rfl, HG.out, hbl⟩

theorem itoa_any (n : Int) (w : World) (h0 : -9223372036854775808 ≤ n) (h1 : n ≤ 9223372036854775807) :
    Calls Try.prog 19 #[.int .i64 n] w fun e w' => ∃ t, e = .returned (.string t) ∧ Good t ∧ Below w.heap.size w w' := by
  rcases Int.lt_trichotomy n 0 with h | h | h
  · obtain ⟨m, hm⟩ := Int.eq_ofNat_of_zero_le (show 0 ≤ -n by omega)
    obtain rfl : n = -(m : Int) := by omega
    exact itoa_neg m w (by omega) (by omega)
  · subst h
    exact itoa_zero w
  · obtain ⟨m, rfl⟩ := Int.eq_ofNat_of_zero_le (show 0 ≤ n by omega)
    exact itoa_pos m w (by omega) (by omega)
end Go.Proofs.Qxb6601645a.Base
