/-
  'append' ON A ROW OF OCTETS THAT THE CALL MADE, FROM WHATEVER SOURCE (nil, empty, a row): the run, a plain region's law, a drawn region's step.
-/
import Derived.Test.Qxb6002606aBase
import Derived.Deep.AppendLies
namespace Go.Proofs.Qxb6002606a.Base
open Go.RowKit

/-- what is appended: m octets that can be read, or nothing -/
def Src (w : World) (ao : Option Addr) (m c : Nat) (zs : List Int) : Prop :=
  zs.length = m ∧ ((m = 0 ∧ (ao = none → c = 0)) ∨ ∃ ad, ao = some ad ∧ ∀ j u, (zs.map (Value.int .u8))[j]? = some u → w.cell? (ad.add j) = some u)

theorem oneCell_ints (zs : List Int) : ∀ u ∈ zs.map (Value.int .u8), u.oneCell' = true := ints_oneCell _ _

theorem run_append_src (w : World) (ty base n cap g0 : Nat) (xs : List Value) (hown : w.ownsRow base 5 1 (.slice (some ⟨g0, 0, none⟩) n cap) n xs)
    (ao : Option Addr) (m c : Nat) (zs : List Int) (hs : Src w ao m c zs) (h63 : n + m ≤ 2097152) (hbase : base ≤ w.heap.size) :
    ∃ g cap' w', (Builtin.append_ #[26, 26] ty #[.slice (some ⟨g0, 0, none⟩) n cap, .slice ao m c]).run Try.prog w = .ok (.slice (some ⟨g, 0, none⟩) (n + m) cap') w' ∧
      w'.ownsRow base 5 1 (.slice (some ⟨g, 0, none⟩) (n + m) cap') (n + m) (xs ++ zs.map (Value.int .u8)) ∧ w.grownBy w' (some g0) ∧ g < w'.heap.size := by
  obtain ⟨i0, hi, hz0, hz1, hz2⟩ := info_parts info5
  obtain ⟨hlen, hs⟩ := hs
  have hcap : n ≤ cap := by
    rcases hown.2 with ⟨h', _⟩ | ⟨g', cap', cur, h', _, hg, hn, _⟩
    · simp at h'
    · simp only [Value.slice.injEq] at h'
      obtain ⟨_, _, rfl⟩ := h'
      exact hn
  by_cases hm : m = 0
  · subst hm
    have hz : zs = [] := List.eq_nil_of_length_eq_zero hlen
    subst hz
    have hlt : g0 < w.heap.size := own_lt hown
    cases ao with
    | none =>
      have hc : c = 0 := by
        rcases hs with ⟨_, h⟩ | ⟨ad, h, _⟩
        · exact h rfl
        · cases h
      subst hc
      have hr := run_append_owned_none (P := Try.prog) w base 26 ty 5 i0 1 Try.underlying26 hi _ n xs hown
      exact ⟨g0, cap, w, hr, by simpa using hown, World.grownBy.refl _ _, hlt⟩
    | some ad =>
      obtain ⟨w', hr, h2, h3⟩ := run_append_fits (P := Try.prog) w base 26 ty 5 i0 1 Try.underlying26 hi hz1 g0 n cap xs hown ad 0 c [] rfl (by simp) (by simp) (by omega)
      exact ⟨g0, cap, w', hr, by simpa using h2, h3, Nat.lt_of_lt_of_le hlt h3.size⟩
  · rcases hs with ⟨h, _⟩ | ⟨ad, rfl, hnews⟩
    · exact absurd h hm
    · obtain ⟨g, cap', w', hr, h2, h3, _, h5⟩ := run_append_lies (P := Try.prog) w 26 ty base 5 i0 (.int .u8 0) 1 1 Try.underlying26 hi hz0 hz1 hz2 rfl (by omega) (.slice (some ⟨g0, 0, none⟩) n cap) n xs hown ad m c (zs.map (Value.int .u8)) (by simpa using hlen) hnews (oneCell_ints zs) (by omega) (by unfold maxLen; omega) (by omega) hbase w.heap.size rfl
      exact ⟨g, cap', w', hr, h2, h3, h5⟩

theorem wp_append_src {o : Oper} {a : Act} {K : Act → World → Prop} {Q : Exit → Act → World → Prop} (w : World) (s x : Operand)
    (ho : o.op = .call { callee := .builtin .append, args := #[s, x], argTypes := #[26, 26] })
    (base n cap g0 : Nat) (xs : List Value) (hv : a.eval s = .slice (some ⟨g0, 0, none⟩) n cap) (hown : w.ownsRow base 5 1 (.slice (some ⟨g0, 0, none⟩) n cap) n xs)
    (ao : Option Addr) (m c : Nat) (zs : List Int) (hx : a.eval x = .slice ao m c) (hs : Src w ao m c zs) (h63 : n + m ≤ 2097152) (hbase : base ≤ w.heap.size)
    (h : ∀ g cap' w', w'.ownsRow base 5 1 (.slice (some ⟨g, 0, none⟩) (n + m) cap') (n + m) (xs ++ zs.map (Value.int .u8)) → w.grownBy w' (some g0) → g < w'.heap.size → K (a.put o.dst (.slice (some ⟨g, 0, none⟩) (n + m) cap')) w') : o.wp Try.prog a w K Q := by
  obtain ⟨g, cap', w', hr, h2, h3, h5⟩ := run_append_src w o.type base n cap g0 xs hown ao m c zs hs h63 hbase
  unfold Oper.wp execOp
  simp only [ho, resolve, invoke, builtin, Sem.run_bind, Sem.run_pure, Result.andThen_ok, List.map_toArray, List.map_cons, List.map_nil, hv, hx, hr]
  exact h g cap' w' h2 h3 h5

theorem wpList_append_src {ops : Array Oper} {rest : List Oper} {o : Oper} {a : Act} {Q : Exit → Act → World → Prop} (w : World) (hgd : o.guard = none) (s x : Operand)
    (ho : o.op = .call { callee := .builtin .append, args := #[s, x], argTypes := #[26, 26] })
    (base n cap g0 : Nat) (xs : List Value) (hv : a.eval s = .slice (some ⟨g0, 0, none⟩) n cap) (hown : w.ownsRow base 5 1 (.slice (some ⟨g0, 0, none⟩) n cap) n xs)
    (ao : Option Addr) (m c : Nat) (zs : List Int) (hx : a.eval x = .slice ao m c) (hs : Src w ao m c zs) (h63 : n + m ≤ 2097152) (hbase : base ≤ w.heap.size)
    (h : ∀ g cap' w', w'.ownsRow base 5 1 (.slice (some ⟨g, 0, none⟩) (n + m) cap') (n + m) (xs ++ zs.map (Value.int .u8)) → w.grownBy w' (some g0) → g < w'.heap.size → wpList Try.prog ops Q rest (a.put o.dst (.slice (some ⟨g, 0, none⟩) (n + m) cap')) w') : wpList Try.prog ops Q (o :: rest) a w :=
  wpList_plain hgd fun _ hK => wp_append_src w s x ho base n cap g0 xs hv hown ao m c zs hx hs h63 hbase fun g cap' w' h2 h3 h5 => hK _ _ (h g cap' w' h2 h3 h5)

theorem step_append_src {ops : Array Oper} {o : Oper} {a : Act} {K : Act → World → Prop} {Q : Exit → Act → World → Prop} {E : Prop} (w : World) (hgd : o.guard = none) (s x : Operand)
    (ho : o.op = .call { callee := .builtin .append, args := #[s, x], argTypes := #[26, 26] })
    (base n cap g0 : Nat) (xs : List Value) (hv : a.eval s = .slice (some ⟨g0, 0, none⟩) n cap) (hown : w.ownsRow base 5 1 (.slice (some ⟨g0, 0, none⟩) n cap) n xs)
    (ao : Option Addr) (m c : Nat) (zs : List Int) (hx : a.eval x = .slice ao m c) (hs : Src w ao m c zs) (h63 : n + m ≤ 2097152) (hbase : base ≤ w.heap.size)
    (h : ∀ g cap' w', w'.ownsRow base 5 1 (.slice (some ⟨g, 0, none⟩) (n + m) cap') (n + m) (xs ++ zs.map (Value.int .u8)) → w.grownBy w' (some g0) → g < w'.heap.size → K (a.put o.dst (.slice (some ⟨g, 0, none⟩) (n + m) cap')) w') :
    if Region.wanted o (yielded ops a.tmps) = true then Oper.wp Try.prog o a w K Q else E := by
  have hw : Region.wanted o (yielded ops a.tmps) = true := by simp [Region.wanted, hgd]
  rw [if_pos hw]
  exact wp_append_src w s x ho base n cap g0 xs hv hown ao m c zs hx hs h63 hbase h

theorem grown_trans {a b c : World} {row : Option Nat} (h : a.grownBy b row) (k : b.grownBy c row) : a.grownBy c row :=
  ⟨k.os.trans h.os, k.tape.trans h.tape, k.output.trans h.output, Nat.le_trans h.size k.size, fun i hi hne => (k.block i (Nat.lt_of_lt_of_le hi h.size) hne).trans (h.block i hi hne)⟩

/-- a readable row as a source, at an address written out -/
theorem src_at {w : World} {b off m c : Nat} {zs : List Int} (hz : zs.length = m) (hc : ∀ i, i < m → w.cell? ⟨b, off + i, none⟩ = some (.int .u8 (zs.getD i 0))) : Src w (some ⟨b, off, none⟩) m c zs := by
  refine ⟨hz, Or.inr ⟨_, rfl, fun j u hu => ?_⟩⟩
  rw [Go.WideShapes.add_plain]
  by_cases hj : j < m
  · rw [hc j hj, ← hu, List.getElem?_map, List.getElem?_eq_getElem (by omega)]
    simp [show j < zs.length by omega]
  · rw [List.getElem?_eq_none (by simp; omega)] at hu
    cases hu
end Go.Proofs.Qxb6002606a.Base
