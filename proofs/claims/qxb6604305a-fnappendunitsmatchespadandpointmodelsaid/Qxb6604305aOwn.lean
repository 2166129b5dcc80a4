/-
  BYTE SLICES OF THE CALL's OWN, BY BLOCK: 'Own'; one byte pushed where there is room; bytes that lie below a mark: 'Bytes'. Own work on this program.
-/
import Derived.Test.Qxb6604305aAuRead
import Derived.Laws.CopyOwn
namespace Go.Proofs.Qxb6604305a.Au
open Go.RowKit

/-- Block g is a row of bytes of the call's own, of which the slice of capacity cap at its head holds the numbers t. -/
def Own (w : World) (g cap : Nat) (t : List Int) : Prop := w.ownsRow 0 5 1 (.slice (some ⟨g, 0, none⟩) t.length cap) t.length (U t)

theorem Own.lt {w : World} {g cap : Nat} {t : List Int} (h : Own w g cap t) : g < w.heap.size := (World.ownsRow.lt h g rfl).2
theorem Own.cell {w : World} {g cap : Nat} {t : List Int} (h : Own w g cap t) {j : Nat} {c : Int} (hj : t[j]? = some c) : w.cell? ⟨g, j, none⟩ = some (.int .u8 c) := by
  have hl : j < t.length := (List.getElem?_eq_some_iff.1 hj).1
  rw [World.ownsRow.cellAt h j (by omega)]
  simp [U, hj]
theorem Own.kept {w w' : World} {g cap : Nat} {t : List Int} {row : Option Nat} (h : Own w g cap t) (hg : w.grownBy w' row) (hne : some g ≠ row) : Own w' g cap t := World.ownsRow.kept h hg (.inr hne)
theorem Own.alloc {w : World} {g cap : Nat} {t : List Int} (h : Own w g cap t) (o : Obj) : Own (w.alloc o) g cap t := World.ownsRow.alloc h o
theorem Own.below {w w' : World} {B g cap : Nat} {t : List Int} (h : Own w g cap t) (hb : Below B w w') (hg : g < B) : Own w' g cap t := by
  refine ⟨h.1, ?_⟩
  rcases h.2 with h2 | ⟨g', c', cur, hv, h0, hh, r⟩
  · exact .inl h2
  · refine .inr ⟨g', c', cur, hv, h0, ?_, r⟩
    simp only [Value.slice.injEq, Option.some.injEq, Addr.mk.injEq] at hv
    rw [hb.block g' (by omega)]
    exact hh
theorem Own.made {w : World} {base g cap : Nat} (h : w.ownsRow base 5 1 (.slice (some ⟨g, 0, none⟩) 0 cap) 0 []) : Own w g cap [] := ownsRow_base h (Nat.zero_le _)
theorem Own.ofRow {w : World} {base g n cap : Nat} {t : List Int} (h : w.ownsRow base 5 1 (.slice (some ⟨g, 0, none⟩) n cap) n (U t)) (hn : t.length = n) : Own w g cap t := by
  subst hn; exact ownsRow_base h (Nat.zero_le _)

/-- 'out = append(out, x)' where there is room: x lies in a block of its own, the last one. -/
theorem wpList_push {w : World} {ops : Array Oper} {rest : List Oper} {o : Oper} {a : Act} {Q : Exit → Act → World → Prop}
    (hg : o.guard = none) (s x : Operand) (hop : o.op = Op.call { callee := Callee.builtin Builtin.append, args := #[s, x], argTypes := #[22, 22] })
    (g cap : Nat) (t : List Int) (c : Int) (n : Nat) (hn : t.length = n) (hs : a.eval s = .slice (some ⟨g, 0, none⟩) n cap) (hown : Own w g cap t) (hx : a.eval x = .slice (some ⟨w.heap.size, 0, none⟩) 1 1)
    (hroom : n + 1 ≤ cap)
    (hK : ∀ w', Own w' g cap (t ++ [c]) → w.grownBy w' (some g) → wpList Try.prog ops Q rest (a.put o.dst (.slice (some ⟨g, 0, none⟩) (n + 1) cap)) w') :
    wpList Try.prog ops Q (o :: rest) a (w.alloc (.cells #[.int .u8 c] 5)) := by
  obtain ⟨i0, hi, hz0, hz1, hz2⟩ := info_parts info5
  subst hn
  refine wpList_append_fits (P := Try.prog) _ hg s x 22 hop 0 5 i0 1 Try.underlying22 hi hz1 g t.length cap (U t) hs (hown.alloc _) ⟨w.heap.size, 0, none⟩ 1 1 [.int .u8 c] hx rfl (cell_one_new _ _ _) (by simp [Value.oneCell']) hroom ?_
  intro w' h1 h2
  refine hK w' ?_ ⟨h2.os, h2.tape, h2.output, Nat.le_trans (by simp) h2.size, fun k hk hne => (h2.block k (by simp; omega) hne).trans (Below.heap_alloc w _ k hk)⟩
  have e : U t ++ [.int .u8 c] = U (t ++ [c]) := by simp [U]
  rw [e] at h1
  exact Own.ofRow h1 (by simp)

/-- What a world grown by one of the call's own rows is, below the mark. -/
theorem below_row {B g : Nat} {w0 w w' : World} (h : Below B w0 w) (hg : w.grownBy w' (some g)) (hB : B ≤ w.heap.size) (hBg : B ≤ g) : Below B w0 w' :=
  h.grown hg hB (fun k hk => by cases hk; exact hBg)

/-- The slice v holds the bytes t; they lie below block B (or v is nil). -/
def Bytes (B : Nat) (w : World) (ao : Option Addr) (t : List Int) : Prop :=
  (ao = none ∧ t = []) ∨ ∃ g off, ao = some ⟨g, off, none⟩ ∧ g < B ∧ ∀ (j : Nat) (c : Int), t[j]? = some c → w.cell? ⟨g, off + j, none⟩ = some (.int .u8 c)

theorem Bytes.later {B : Nat} {w w' : World} {ao : Option Addr} {t : List Int} (h : Bytes B w ao t) (hb : Below B w w') : Bytes B w' ao t := by
  rcases h with h | ⟨g, off, hv, hg, hc⟩
  · exact .inl h
  · exact .inr ⟨g, off, hv, hg, fun j c hj => (hb.cell (p := ⟨g, off + j, none⟩) hg).trans (hc j c hj)⟩

theorem Bytes.at {B : Nat} {w : World} {ao : Option Addr} {t : List Int} (h : Bytes B w ao t) {j : Nat} {c : Int} (hj : t[j]? = some c) : ∃ g off, ao = some ⟨g, off, none⟩ ∧ w.cell? ⟨g, off + j, none⟩ = some (.int .u8 c) := by
  rcases h with ⟨_, rfl⟩ | ⟨g, off, hv, hg, hc⟩
  · simp at hj
  · exact ⟨g, off, hv, hc j c hj⟩

/-! ### Plain facts on the digits -/

theorem frac_snoc (j x : Nat) : frac (j + 1) x = frac j (x / 10) ++ [48 + ((x % 10 : Nat) : Int)] := by
  induction j with
  | zero => simp [frac]
  | succ j ih =>
    rw [frac, ih, frac, List.cons_append, Nat.div_div_eq_div_mul, ← Nat.pow_succ']

theorem frac_split (k p M : Nat) : frac (k + p) M = frac k (M / 10 ^ p) ++ frac p M := by
  induction k with
  | zero => simp [frac]
  | succ k ih =>
    rw [show k + 1 + p = k + p + 1 from by omega, frac, ih, frac, List.cons_append, Nat.div_div_eq_div_mul, ← Nat.pow_add, Nat.add_comm k p]

theorem frac_zero (k : Nat) : frac k 0 = List.replicate k 48 := by
  induction k with
  | zero => rfl
  | succ k ih => rw [frac, ih]; simp [List.replicate_succ]

theorem frac_pad (k d M : Nat) (h : M / 10 ^ d = 0) : frac (k + d) M = List.replicate k 48 ++ frac d M := by
  rw [frac_split, h, frac_zero]

end Go.Proofs.Qxb6604305a.Au
