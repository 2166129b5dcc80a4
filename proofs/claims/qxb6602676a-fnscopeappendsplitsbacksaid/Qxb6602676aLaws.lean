/-
  SHARED LAWS FOR THE WALKS OF THIS SEAT: byte slices of the call's own, a string's bytes, a make with room. Own work on this program.
-/
import Derived.Test.Qxb6602676aRows
import Derived.WalkKit
import Derived.WalkSpells
import Derived.WalkLawsBesides
import Derived.Lib.AppendStr
import Derived.Deep.QuietTactic
import Derived.BigQuiet
import Derived.Deep.DeepCutAuto
namespace Go.Proofs.Qxb6602676a.Sc
open Go.RowKit

theorem hide {p : Prop} (h : p) : Hid p := h
theorem info5 : (Try.prog.info? 5).map (fun i => (i.zero, i.size, i.bytes)) = some (some (.int .u8 0), 1, 1) := by kernel_rfl

def U (l : List Int) : List Value := l.map (Value.int .u8)
theorem U_length (l : List Int) : (U l).length = l.length := by simp [U]
theorem U_append (a b : List Int) : U (a ++ b) = U a ++ U b := by simp [U]

/-- A string's bytes as numbers. -/
def bs (s : ByteArray) : List Int := s.data.toList.map fun b => (b.toNat : Int)
theorem bs_length (s : ByteArray) : (bs s).length = s.size := by rw [bs, List.length_map, Array.length_toList]; rfl
theorem strCells_eq (s : ByteArray) : Lib.strCells s = U (bs s) := by simp [Lib.strCells, U, bs]
theorem bs_get (s : ByteArray) (k : Nat) (h : k < s.size) : (bs s)[k]? = some ((s[k].toNat : Nat) : Int) := by
  rw [bs, List.getElem?_map, List.getElem?_eq_getElem (by simpa using h)]; rfl

theorem ownsRow_base {w : World} {b b' : Nat} {e : TypeId} {s : Nat} {v : Value} {n : Nat} {xs : List Value} (h : w.ownsRow b e s v n xs) (hb : b' ≤ b) : w.ownsRow b' e s v n xs := by
  refine ⟨h.1, ?_⟩
  rcases h.2 with h | ⟨g, cap, cur, hv, hg, r⟩
  · exact .inl h
  · exact .inr ⟨g, cap, cur, hv, Nat.le_trans hb hg, r⟩

theorem below_grown {B : Nat} {w w' : World} {row : Option Nat} (hg : w.grownBy w' row) (hB : B ≤ w.heap.size) (hr : ∀ k, row = some k → B ≤ k) : Below B w w' :=
  (Below.refl B w).grown hg hB hr

/-- The slice whose address is ao holds the bytes t; they lie below block B (or it is nil). -/
def Bytes (B : Nat) (w : World) (ao : Option Addr) (t : List Int) : Prop :=
  (ao = none ∧ t = []) ∨ ∃ g, ao = some ⟨g, 0, none⟩ ∧ g < B ∧ ∀ (j : Nat) (c : Int), t[j]? = some c → w.cell? ⟨g, j, none⟩ = some (.int .u8 c)

theorem Bytes.later {B : Nat} {w w' : World} {ao : Option Addr} {t : List Int} (h : Bytes B w ao t) (hb : Below B w w') : Bytes B w' ao t := by
  rcases h with h | ⟨g, hv, hg, hc⟩
  · exact .inl h
  · exact .inr ⟨g, hv, hg, fun j c hj => (hb.cell (p := ⟨g, j, none⟩) hg).trans (hc j c hj)⟩
theorem Bytes.more {B B' : Nat} {w : World} {ao : Option Addr} {t : List Int} (h : Bytes B w ao t) (hb : B ≤ B') : Bytes B' w ao t := by
  rcases h with h | ⟨g, hv, hg, hc⟩
  · exact .inl h
  · exact .inr ⟨g, hv, by omega, hc⟩
theorem Bytes.at {B : Nat} {w : World} {ao : Option Addr} {t : List Int} (h : Bytes B w ao t) {j : Nat} {c : Int} (hj : t[j]? = some c) : ∃ g, ao = some ⟨g, 0, none⟩ ∧ w.cell? ⟨g, j, none⟩ = some (.int .u8 c) := by
  rcases h with ⟨_, rfl⟩ | ⟨g, hv, hg, hc⟩
  · simp at hj
  · exact ⟨g, hv, hc j c hj⟩
theorem Bytes.drewN {B : Nat} {w : World} {ao : Option Addr} {t : List Int} (h : Bytes B w ao t) (n : Nat) : Bytes B (w.drewN n) ao t := by
  rcases h with h | ⟨g, hv, hg, hc⟩
  · exact .inl h
  · exact .inr ⟨g, hv, hg, fun j c hj => by rw [World.cell?_drewN]; exact hc j c hj⟩

/-- Bytes of the call's own, read out. -/
theorem own_bytes {w : World} {B : Nat} {v : Value} {n : Nat} {t : List Int} (h : w.ownsRow B 5 1 v n (U t)) :
    t.length = n ∧ ∃ ao cap, v = .slice ao n cap ∧ n ≤ cap ∧ Bytes w.heap.size w ao t := by
  have hl : t.length = n := by have := h.1; simpa [U] using this
  refine ⟨hl, ?_⟩
  rcases h.2 with ⟨rfl, h0⟩ | ⟨g, cap, cur, rfl, hb, hg, hc, hm, _, _⟩
  · subst h0
    exact ⟨none, 0, rfl, Nat.le_refl _, .inl ⟨rfl, List.eq_nil_of_length_eq_zero hl⟩⟩
  · refine ⟨_, cap, rfl, hc, .inr ⟨g, rfl, (Array.getElem?_eq_some_iff.1 hg).1, fun j c hj => ?_⟩⟩
    have hlt : j < t.length := (List.getElem?_eq_some_iff.1 hj).1
    rw [h.cellAt j (by omega)]
    simp [U, hj]

/-- 'make([]byte, n, c)'. -/
theorem wpList_make_room {w : World} {ops : Array Oper} {rest : List Oper} {o : Oper} {a : Act} {Q : Exit → Act → World → Prop}
    (hg : o.guard = none) (l c : Operand) (hop : o.op = Op.makeSlice 22 l c) (L C : Int) (n m : Nat) (hl : a.eval l = .int .i64 L) (hc : a.eval c = .int .i64 C) (hL : L = (n : Int)) (hC : C = (m : Int)) (hnm : n ≤ m) (hm : m ≤ 281474976710656)
    (hK : ∀ w', w'.ownsRow w.heap.size 5 1 (.slice (some ⟨w.heap.size, 0, none⟩) n m) n (U (List.replicate n 0)) → w.grownBy w' none → wpList Try.prog ops Q rest (a.put o.dst (.slice (some ⟨w.heap.size, 0, none⟩) n m)) w') :
    wpList Try.prog ops Q (o :: rest) a w := by
  obtain ⟨i, hi, hz0, hz1, hz2⟩ := info_parts info5
  refine wpList_plain hg fun K hK' => ?_
  subst hL
  subst hC
  have hrun := run_make (P := Try.prog) w 22 5 i (.int .u8 0) Try.underlying22 hi hz0 .i64 .i64 (n : Int) (m : Int) (by omega) (by omega) (by rw [hz2]; omega) (by omega)
  rw [Int.toNat_natCast, Int.toNat_natCast, hz1, Nat.mul_one] at hrun
  have hcl : (Value.int IntKind.u8 0).cells = #[Value.int IntKind.u8 0] := rfl
  rw [hcl] at hrun
  unfold Oper.wp
  simp [execOp, hop, hl, hc, hrun, Result.andThen]
  refine hK' _ _ (hK _ ?_ (World.grownBy_alloc w _ none))
  refine ⟨by simp [U], .inr ⟨w.heap.size, m, _, rfl, Nat.le_refl _, heap_alloc_new w _, hnm, by unfold maxLen; omega, by rw [size_madeCells, Nat.mul_one], ?_⟩⟩
  rw [toList_madeCells_one, Nat.mul_one, List.take_replicate, Nat.min_eq_left hnm]
  simp [U]

end Go.Proofs.Qxb6602676a.Sc
