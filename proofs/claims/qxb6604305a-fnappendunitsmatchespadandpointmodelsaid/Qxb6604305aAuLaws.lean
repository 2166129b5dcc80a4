/-
  THE LAWS THAT THE WALKS OF THIS SEAT SHARE: an append onto a slice that either is the call's own or must grow; the digits' buffer. Own work on this program.
-/
import Derived.Test.Qxb6604305aRows
import Derived.WalkKit
import Derived.WalkSpells
import Derived.WalkLawsBesides
namespace Go.Proofs.Qxb6604305a.Au
open Go.RowKit

theorem info5 : (Try.prog.info? 5).map (fun i => (i.zero, i.size, i.bytes)) = some (some (.int .u8 0), 1, 1) := by kernel_rfl

/-- Numbers as byte cells. -/
def U (l : List Int) : List Value := l.map (Value.int .u8)

theorem U_length (l : List Int) : (U l).length = l.length := by simp [U]
theorem U_append (a b : List Int) : U (a ++ b) = U a ++ U b := by simp [U]
theorem U_oneCell (l : List Int) : ∀ u ∈ U l, u.oneCell' = true := ints_oneCell _ l

theorem ownsRow_base {w : World} {b b' : Nat} {e : TypeId} {s : Nat} {v : Value} {n : Nat} {xs : List Value} (h : w.ownsRow b e s v n xs) (hb : b' ≤ b) : w.ownsRow b' e s v n xs := by
  refine ⟨h.1, ?_⟩
  rcases h.2 with h | ⟨g, cap, cur, hv, hg, r⟩
  · exact .inl h
  · exact .inr ⟨g, cap, cur, hv, Nat.le_trans hb hg, r⟩

/-- What 'append' may be handed: a slice of the call's own (its block from B on), or one with no spare room at all, whose cells are known. -/
def CanApp (B : Nat) (w : World) (v : Value) (n : Nat) (xs : List Value) : Prop :=
  w.ownsRow B 5 1 v n xs ∨
  ∃ ao, v = .slice ao n n ∧ (ao = none → n = 0) ∧ xs.length = n ∧ ∀ b, ao = some b → ∀ j u, xs[j]? = some u → w.cell? (b.add j) = some u

theorem CanApp.alloc {B : Nat} {w : World} {v : Value} {n : Nat} {xs : List Value} (h : CanApp B w v n xs) (o : Obj) : CanApp B (w.alloc o) v n xs := by
  rcases h with h | ⟨ao, hv, h0, hl, hc⟩
  · exact .inl (h.alloc o)
  · refine .inr ⟨ao, hv, h0, hl, fun b hb j u hu => ?_⟩
    exact (World.grownBy_alloc w o none).cell (hc b hb j u hu) (by simp)

theorem below_grown {B : Nat} {w w' : World} {row : Option Nat} (hg : w.grownBy w' row) (hB : B ≤ w.heap.size) (hr : ∀ k, row = some k → B ≤ k) : Below B w w' :=
  (Below.refl B w).grown hg hB hr

theorem wpList_append_can {w : World} {ops : Array Oper} {rest : List Oper} {o : Oper} {a : Act} {Q : Exit → Act → World → Prop}
    (hg : o.guard = none) (s x : Operand) (hop : o.op = Op.call { callee := Callee.builtin Builtin.append, args := #[s, x], argTypes := #[22, 22] })
    (B : Nat) (v : Value) (n : Nat) (xs : List Value) (hs : a.eval s = v) (hcan : CanApp B w v n xs)
    (ad : Addr) (m c : Nat) (news : List Value) (hx : a.eval x = .slice (some ad) m c) (hn : news.length = m) (hc : ∀ j u, news[j]? = some u → w.cell? (ad.add j) = some u) (h1c : ∀ u ∈ news, u.oneCell' = true)
    (hm : 0 < m) (hnm : n + m ≤ 140737488355328) (hB : B ≤ w.heap.size)
    (hK : ∀ v' w', w'.ownsRow B 5 1 v' (n + m) (xs ++ news) → Below B w w' → wpList Try.prog ops Q rest (a.put o.dst v') w') :
    wpList Try.prog ops Q (o :: rest) a w := by
  obtain ⟨i0, hi, hz0, hz1, hz2⟩ := info_parts info5
  have hmax : n + m ≤ maxLen := by unfold maxLen; omega
  rcases hcan with hown | ⟨ao, rfl, h0, hl, hcell⟩
  · exact wpList_append_own (P := Try.prog) w hg s x 22 hop B 5 i0 (.int .u8 0) 1 1 Try.underlying22 hi hz0 hz1 hz2 rfl (by decide) v n xs hs hown ad m c news hx (by omega) hc h1c hmax (by omega) hB
      (fun v' w' h1 h2 _ => hK v' w' h1 (below_grown h2 hB (fun k hk => (hown.lt k hk).1)))
  · exact wpList_append_grows (P := Try.prog) w hg s x 22 hop 5 i0 (.int .u8 0) 1 1 Try.underlying22 hi hz0 hz1 hz2 rfl (by decide) ao n n xs hs (fun e => ⟨h0 e, h0 e⟩) (by omega) hcell ad m c news hx (by omega) hc h1c (by omega) hmax (by omega)
      (fun v' w' h1 h2 => hK v' w' (ownsRow_base h1 hB) (below_grown h2 hB (fun k hk => by cases hk)))

/-- The k lowest decimal digits of u, the highest of them first, as character codes. -/
def frac : Nat → Nat → List Int
  | 0, _ => []
  | k + 1, u => (48 + ((u / 10 ^ k % 10 : Nat) : Int)) :: frac k u

theorem frac_length (k u : Nat) : (frac k u).length = k := by
  induction k with
  | zero => rfl
  | succ k ih => simp [frac, ih]

/-- The buffer of 61 bytes holds, from place a on, the text t. -/
def BufAt (cur : Array Value) (a : Nat) (t : List Int) : Prop := cur.size = 61 ∧ a ≤ 61 ∧ cur.toList.drop a = U t

theorem BufAt.len {cur : Array Value} {a : Nat} {t : List Int} (h : BufAt cur a t) : t.length = 61 - a := by
  have := congrArg List.length h.2.2
  simp [U, h.1] at this
  omega

theorem BufAt.step {cur : Array Value} {a : Nat} {t : List Int} (h : BufAt cur (a + 1) t) (x : Int) : BufAt (cur.setIfInBounds a (.int .u8 x)) a (x :: t) := by
  obtain ⟨h1, h2, h3⟩ := h
  refine ⟨by simpa using h1, by omega, ?_⟩
  rw [Array.toList_setIfInBounds]
  have hl : a < (cur.toList.set a (Value.int .u8 x)).length := by simp; omega
  rw [List.drop_eq_getElem_cons hl]
  simp only [List.getElem_set_self, U, List.map_cons]
  rw [List.drop_set_of_lt (by omega)]
  rw [h3]; rfl

theorem BufAt.cell {cur : Array Value} {a : Nat} {t : List Int} (h : BufAt cur a t) (j : Nat) (hj : j < a) : ∃ x, cur[j]? = some x :=
  ⟨cur[j]'(by have := h.1; have := h.2.1; omega), by simp⟩

theorem BufAt.step' {cur : Array Value} {a : Nat} {t : List Int} (h : BufAt cur a t) (h0 : 0 < a) (x : Int) : BufAt (cur.setIfInBounds (a - 1) (.int .u8 x)) (a - 1) (x :: t) := by
  have e : a = (a - 1) + 1 := by omega
  rw [e] at h
  simpa using h.step x

theorem BufAt.cells {cur : Array Value} {a : Nat} {t : List Int} (h : BufAt cur a t) (w : World) (ty : TypeId) : ∀ j u, (U t)[j]? = some u → (w.alloc (.cells cur ty)).cell? ((⟨w.heap.size, a, none⟩ : Addr).add j) = some u := by
  intro j u hu
  rw [Addr.add_lit, cell_of_row _ w.heap.size (a + j) cur ty (0, 0) (heap_alloc_new w _)]
  rw [← h.2.2, List.getElem?_drop] at hu
  simpa using hu

theorem frac_step (M k q : Nat) (h : q = M / 10 ^ k) : frac (k + 1) M = (48 + (q : Int) % 10) :: frac k M := by
  subst h
  simp [frac]

theorem div_step (M k q : Nat) (h : q = M / 10 ^ k) : q / 10 = M / 10 ^ (k + 1) := by
  subst h
  rw [Nat.div_div_eq_div_mul, Nat.pow_succ]

theorem few_digits (M k : Nat) (h : M ≤ 18446744073709551615) (h0 : M / 10 ^ k ≠ 0) : k ≤ 19 := by
  rcases Nat.lt_or_ge 19 k with hk | hk
  · exfalso
    apply h0
    apply Nat.div_eq_of_lt
    have : 10 ^ 20 ≤ 10 ^ k := Nat.pow_le_pow_right (by omega) hk
    have : (10 : Nat) ^ 20 = 100000000000000000000 := by decide
    omega
  · exact hk

theorem slice_buf (g l : Nat) (L : Int) (hL : L = l) (hl : l < 61) (w : World) :
    (Instr.sliceAt 36 (.pointer (some ⟨g, 0, none⟩)) (some (.int .i64 L)) none none).run Try.prog w = .ok (.slice (some ⟨g, l, none⟩) (61 - l) (61 - l)) w := by
  have ha : Try.prog.arrayLen 36 = 61 := by kernel_rfl
  have he : Try.prog.elem 36 = 5 := by kernel_rfl
  obtain ⟨i0, hi, hz0, hz1, hz2⟩ := info_parts info5
  have h := run_sliceAt_array_l (P := Try.prog) w 36 ⟨g, 0, none⟩ (by rw [ha, he]; exact Try.underlying36) .i64 L (by omega) (by rw [ha]; omega)
  rw [h, ha, he]
  subst hL
  simp [sizeOf, typeInfo, hi, hz1, slicedAt, Result.andThen, Addr.add_lit]
  omega

theorem hide {p : Prop} (h : p) : Hid p := h

end Go.Proofs.Qxb6604305a.Au
