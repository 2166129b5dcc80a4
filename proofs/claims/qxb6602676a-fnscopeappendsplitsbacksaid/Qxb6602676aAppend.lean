import Derived.Test.Qxb6602676aLaws
namespace Go.Proofs.Qxb6602676a.Sc
open Go.RowKit

/-- The last element of every scope. -/
def term : ByteArray := ⟨#[97, 119, 115, 52, 95, 114, 101, 113, 117, 101, 115, 116]⟩

/-- What is appended. -/
def scope (d r s : ByteArray) : List Int := bs d ++ (47 :: (bs r ++ (47 :: (bs s ++ (47 :: bs term)))))

/-- What has been appended when k of the parts are done. -/
def upto (d r s : ByteArray) : Nat → List Int
  | 0 => []
  | 1 => bs d ++ [47]
  | 2 => bs d ++ (47 :: (bs r ++ [47]))
  | _ => bs d ++ (47 :: (bs r ++ (47 :: (bs s ++ [47]))))

theorem block_kept {w w' : World} {row : Option Nat} {k : Nat} {o : Obj} (h : w.heap[k]? = some o) (hg : w.grownBy w' row) (hne : some k ≠ row) : w'.heap[k]? = some o :=
  (hg.block k (Array.getElem?_eq_some_iff.1 h).1 hne).trans h

/-- A row of bytes is no row of strings. -/
theorem not_own {w : World} {B k : Nat} {v : Value} {n : Nat} {xs : List Value} {c : Array Value} (h : w.ownsRow B 5 1 v n xs) (hk : w.heap[k]? = some (.cells c 9 (0, 0))) : some k ≠ v.ownBlock := by
  intro e
  rcases h.2 with ⟨rfl, _⟩ | ⟨g, cap, cur, rfl, _, hg, _⟩
  · cases e
  · simp only [Value.ownBlock, Option.some.injEq] at e
    subst e
    rw [hg] at hk
    simp at hk

/-- 'b = append(b, s...)', b the call's own. -/
theorem wpList_str {w : World} {ops : Array Oper} {rest : List Oper} {o : Oper} {a : Act} {Q : Exit → Act → World → Prop} (hgd : o.guard = none) (sl x : Operand)
    (ho : o.op = .call { callee := .builtin .append, args := #[sl, x], argTypes := #[22, 9] }) (B : Nat) (v : Value) (n : Nat) (t : List Int) (hs : a.eval sl = v) (hown : w.ownsRow B 5 1 v n (U t)) (s : ByteArray) (hx : a.eval x = .string s)
    (hn : n + s.size ≤ 140737488355328) (hB : B ≤ w.heap.size)
    (h : ∀ v' w', w'.ownsRow B 5 1 v' (n + s.size) (U (t ++ bs s)) → w.grownBy w' v.ownBlock → Below B w w' → wpList Try.prog ops Q rest (a.put o.dst v') w') : wpList Try.prog ops Q (o :: rest) a w := by
  obtain ⟨i0, hi, hz0, hz1, hz2⟩ := info_parts info5
  refine Lib.wpList_append_own_string (P := Try.prog) w hgd sl x 22 9 ho B 5 i0 Try.underlying22 Try.underlying9 hi hz0 hz1 hz2 v n (U t) hs hown s hx (by unfold maxLen; omega) hn hB ?_
  intro v' w' h1 h2 _
  rw [strCells_eq, ← U_append] at h1
  exact h v' w' h1 h2 (below_grown h2 hB (fun k hk => (hown.lt k hk).1))

/-- 'b = append(b, c)', b the call's own. -/
theorem wpList_byte {w : World} {ops : Array Oper} {rest : List Oper} {o : Oper} {a : Act} {Q : Exit → Act → World → Prop} (hgd : o.guard = none) (sl x : Operand)
    (ho : o.op = .call { callee := .builtin .append, args := #[sl, x], argTypes := #[22, 22] }) (B : Nat) (v : Value) (n : Nat) (t : List Int) (c : Int) (hs : a.eval sl = v) (hown : w.ownsRow B 5 1 v n (U t)) (hx : a.eval x = .slice (some ⟨w.heap.size, 0, none⟩) 1 1)
    (hn : n + 1 ≤ 140737488355328) (hB : B ≤ w.heap.size)
    (h : ∀ v' w', w'.ownsRow B 5 1 v' (n + 1) (U (t ++ [c])) → w.grownBy w' v.ownBlock → Below B w w' → wpList Try.prog ops Q rest (a.put o.dst v') w') : wpList Try.prog ops Q (o :: rest) a (w.alloc (.cells #[.int .u8 c] 5)) := by
  obtain ⟨i0, hi, hz0, hz1, hz2⟩ := info_parts info5
  refine wpList_append_own (P := Try.prog) _ hgd sl x 22 ho B 5 i0 (.int .u8 0) 1 1 Try.underlying22 hi hz0 hz1 hz2 rfl (by decide) v n (U t) hs (hown.alloc _) ⟨w.heap.size, 0, none⟩ 1 1 [.int .u8 c] hx rfl (cell_one_new _ _ _) (by simp [Value.oneCell']) (by unfold maxLen; omega) (by omega) (by simp; omega) ?_
  intro v' w' h1 h2 _
  have e : U t ++ [.int .u8 c] = U (t ++ [c]) := by simp [U]
  rw [e] at h1
  have h3 : w.grownBy w' v.ownBlock := ⟨h2.os, h2.tape, h2.output, Nat.le_trans (by simp) h2.size, fun k hk hne => (h2.block k (by simp; omega) hne).trans (Below.heap_alloc w _ k hk)⟩
  exact h v' w' h1 h3 (below_grown h3 hB (fun k hk => (hown.lt k hk).1))

set_option maxRecDepth 100000 in
set_option maxHeartbeats 1000000 in
theorem append_any (B : Nat) (d r s : ByteArray) (v : Value) (N : Nat) (Z : List Int) (w : World) (hB : B ≤ w.heap.size) (hv : w.ownsRow B 5 1 v N (U Z)) (hd : d.size ≤ 1048576) (hr : r.size ≤ 1048576) (hs : s.size ≤ 1048576) (hN : N ≤ 1048576) (hZ : Z.length = N) :
    Calls Try.prog 10 #[.agg #[.string d, .string r, .string s], v] w fun e w' => ∃ v', e = .returned v' ∧ w'.ownsRow B 5 1 v' (N + (scope d r s).length) (U (Z ++ scope d r s)) ∧ Below B w w' := by
  go_enter Try.func10, Try.ntmps10
  go_wp2_with fail
  go_loopw [1, 15] (fun bv iv wr => ∃ k n : Nat, k ≤ 3 ∧ iv = .int .i64 k ∧ n ≤ 1048576 + k * 1048577 ∧ wr.ownsRow B 5 1 bv n (U (Z ++ upto d r s k)) ∧ wr.heap[w.heap.size + 1]? = some (.cells #[.string d, .string r, .string s] 9 (0, 0)) ∧ Below B w wr) (fun _ iv _ => 3 - (intOf iv).toNat)
  case atStart =>
    refine ⟨0, N, by omega, rfl, by omega, ?_, ?_, ?_⟩
    · rw [upto, List.append_nil]; exact (hv.alloc _).alloc _
    · have := heap_alloc_new (w.alloc (Obj.cells #[Value.string d, Value.string r, Value.string s] 29)) (.cells #[.string d, .string r, .string s] 9 (0, 0))
      simpa using this
    · exact ((Below.refl B w).alloc hB _).alloc (by simp; omega) _
  case round =>
    clear hv
    obtain ⟨k, n, hk, rfl, hn, hO, hP, hB1⟩ := hrel
    have hBs : B ≤ wr.heap.size := Nat.le_trans hB hB1.size
    have HP := hide hP
    have c0 : wr.cell? ⟨w.heap.size + 1, 0, none⟩ = some (.string d) := by rw [cell_of_row wr _ 0 _ 9 (0, 0) hP]; rfl
    have c1 : wr.cell? ⟨w.heap.size + 1, 1, none⟩ = some (.string r) := by rw [cell_of_row wr _ 1 _ 9 (0, 0) hP]; rfl
    have c2 : wr.cell? ⟨w.heap.size + 1, 2, none⟩ = some (.string s) := by rw [cell_of_row wr _ 2 _ 9 (0, 0) hP]; rfl
    clear hP
    obtain rfl | rfl | rfl | rfl : k = 0 ∨ k = 1 ∨ k = 2 ∨ k = 3 := by omega
    · go_wp2_with (at_builtin; refine wpList_str rfl (.tmp 19) (.tmp 20) rfl B _ n _ rfl hO d rfl (by omega) hBs ?_)
      intro v1 w1 hO1 hg1 hB2
      have hP1 := block_kept HP.out hg1 (not_own hO HP.out)
      have HP1 := hide hP1
      have hBs1 : B ≤ w1.heap.size := Nat.le_trans hBs hB2.size
      clear hP1 hg1 c0 c1 c2
      go_wp2_with (at_builtin; refine wpList_byte rfl (.tmp 21) (.tmp 22) rfl B v1 (n + d.size) _ 47 rfl hO1 rfl (by omega) hBs1 ?_)
      intro v2 w2 hO2 hg2 hB3
      have hP2 := block_kept HP1.out hg2 (not_own hO1 HP1.out)
      have HP2 := hide hP2
      clear hP2 hg2
      go_wp2
      go_roundw
      case rel => exact ⟨1, n + d.size + 1, by omega, rfl, by omega, by simpa [upto] using hO2, HP2.out, (hB1.trans hB2).trans hB3⟩
      case measure => simp [intOf]
    · go_wp2_with (at_builtin; refine wpList_str rfl (.tmp 19) (.tmp 20) rfl B _ n _ rfl hO r rfl (by omega) hBs ?_)
      intro v1 w1 hO1 hg1 hB2
      have hP1 := block_kept HP.out hg1 (not_own hO HP.out)
      have HP1 := hide hP1
      have hBs1 : B ≤ w1.heap.size := Nat.le_trans hBs hB2.size
      clear hP1 hg1 c0 c1 c2
      go_wp2_with (at_builtin; refine wpList_byte rfl (.tmp 21) (.tmp 22) rfl B v1 (n + r.size) _ 47 rfl hO1 rfl (by omega) hBs1 ?_)
      intro v2 w2 hO2 hg2 hB3
      have hP2 := block_kept HP1.out hg2 (not_own hO1 HP1.out)
      have HP2 := hide hP2
      clear hP2 hg2
      go_wp2
      go_roundw
      case rel => exact ⟨2, n + r.size + 1, by omega, rfl, by omega, by simpa [upto] using hO2, HP2.out, (hB1.trans hB2).trans hB3⟩
      case measure => simp [intOf]
    · go_wp2_with (at_builtin; refine wpList_str rfl (.tmp 19) (.tmp 20) rfl B _ n _ rfl hO s rfl (by omega) hBs ?_)
      intro v1 w1 hO1 hg1 hB2
      have hP1 := block_kept HP.out hg1 (not_own hO HP.out)
      have HP1 := hide hP1
      have hBs1 : B ≤ w1.heap.size := Nat.le_trans hBs hB2.size
      clear hP1 hg1 c0 c1 c2
      go_wp2_with (at_builtin; refine wpList_byte rfl (.tmp 21) (.tmp 22) rfl B v1 (n + s.size) _ 47 rfl hO1 rfl (by omega) hBs1 ?_)
      intro v2 w2 hO2 hg2 hB3
      have hP2 := block_kept HP1.out hg2 (not_own hO1 HP1.out)
      have HP2 := hide hP2
      clear hP2 hg2
      go_wp2
      go_roundw
      case rel => exact ⟨3, n + s.size + 1, by omega, rfl, by omega, by simpa [upto] using hO2, HP2.out, (hB1.trans hB2).trans hB3⟩
      case measure => simp [intOf]
    · clear c0 c1 c2
      go_wp2_with (at_builtin; refine wpList_str rfl (.tmp 25) _ rfl B _ n _ rfl hO term rfl (by have : term.size = 12 := rfl; omega) hBs ?_)
      intro v1 w1 hO1 hg1 hB2
      clear hg1
      go_wp2
      go_ret
      have e : Z ++ (upto d r s 3 ++ bs term) = Z ++ scope d r s := by simp [upto, scope]
      rw [e] at hO1
      have el : n + term.size = N + (scope d r s).length := by
        have h1 := hO1.1
        rw [U_length, List.length_append, hZ, Nat.mul_one] at h1
        exact h1.symm
      rw [el] at hO1
      exact ⟨v1, rfl, hO1, hB1.trans hB2⟩

set_option maxHeartbeats 400000 in
theorem zz_any (B : Nat) (d r s : ByteArray) (v : Value) (N : Nat) (Z : List Int) (w : World) (hB : B ≤ w.heap.size) (hv : w.ownsRow B 5 1 v N (U Z)) (hd : d.size ≤ 1048576) (hr : r.size ≤ 1048576) (hs : s.size ≤ 1048576) (hN : N ≤ 1048576) (hZ : Z.length = N) :
    Calls Try.prog 7 #[.string d, .string r, .string s, v] w fun e w' => ∃ v', e = .returned v' ∧ w'.ownsRow B 5 1 v' (N + (scope d r s).length) (U (Z ++ scope d r s)) ∧ Below B w w' := by
  go_enter Try.func7, Try.ntmps7
  go_wp2_with fail
  refine (append_any B d r s v N Z _ hB hv hd hr hs hN hZ).mono ?_
  rintro e w' ⟨v', rfl, hO, hb⟩
  go_wp2
  go_ret
  exact ⟨v', rfl, hO, hb⟩

end Go.Proofs.Qxb6602676a.Sc
