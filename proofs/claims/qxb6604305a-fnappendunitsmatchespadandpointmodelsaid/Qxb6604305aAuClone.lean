import Derived.Test.Qxb6604305aOwn
namespace Go.Proofs.Qxb6604305a.Au
open Go.RowKit

theorem bytes_any (a0 : Option Addr) (len cap : Nat) (units places : Int) (w : World) (hl : len ≤ 9223372036854775807) :
    Calls Try.prog 8 #[.slice a0 len cap, .int .i64 units, .int .i32 places] w fun e w' => e = .returned (.bool (decide (len ≤ 1048576))) ∧ w = w' := by
  by_cases h : len ≤ 1048576
  · have h' : ¬ ((1048576 : Int) < (len : Int)) := by omega
    rw [decide_eq_true h]
    go_enter Try.func8, Try.ntmps8
    go_wp2
    go_ret
    exact ⟨rfl, rfl⟩
  · have h' : ((1048576 : Int) < (len : Int)) := by omega
    rw [decide_eq_false h]
    go_enter Try.func8, Try.ntmps8
    go_wp2
    go_ret
    exact ⟨rfl, rfl⟩

theorem clone_nil (len cap : Nat) (w : World) : Calls Try.prog 9 #[.slice none len cap] w fun e w' => e = .returned (.slice none 0 0) ∧ w = w' := by
  have hnil := fun wx => Lib.run_eql_slice_nil (P := Try.prog) wx 22 5 none len cap 0 0 Try.underlying22
  go_enter Try.func9, Try.ntmps9
  go_wp2
  go_ret
  exact ⟨rfl, rfl⟩

theorem row_of {w : World} {B g n : Nat} {xs : List Value} (h : w.ownsRow B 5 1 (.slice (some ⟨g, 0, none⟩) n n) n xs) : ∃ cur : List Value, cur.length = n ∧ w.heap[g]? = some (.cells cur.toArray 5 (0, 0)) := by
  rcases h.2 with ⟨h', _⟩ | ⟨g', cap', cur, h', _, hg, _, _, hcs, _⟩
  · simp at h'
  · simp only [Value.slice.injEq, Option.some.injEq, Addr.mk.injEq, and_true, true_and] at h'
    obtain ⟨rfl, rfl⟩ := h'
    exact ⟨cur.toList, by simpa using hcs, by simpa using hg⟩

theorem own_of_row {w : World} {g n : Nat} {Z : List Int} {cur : List Value} (h : w.heap[g]? = some (.cells (splice cur 0 (U Z)).toArray 5 (0, 0))) (hZ : Z.length = n) (hc : cur.length = n) (hn : n ≤ 1048576) : Own w g n Z := by
  subst hZ
  have e : splice cur 0 (U Z) = U Z := by
    unfold splice
    rw [List.take_zero, List.nil_append, Nat.zero_add, U_length, List.drop_of_length_le (by omega), List.append_nil]
  rw [e] at h
  refine ⟨by rw [U_length, Nat.mul_one], .inr ⟨g, Z.length, (U Z).toArray, rfl, Nat.zero_le _, h, Nat.le_refl _, by unfold maxLen; omega, by simp [U], ?_⟩⟩
  exact List.take_of_length_le (by simp [U])

set_option maxHeartbeats 400000 in
theorem clone_some (x : Addr) (len cap : Nat) (Z : List Int) (w : World) (hZ : Z.length = len) (hl : len ≤ 1048576) (hc : ∀ (j : Nat) (c : Int), Z[j]? = some c → w.cell? (x.add j) = some (.int .u8 c)) :
    Calls Try.prog 9 #[.slice (some x) len cap] w fun e w' => e = .returned (.slice (some ⟨w.heap.size, 0, none⟩) len len) ∧ Own w' w.heap.size len Z ∧ Below w.heap.size w w' := by
  have hnil := fun wx => Lib.run_eql_slice_nil (P := Try.prog) wx 22 5 (some x) len cap 0 0 Try.underlying22
  obtain ⟨i0, hi, hz0, hz1, hz2⟩ := info_parts info5
  have hsz : (Try.prog.info? 5).map (·.size) = some 1 := by rw [hi]; simp [hz1]
  go_enter Try.func9, Try.ntmps9
  go_wp2_with (at_make; refine wpList_make_full _ rfl _ _ 22 rfl w.heap.size 5 i0 (.int .u8 0) 1 Try.underlying22 hi hz0 hz1 .i64 .i64 (len : Int) (len : Int) len rfl rfl rfl rfl (by rw [hz2]; omega) (by unfold maxLen; omega) (Nat.le_refl _) ?_)
  intro w1 hown1 hgr1
  have hB1 : Below w.heap.size w w1 := below_grown hgr1 (Nat.le_refl _) (fun k hk => by cases hk)
  obtain ⟨cur, hcl, hrow⟩ := row_of hown1
  have HC : Hid (∀ (j : Nat) (u : Value), (U Z)[j]? = some u → w1.cell? (x.add j) = some u) := by
    intro j u hu
    simp only [U, List.getElem?_map, Option.map_eq_some_iff] at hu
    obtain ⟨c, hj, rfl⟩ := hu
    exact hgr1.cell (hc j c hj) (by simp)
  have HR := hide hrow
  have HZ := hide hZ
  clear hown1 hgr1 hc hrow hZ hi hz0 hz1 hz2 hnil
  go_wp2_with (refine wpList_copy_splice rfl (.tmp 9) (.tmp 10) 22 22 rfl 5 Try.underlying22 hsz (some ⟨w.heap.size, 0, none⟩) (some x) len len len cap rfl rfl w.heap.size 0 cur 5 HR.out (U Z) ?c1 ?c2 ?c3 ?c4 w.heap.size w hB1 (Nat.le_refl _) ?next)
  case c1 => rw [U_length, HZ.out]; simp
  case c2 => exact fun _ => HC.out
  case c3 => rw [U_length, HZ.out, hcl]; omega
  case c4 => exact U_oneCell _
  intro w2 HG2 hB2
  clear HR HC hB1
  go_wp2
  go_ret
  exact ⟨rfl, own_of_row HG2.out HZ.out hcl hl, hB2⟩

end Go.Proofs.Qxb6604305a.Au
