import Derived.Test.Qxb6602676aLaws
namespace Go.Proofs.Qxb6602676a.Sc
open Go.RowKit

/-- A slice that came in: nil and empty, or its bytes are known. -/
def At (w : World) (x : Addr) (Z : List Int) : Prop := ∀ (j : Nat) (c : Int), Z[j]? = some c → ∃ b off, x = ⟨b, off, none⟩ ∧ b < w.heap.size ∧ w.cell? ⟨b, off + j, none⟩ = some (.int .u8 c)
def Came (w : World) (a0 : Option Addr) (N : Nat) (Z : List Int) : Prop := (a0 = none ∧ N = 0 ∧ Z = []) ∨ ∃ x, a0 = some x ∧ At w x Z

theorem store_take {L Z : List Int} {k : Nat} {c : Int} (h : L.take k = Z.take k) (hl : L.length = Z.length) (hk : Z[k]? = some c) : (L.set k c).take (k + 1) = Z.take (k + 1) := by
  have hlt : k < Z.length := (List.getElem?_eq_some_iff.1 hk).1
  rw [List.take_add_one, List.take_add_one, hk, List.take_set_of_le (Nat.le_refl _), h]
  congr 1
  rw [List.getElem?_set_self (by omega)]

theorem U_set (L : List Int) (k : Nat) (c : Int) : U (L.set k c) = (U L).set k (.int .u8 c) := by simp [U, List.map_set]

theorem clone_nil (len cap : Nat) (w : World) : Calls Try.prog 6 #[.slice none len cap] w fun e w' => e = .returned (.slice none 0 0) ∧ w = w' := by
  have hnil := fun wx => Lib.run_eql_slice_nil (P := Try.prog) wx 22 5 none len cap 0 0 Try.underlying22
  go_enter Try.func6, Try.ntmps6
  go_wp2
  go_ret
  exact ⟨rfl, rfl⟩

theorem room_nil (len cap : Nat) (w : World) : Calls Try.prog 9 #[.slice none len cap] w fun e w' => e = .returned (.slice none 0 0) ∧ w = w' := by
  have hnil := fun wx => Lib.run_eql_slice_nil (P := Try.prog) wx 22 5 none len cap 0 0 Try.underlying22
  go_enter Try.func9, Try.ntmps9
  go_wp2
  go_ret
  exact ⟨rfl, rfl⟩

set_option maxRecDepth 100000 in
set_option maxHeartbeats 1000000 in
theorem clone_some (x : Addr) (N cap : Nat) (Z : List Int) (w : World) (hZ : Z.length = N) (hN : N ≤ 1048576) (hc : At w x Z) :
    Calls Try.prog 6 #[.slice (some x) N cap] w fun e w' => ∃ v', e = .returned v' ∧ w'.ownsRow w.heap.size 5 1 v' N (U Z) ∧ Below w.heap.size w w' := by
  have hnil := fun wx => Lib.run_eql_slice_nil (P := Try.prog) wx 22 5 (some x) N cap 0 0 Try.underlying22
  go_enter Try.func6, Try.ntmps6
  go_wp2_with (at_make; refine wpList_make_room rfl _ _ rfl (N : Int) (N : Int) N N rfl rfl rfl rfl (Nat.le_refl _) (by omega) ?_)
  intro w1 hO1 hg1
  have hB1 : Below w.heap.size w w1 := below_grown hg1 (Nat.le_refl _) (fun k hk => by cases hk)
  have HZ := hide hZ
  have HC := hide hc
  clear hnil hg1 hZ hc
  go_wp2_with fail
  go_loopw [4] (fun iv wr => ∃ (k : Nat) (L : List Int), k ≤ N ∧ iv = .int .i64 k ∧ wr.ownsRow w.heap.size 5 1 (.slice (some ⟨w.heap.size, 0, none⟩) N N) N (U L) ∧ Hid (L.length = N ∧ L.take k = Z.take k) ∧ Below w.heap.size w wr) (fun iv _ => N - (intOf iv).toNat)
  case atStart => exact ⟨0, List.replicate N 0, by omega, rfl, hO1, ⟨by simp, by simp⟩, hB1⟩
  case round =>
    clear hO1 hB1
    obtain ⟨k, L, hk, rfl, hO, HL, hB⟩ := hrel
    by_cases hlt : k < N
    · obtain ⟨c, hcz⟩ : ∃ c, Z[k]? = some c := ⟨Z[k]'(by rw [HZ.out]; exact hlt), by simp⟩
      obtain ⟨b, off, rfl, hb, hcw⟩ := HC.out k c hcz
      have hcell : wr.cell? ⟨b, off + k, none⟩ = some (.int .u8 c) := (hB.cell (p := ⟨b, off + k, none⟩) hb).trans hcw
      obtain ⟨old, hold⟩ : ∃ old, wr.cell? ⟨w.heap.size, k, none⟩ = some old := ⟨_, (hO.cellAt k (by omega)).trans (List.getElem?_eq_getElem (by rw [U_length, HL.out.1]; exact hlt))⟩
      have hfrz := hO.frozenAt k
      have hst := hO.stored k (.int .u8 c)
      have HS := hide hst
      have Hcz := hide hcz
      clear hst hcz hcw
      go_wp2
      go_roundw
      case rel =>
        exact ⟨k + 1, L.set k c, by omega, by go_num, by rw [U_set]; exact HS.out.1, ⟨by rw [List.length_set]; exact HL.out.1, store_take HL.out.2 (by rw [HL.out.1, HZ.out]) Hcz.out⟩, hB.setCell (Nat.le_refl _) _⟩
      case measure => simp [intOf]; omega
    · go_wp2
      go_ret
      have e : L = Z := by
        have h1 := HL.out.2
        rw [List.take_of_length_le (by rw [HL.out.1]; omega), List.take_of_length_le (by rw [HZ.out]; omega)] at h1
        exact h1
      rw [← e]
      exact ⟨_, rfl, hO, hB⟩

set_option maxRecDepth 100000 in
set_option maxHeartbeats 1000000 in
theorem room_some (x : Addr) (N cap : Nat) (Z : List Int) (w : World) (hZ : Z.length = N) (hN : N ≤ 1048576) (hc : At w x Z) :
    Calls Try.prog 9 #[.slice (some x) N cap] w fun e w' => ∃ v', e = .returned v' ∧ w'.ownsRow w.heap.size 5 1 v' N (U Z) ∧ Below w.heap.size w w' := by
  have hnil := fun wx => Lib.run_eql_slice_nil (P := Try.prog) wx 22 5 (some x) N cap 0 0 Try.underlying22
  go_enter Try.func9, Try.ntmps9
  go_wp2_with (at_make; refine wpList_make_room rfl _ _ rfl (N : Int) ((N : Int) + 64) N (N + 64) rfl rfl rfl (by omega) (by omega) (by omega) ?_)
  intro w1 hO1 hg1
  have hB1 : Below w.heap.size w w1 := below_grown hg1 (Nat.le_refl _) (fun k hk => by cases hk)
  have HZ := hide hZ
  have HC := hide hc
  clear hnil hg1 hZ hc
  go_wp2_with fail
  go_loopw [4] (fun iv wr => ∃ (k : Nat) (L : List Int), k ≤ N ∧ iv = .int .i64 k ∧ wr.ownsRow w.heap.size 5 1 (.slice (some ⟨w.heap.size, 0, none⟩) N (N + 64)) N (U L) ∧ Hid (L.length = N ∧ L.take k = Z.take k) ∧ Below w.heap.size w wr) (fun iv _ => N - (intOf iv).toNat)
  case atStart => exact ⟨0, List.replicate N 0, by omega, rfl, hO1, ⟨by simp, by simp⟩, hB1⟩
  case round =>
    clear hO1 hB1
    obtain ⟨k, L, hk, rfl, hO, HL, hB⟩ := hrel
    by_cases hlt : k < N
    · obtain ⟨c, hcz⟩ : ∃ c, Z[k]? = some c := ⟨Z[k]'(by rw [HZ.out]; exact hlt), by simp⟩
      obtain ⟨b, off, rfl, hb, hcw⟩ := HC.out k c hcz
      have hcell : wr.cell? ⟨b, off + k, none⟩ = some (.int .u8 c) := (hB.cell (p := ⟨b, off + k, none⟩) hb).trans hcw
      obtain ⟨old, hold⟩ : ∃ old, wr.cell? ⟨w.heap.size, k, none⟩ = some old := ⟨_, (hO.cellAt k (by omega)).trans (List.getElem?_eq_getElem (by rw [U_length, HL.out.1]; exact hlt))⟩
      have hfrz := hO.frozenAt k
      have hst := hO.stored k (.int .u8 c)
      have HS := hide hst
      have Hcz := hide hcz
      clear hst hcz hcw
      go_wp2
      go_roundw
      case rel =>
        exact ⟨k + 1, L.set k c, by omega, by go_num, by rw [U_set]; exact HS.out.1, ⟨by rw [List.length_set]; exact HL.out.1, store_take HL.out.2 (by rw [HL.out.1, HZ.out]) Hcz.out⟩, hB.setCell (Nat.le_refl _) _⟩
      case measure => simp [intOf]; omega
    · go_wp2
      go_ret
      have e : L = Z := by
        have h1 := HL.out.2
        rw [List.take_of_length_le (by rw [HL.out.1]; omega), List.take_of_length_le (by rw [HZ.out]; omega)] at h1
        exact h1
      rw [← e]
      exact ⟨_, rfl, hO, hB⟩

theorem clone_any (a0 : Option Addr) (N cap : Nat) (Z : List Int) (w : World) (hZ : Z.length = N) (hN : N ≤ 1048576) (hc : Came w a0 N Z) :
    Calls Try.prog 6 #[.slice a0 N cap] w fun e w' => ∃ v', e = .returned v' ∧ w'.ownsRow w.heap.size 5 1 v' N (U Z) ∧ Below w.heap.size w w' := by
  rcases hc with ⟨rfl, rfl, rfl⟩ | ⟨x, rfl, hc⟩
  · refine (clone_nil 0 cap w).mono ?_
    rintro e w' ⟨rfl, rfl⟩
    exact ⟨_, rfl, World.ownsRow_nil _ _ _ _, Below.refl _ _⟩
  · exact clone_some x N cap Z w hZ hN hc

theorem room_any (a0 : Option Addr) (N cap : Nat) (Z : List Int) (w : World) (hZ : Z.length = N) (hN : N ≤ 1048576) (hc : Came w a0 N Z) :
    Calls Try.prog 9 #[.slice a0 N cap] w fun e w' => ∃ v', e = .returned v' ∧ w'.ownsRow w.heap.size 5 1 v' N (U Z) ∧ Below w.heap.size w w' := by
  rcases hc with ⟨rfl, rfl, rfl⟩ | ⟨x, rfl, hc⟩
  · refine (room_nil 0 cap w).mono ?_
    rintro e w' ⟨rfl, rfl⟩
    exact ⟨_, rfl, World.ownsRow_nil _ _ _ _, Below.refl _ _⟩
  · exact room_some x N cap Z w hZ hN hc

/-- Bytes that the call itself has laid, as a slice that comes in. -/
theorem Bytes.came {w : World} {ao : Option Addr} {N : Nat} {Z : List Int} (h : Bytes w.heap.size w ao Z) (hZ : Z.length = N) : Came w ao N Z := by
  rcases h with ⟨h1, h2⟩ | ⟨g, h1, h2, h3⟩
  · exact .inl ⟨h1, by rw [← hZ, h2]; rfl, h2⟩
  · exact .inr ⟨_, h1, fun j c hj => ⟨g, 0, rfl, h2, by rw [Nat.zero_add]; exact h3 j c hj⟩⟩

end Go.Proofs.Qxb6602676a.Sc
