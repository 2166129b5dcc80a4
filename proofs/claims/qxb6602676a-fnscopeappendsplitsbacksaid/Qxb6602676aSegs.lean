import Derived.Test.Qxb6602676aLaws
namespace Go.Proofs.Qxb6602676a.Sc
open Go.RowKit

set_option maxRecDepth 100000 in
set_option maxHeartbeats 1000000 in
/-- out begins with the bytes Z of the slice that is handed in. -/
theorem bytesAt_any (B g L co N cp : Nat) (ap : Option Addr) (X Z : List Int) (w : World) (hL : L ≤ 6000000) (hNL : N ≤ L) (hZ : Z.length = N) (hX : ∀ (j : Nat) (c : Int), X[j]? = some c → w.cell? ⟨g, j, none⟩ = some (.int .u8 c)) (hp : Bytes B w ap Z)
    (hXZ : ∀ (j : Nat) (c : Int), Z[j]? = some c → X[j]? = some c) :
    Calls Try.prog 11 #[.slice (some ⟨g, 0, none⟩) L co, .int .i64 0, .slice ap N cp] w fun e w' => e = .returned (.bool true) ∧ ∃ nq, w' = w.drewN nq := by
  have HZ := hide hZ
  have HX := hide hX
  have HP := hide hp
  have HXZ := hide hXZ
  have hN1 : ¬ ((L : Int) < (N : Int)) := by omega
  have hL0 : ¬ ((L : Int) < 0) := by omega
  clear hZ hX hp hXZ
  go_enter Try.func11, Try.ntmps11
  go_wp2_with fail
  go_loopw [7] (fun iv wr => ∃ k nq : Nat, k ≤ N ∧ iv = .int .i64 k ∧ wr = w.drewN nq) (fun iv _ => N - (intOf iv).toNat)
  case atStart => exact ⟨0, 0, by omega, rfl, rfl⟩
  case round =>
    obtain ⟨k, nq, hk, rfl, rfl⟩ := hrel
    by_cases hlt : k < N
    · obtain ⟨c, hc⟩ : ∃ c, Z[k]? = some c := ⟨Z[k]'(by rw [HZ.out]; exact hlt), by simp⟩
      obtain ⟨g2, rfl, e2⟩ := HP.out.at hc
      have e1 := HX.out k c (HXZ.out k c hc)
      clear hc
      have hk1 : (k : Int) < (L : Int) := by omega
      have hk2 : (k : Int) < (N : Int) := by omega
      have hk0 : (0 : Int) ≤ (k : Int) := by omega
      go_wp2
      go_quiet (fail)
      go_wp2
      go_roundw
      case rel => exact ⟨k + 1, _, by omega, by go_num, rfl⟩
      case measure => simp [intOf]; omega
    · go_wp2
      go_ret
      exact ⟨rfl, nq, rfl⟩

set_option maxRecDepth 100000 in
set_option maxHeartbeats 1000000 in
/-- out holds the string's bytes from place f on. -/
theorem strAt_any (g L co f : Nat) (s : ByteArray) (X : List Int) (w : World) (hL : L ≤ 6000000) (hf : f + s.size ≤ L) (hX : ∀ (j : Nat) (c : Int), X[j]? = some c → w.cell? ⟨g, j, none⟩ = some (.int .u8 c)) (hXS : ∀ (j : Nat) (c : Int), (bs s)[j]? = some c → X[f + j]? = some c) :
    Calls Try.prog 13 #[.slice (some ⟨g, 0, none⟩) L co, .int .i64 f, .string s] w fun e w' => e = .returned (.bool true) ∧ ∃ nq, w' = w.drewN nq := by
  have HX := hide hX
  have HXS := hide hXS
  have hN0 : decide ((f : Int) < 0) = false := by simp
  have hN1 : decide ((L : Int) < (f : Int)) = false := by simp; omega
  have hN2 : decide ((L : Int) - (f : Int) < (s.size : Int)) = false := by simp; omega
  clear hX hXS
  go_enter Try.func13, Try.ntmps13
  go_wp2_with fail
  go_loopw [7] (fun iv wr => ∃ k nq : Nat, k ≤ s.size ∧ iv = .int .i64 k ∧ wr = w.drewN nq) (fun iv _ => s.size - (intOf iv).toNat)
  case atStart => exact ⟨0, 0, by omega, rfl, rfl⟩
  case round =>
    obtain ⟨k, nq, hk, rfl, rfl⟩ := hrel
    by_cases hlt : k < s.size
    · have hc := bs_get s k hlt
      have e1 := HX.out _ _ (HXS.out k _ hc)
      clear hc
      have hk1 : (f : Int) + (k : Int) < (L : Int) := by omega
      have hk2 : (k : Int) < (s.size : Int) := by omega
      have hk0 : (0 : Int) ≤ (k : Int) := by omega
      have hk3 : (0 : Int) ≤ (f : Int) + (k : Int) := by omega
      go_wp2
      go_quiet (fail)
      go_wp2
      go_roundw
      case rel => exact ⟨k + 1, _, by omega, by go_num, rfl⟩
      case measure => simp [intOf]; omega
    · go_wp2
      go_ret
      exact ⟨rfl, nq, rfl⟩

set_option maxHeartbeats 400000 in
theorem segIs_any (g L co : Nat) (F T : Int) (s : ByteArray) (X : List Int) (w : World) (hL : L ≤ 6000000) (f : Nat) (hF : F = (f : Int)) (hT : T = (f : Int) + s.size) (hf : f + s.size ≤ L) (hX : ∀ (j : Nat) (c : Int), X[j]? = some c → w.cell? ⟨g, j, none⟩ = some (.int .u8 c)) (hXS : ∀ (j : Nat) (c : Int), (bs s)[j]? = some c → X[f + j]? = some c) :
    Calls Try.prog 12 #[.slice (some ⟨g, 0, none⟩) L co, .int .i64 F, .int .i64 T, .string s] w fun e w' => e = .returned (.bool true) ∧ ∃ nq, w' = w.drewN nq := by
  subst hF
  subst hT
  have hst := hide (strAt_any g L co f s X w hL hf hX hXS)
  have hN : ((f : Int) + (s.size : Int) - (f : Int) == (s.size : Int)) = true := by rw [beq_iff_eq]; omega
  have hN2 : (f : Int) + (s.size : Int) - (f : Int) = (s.size : Int) := by omega
  clear hX hXS
  go_enter Try.func12, Try.ntmps12
  go_wp2_with fail
  refine hst.out.mono ?_
  rintro e w' ⟨rfl, nq, rfl⟩
  go_wp2
  go_ret
  exact ⟨rfl, nq, rfl⟩

end Go.Proofs.Qxb6602676a.Sc
