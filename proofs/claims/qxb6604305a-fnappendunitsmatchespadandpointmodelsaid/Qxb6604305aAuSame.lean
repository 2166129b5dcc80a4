import Derived.Test.Qxb6604305aOwn
import Derived.Deep.QuietTactic
import Derived.BigQuiet
namespace Go.Proofs.Qxb6604305a.Au
open Go.RowKit

set_option maxRecDepth 100000 in
set_option maxHeartbeats 1000000 in
theorem same_any (X : List Int) (L g1 c1 g2 c2 : Nat) (w : World) (hL : X.length = L) (hm : L ≤ 1048700)
    (h1 : ∀ (j : Nat) (c : Int), X[j]? = some c → w.cell? ⟨g1, j, none⟩ = some (.int .u8 c)) (h2 : ∀ (j : Nat) (c : Int), X[j]? = some c → w.cell? ⟨g2, j, none⟩ = some (.int .u8 c)) :
    Calls Try.prog 12 #[.slice (some ⟨g1, 0, none⟩) L c1, .slice (some ⟨g2, 0, none⟩) L c2] w fun e w' => e = .returned (.bool true) ∧ ∃ nq, w' = w.drewN nq := by
  have HL := hide hL
  have H1 := hide h1
  have H2 := hide h2
  clear hL h1 h2
  go_enter Try.func12, Try.ntmps12
  go_wp2_with fail
  go_loopw [5] (fun iv wr => ∃ k nq : Nat, k ≤ L ∧ iv = .int .i64 k ∧ wr = w.drewN nq) (fun iv _ => L - (intOf iv).toNat)
  case atStart => exact ⟨0, 0, by omega, rfl, rfl⟩
  case round =>
    obtain ⟨k, nq, hk, rfl, rfl⟩ := hrel
    by_cases hlt : k < L
    · obtain ⟨c, hc⟩ : ∃ c, X[k]? = some c := ⟨X[k]'(by rw [HL.out]; exact hlt), by simp⟩
      have e1 := H1.out k c hc
      have e2 := H2.out k c hc
      clear hc
      have hk1 : (k : Int) < (L : Int) := by omega
      have hk0 : (0 : Int) ≤ (k : Int) := by omega
      go_wp2
      go_quiet (fail)
      go_wp2
      go_roundw
      case rel => exact ⟨k + 1, _, by omega, by go_num, rfl⟩
      case measure => simp [intOf]; omega
    · go_wp2
      go_ret
      exact ⟨rfl, nq, rfl⟩

end Go.Proofs.Qxb6604305a.Au
