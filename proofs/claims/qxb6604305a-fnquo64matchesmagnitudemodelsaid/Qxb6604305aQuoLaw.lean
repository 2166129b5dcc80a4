import Derived.Test.Qxb6604305aQuoGo
namespace Go.Proofs.Qxb6604305a.Quo
open Go.RowKit

theorem zz_half (num den : Int) (w : World) (hn1 : -9223372036854775808 < num) (hn2 : num ≤ 9223372036854775807) (hd1 : -9223372036854775808 < den) (hd2 : den ≤ 9223372036854775807) (h0 : den ≠ 0) :
    Calls Try.prog 17 #[.int .i64 num, .int .i64 den, .int .i64 0] w fun e w' => e = .returned (.int .i64 (qm num den true)) ∧ w = w' := by
  go_enter Try.func17, Try.ntmps17
  go_wp2_with (go_at_call 22; refine (quo_half num den _ hn1 hn2 hd1 hd2 h0).mono ?_; rintro e w' ⟨rfl, rfl⟩)
  go_ret
  exact ⟨rfl, rfl⟩

theorem zz_cut (num den : Int) (w : World) (hn1 : -9223372036854775808 < num) (hn2 : num ≤ 9223372036854775807) (hd1 : -9223372036854775808 < den) (hd2 : den ≤ 9223372036854775807) (h0 : den ≠ 0) :
    Calls Try.prog 17 #[.int .i64 num, .int .i64 den, .int .i64 1] w fun e w' => e = .returned (.int .i64 (qm num den false)) ∧ w = w' := by
  go_enter Try.func17, Try.ntmps17
  go_wp2_with (go_at_call 22; refine (quo_cut num den _ hn1 hn2 hd1 hd2 h0).mono ?_; rintro e w' ⟨rfl, rfl⟩)
  go_ret
  exact ⟨rfl, rfl⟩

set_option maxRecDepth 100000 in
set_option maxHeartbeats 1000000 in
theorem law_any (num den mode : Int) (w : World) (hn1 : -9223372036854775808 ≤ num) (hn2 : num ≤ 9223372036854775807) (hd1 : -9223372036854775808 ≤ den) (hd2 : den ≤ 9223372036854775807) :
    Calls Try.prog 7 #[.int .i64 num, .int .i64 den, .int .i64 mode] w fun e w' => e = .returned (.bool true) ∧ w = w' := by
  by_cases h0 : den = 0
  · have e0 : (den == 0) = true := by rw [beq_iff_eq]; exact h0
    clear h0
    go_enter Try.func7, Try.ntmps7
    go_wp2
    go_ret
    exact ⟨rfl, rfl⟩
  have e0 : (den == 0) = false := by rw [beq_eq_false_iff_ne]; exact h0
  by_cases h1 : num = -9223372036854775808
  · have e1 : (num == -9223372036854775808) = true := by rw [beq_iff_eq]; exact h1
    clear h1 h0
    go_enter Try.func7, Try.ntmps7
    go_wp2
    go_ret
    exact ⟨rfl, rfl⟩
  have e1 : (num == -9223372036854775808) = false := by rw [beq_eq_false_iff_ne]; exact h1
  by_cases h2 : den = -9223372036854775808
  · have e2 : (den == -9223372036854775808) = true := by rw [beq_iff_eq]; exact h2
    clear h1 h0 h2
    go_enter Try.func7, Try.ntmps7
    go_wp2
    go_ret
    exact ⟨rfl, rfl⟩
  have e2 : (den == -9223372036854775808) = false := by rw [beq_eq_false_iff_ne]; exact h2
  have n1 : -9223372036854775808 < num := by omega
  have d1 : -9223372036854775808 < den := by omega
  have H0 := hide h0
  clear h0 h1 h2
  by_cases m0 : mode = 0
  · subst m0
    go_enter Try.func7, Try.ntmps7
    go_wp2_with fail
    refine (zz_half num den _ n1 hn2 d1 hd2 H0.out).mono ?_
    rintro e w' ⟨rfl, rfl⟩
    go_wp2_with fail
    refine (model_any num den true _ n1 hn2 d1 hd2 H0.out).mono ?_
    rintro e w' ⟨rfl, rfl⟩
    go_wp2
    go_ret
    exact ⟨rfl, rfl⟩
  · by_cases m1 : mode = 1
    · subst m1
      clear m0
      go_enter Try.func7, Try.ntmps7
      go_wp2_with fail
      refine (zz_cut num den _ n1 hn2 d1 hd2 H0.out).mono ?_
      rintro e w' ⟨rfl, rfl⟩
      go_wp2_with fail
      refine (model_any num den false _ n1 hn2 d1 hd2 H0.out).mono ?_
      rintro e w' ⟨rfl, rfl⟩
      go_wp2
      go_ret
      exact ⟨rfl, rfl⟩
    · have f0 : (mode != 0) = true := by rw [bne_iff_ne]; exact m0
      have f1 : (mode != 1) = true := by rw [bne_iff_ne]; exact m1
      clear m0 m1
      go_enter Try.func7, Try.ntmps7
      go_wp2
      go_ret
      exact ⟨rfl, rfl⟩

end Go.Proofs.Qxb6604305a.Quo
