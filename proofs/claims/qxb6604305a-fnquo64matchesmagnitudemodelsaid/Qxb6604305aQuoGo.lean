import Derived.Test.Qxb6604305aQuoWalk
namespace Go.Proofs.Qxb6604305a.Quo
open Go.RowKit

/-- How far the walk is told of the quotient: q and r are Go's quotient and what it leaves; ra, b the magnitudes of r and of the divisor. -/
structure Parts (num den : Int) (half : Bool) (q r : Int) (ra b : Nat) (res : Int) : Prop where
  quo : num.tdiv den = q
  mul : q * den = num - r
  ra_eq : r.natAbs = ra
  b_eq : den.natAbs = b
  q1 : -9223372036854775807 ≤ q
  q2 : q ≤ 9223372036854775807
  r1 : -9223372036854775807 ≤ r
  r2 : r ≤ 9223372036854775807
  s1 : -9223372036854775807 ≤ num - r
  s2 : num - r ≤ 9223372036854775807
  lt : ra < b
  keep : half = false ∨ r = 0 ∨ ra + ra < b → res = q
  down : half = true → b ≤ ra + ra → (decide (num < 0) != decide (den < 0)) = true → res = q - 1 ∧ -9223372036854775806 ≤ q
  up : half = true → b ≤ ra + ra → (decide (num < 0) != decide (den < 0)) = false → res = q + 1 ∧ q ≤ 9223372036854775806

theorem parts (num den : Int) (half : Bool) (hn1 : -9223372036854775808 < num) (hn2 : num ≤ 9223372036854775807) (h0 : den ≠ 0) :
    ∃ q r ra b, Parts num den half q r ra b (qm num den half) := by
  have hf := div_facts num.natAbs den.natAbs (by omega)
  have ht := tdiv_facts num den
  have hm := tdiv_mul num den
  obtain ⟨a, ha⟩ : ∃ a, num.natAbs = a := ⟨_, rfl⟩
  obtain ⟨b, hb⟩ : ∃ b, den.natAbs = b := ⟨_, rfl⟩
  rw [ha, hb] at hf ht
  have hrle : a % b ≤ a := Nat.mod_le _ _
  have hqm : qmag a b half = if half = true ∧ b ≤ a % b + a % b then a / b + 1 else a / b := rfl
  rw [qm, ha, hb, hqm]
  generalize a / b = qn at *
  generalize a % b = rn at *
  clear hqm
  obtain ⟨q, hq⟩ : ∃ q, num.tdiv den = q := ⟨_, rfl⟩
  obtain ⟨r, hr⟩ : ∃ r, num.tmod den = r := ⟨_, rfl⟩
  rw [hq, hr] at ht hm
  have hq1 : -9223372036854775807 ≤ q ∧ q ≤ 9223372036854775807 := by rw [ht.1]; split <;> omega
  have hr1 : r.natAbs = rn ∧ (-9223372036854775807 ≤ num - r) ∧ num - r ≤ 9223372036854775807 := by rw [ht.2]; split <;> omega
  refine ⟨q, r, rn, b, hq, hm, hr1.1, hb, hq1.1, hq1.2, by omega, by omega, hr1.2.1, hr1.2.2, hf.2.1, ?_, ?_, ?_⟩
  · intro h
    have hn : ¬ (half = true ∧ b ≤ rn + rn) := by
      rintro ⟨e1, e2⟩
      rcases h with h | h | h
      · rw [h] at e1; cases e1
      · omega
      · omega
    rw [if_neg hn, ht.1]
  · intro e1 e2 e3
    have h2 := hf.2.2 e2
    have e5 : (if half = true ∧ b ≤ rn + rn then qn + 1 else qn) = qn + 1 := if_pos ⟨e1, e2⟩
    rw [e5, ht.1, if_pos e3, if_pos e3]
    omega
  · intro e1 e2 e3
    have h2 := hf.2.2 e2
    have e4 : ¬ (decide (num < 0) != decide (den < 0)) = true := by rw [e3]; simp
    have e5 : (if half = true ∧ b ≤ rn + rn then qn + 1 else qn) = qn + 1 := if_pos ⟨e1, e2⟩
    rw [e5, ht.1, if_neg e4, if_neg e4]
    omega

set_option maxRecDepth 100000 in
set_option maxHeartbeats 1000000 in
theorem quo_cut (num den : Int) (w : World) (hn1 : -9223372036854775808 < num) (hn2 : num ≤ 9223372036854775807) (hd1 : -9223372036854775808 < den) (hd2 : den ≤ 9223372036854775807) (h0 : den ≠ 0) :
    Calls Try.prog 22 #[.int .i64 num, .int .i64 den, .int .i64 1] w fun e w' => e = .returned (.int .i64 (qm num den false)) ∧ w = w' := by
  obtain ⟨q, r, ra, b, P⟩ := parts num den false hn1 hn2 h0
  have hres := P.keep (.inl rfl)
  rw [hres]
  have hq := P.quo
  have hmul := P.mul
  have q1 := P.q1
  have q2 := P.q2
  have r1 := P.r1
  have r2 := P.r2
  have s1 := P.s1
  have s2 := P.s2
  clear P hres
  have hc : den = 10 ∨ den = 100 ∨ den = 1000 ∨ ((den == 10) = false ∧ (den == 100) = false ∧ (den == 1000) = false) := by
    simp only [beq_eq_false_iff_ne]; omega
  have hsub : num - (num - r) = r := by omega
  rcases hc with rfl | rfl | rfl | ⟨c1, c2, c3⟩
  all_goals
    go_enter Try.func22, Try.ntmps22
    go_wp2
    go_ret
    exact ⟨rfl, rfl⟩

set_option maxRecDepth 100000 in
set_option maxHeartbeats 4000000 in
theorem quo_half (num den : Int) (w : World) (hn1 : -9223372036854775808 < num) (hn2 : num ≤ 9223372036854775807) (hd1 : -9223372036854775808 < den) (hd2 : den ≤ 9223372036854775807) (h0 : den ≠ 0) :
    Calls Try.prog 22 #[.int .i64 num, .int .i64 den, .int .i64 0] w fun e w' => e = .returned (.int .i64 (qm num den true)) ∧ w = w' := by
  obtain ⟨q, r, ra, b, P⟩ := parts num den true hn1 hn2 h0
  obtain ⟨res, hres⟩ : ∃ res, qm num den true = res := ⟨_, rfl⟩
  rw [hres] at P ⊢
  clear hres
  have habr := abs_any r w (by have := P.r1; omega) P.r2
  have habd := abs_any den w hd1 hd2
  rw [P.ra_eq] at habr
  rw [P.b_eq] at habd
  have HA := hide (And.intro habr habd)
  clear habr habd
  have hq := P.quo
  have hmul := P.mul
  have q1 := P.q1
  have q2 := P.q2
  have r1 := P.r1
  have r2 := P.r2
  have s1 := P.s1
  have s2 := P.s2
  have hlt := P.lt
  have hb2 : (b : Int) ≤ 9223372036854775807 := by have := P.b_eq; omega
  have HP := hide P
  clear P
  have hc : den = 10 ∨ den = 100 ∨ den = 1000 ∨ ((den == 10) = false ∧ (den == 100) = false ∧ (den == 1000) = false) := by
    simp only [beq_eq_false_iff_ne]; omega
  have hsub : num - (num - r) = r := by omega
  by_cases hr0 : r = 0
  · obtain rfl := HP.out.keep (.inr (.inl hr0))
    subst hr0
    clear HP HA
    simp only [Int.sub_zero, Int.sub_self] at hsub hmul s1 s2
    clear hsub
    rcases hc with rfl | rfl | rfl | ⟨c1, c2, c3⟩
    all_goals
      go_enter Try.func22, Try.ntmps22
      go_wp2
      go_ret
      exact ⟨rfl, rfl⟩
  · have hr0' : (r != 0) = true := by rw [bne_iff_ne]; exact hr0
    clear hr0
    by_cases hup : b ≤ ra + ra
    · have hup' : ¬ ((ra : Int) < (b : Int) - ra) := by omega
      rcases sign2 num den with ⟨e1, e2⟩ | ⟨e1, e2⟩ | ⟨e1, e2⟩ | ⟨e1, e2⟩
      · obtain ⟨rfl, hq3⟩ := HP.out.up rfl hup (by rw [e1, e2]; rfl)
        clear HP hup
        rcases hc with rfl | rfl | rfl | ⟨c1, c2, c3⟩
        · exact absurd e2 (by decide)
        · exact absurd e2 (by decide)
        · exact absurd e2 (by decide)
        · go_enter Try.func22, Try.ntmps22
          go_wp2_with fail
          refine HA.out.1.mono ?_
          rintro e w' ⟨rfl, rfl⟩
          go_wp2_with fail
          refine HA.out.2.mono ?_
          rintro e w' ⟨rfl, rfl⟩
          go_wp2_with fail
          refine HA.out.1.mono ?_
          rintro e w' ⟨rfl, rfl⟩
          clear HA
          go_wp2
          go_ret
          exact ⟨rfl, rfl⟩
      · obtain ⟨rfl, hq3⟩ := HP.out.down rfl hup (by rw [e1, e2]; rfl)
        clear HP hup
        rcases hc with rfl | rfl | rfl | ⟨c1, c2, c3⟩
        all_goals
          go_enter Try.func22, Try.ntmps22
          go_wp2_with fail
          refine HA.out.1.mono ?_
          rintro e w' ⟨rfl, rfl⟩
          go_wp2_with fail
          refine HA.out.2.mono ?_
          rintro e w' ⟨rfl, rfl⟩
          go_wp2_with fail
          refine HA.out.1.mono ?_
          rintro e w' ⟨rfl, rfl⟩
          clear HA
          go_wp2
          go_ret
          exact ⟨rfl, rfl⟩
      · obtain ⟨rfl, hq3⟩ := HP.out.down rfl hup (by rw [e1, e2]; rfl)
        clear HP hup
        rcases hc with rfl | rfl | rfl | ⟨c1, c2, c3⟩
        · exact absurd e2 (by decide)
        · exact absurd e2 (by decide)
        · exact absurd e2 (by decide)
        · go_enter Try.func22, Try.ntmps22
          go_wp2_with fail
          refine HA.out.1.mono ?_
          rintro e w' ⟨rfl, rfl⟩
          go_wp2_with fail
          refine HA.out.2.mono ?_
          rintro e w' ⟨rfl, rfl⟩
          go_wp2_with fail
          refine HA.out.1.mono ?_
          rintro e w' ⟨rfl, rfl⟩
          clear HA
          go_wp2
          go_ret
          exact ⟨rfl, rfl⟩
      · obtain ⟨rfl, hq3⟩ := HP.out.up rfl hup (by rw [e1, e2]; rfl)
        clear HP hup
        rcases hc with rfl | rfl | rfl | ⟨c1, c2, c3⟩
        all_goals
          go_enter Try.func22, Try.ntmps22
          go_wp2_with fail
          refine HA.out.1.mono ?_
          rintro e w' ⟨rfl, rfl⟩
          go_wp2_with fail
          refine HA.out.2.mono ?_
          rintro e w' ⟨rfl, rfl⟩
          go_wp2_with fail
          refine HA.out.1.mono ?_
          rintro e w' ⟨rfl, rfl⟩
          clear HA
          go_wp2
          go_ret
          exact ⟨rfl, rfl⟩
    · obtain rfl := HP.out.keep (.inr (.inr (by omega)))
      clear HP
      have hup' : (ra : Int) < (b : Int) - ra := by omega
      rcases hc with rfl | rfl | rfl | ⟨c1, c2, c3⟩
      all_goals
        go_enter Try.func22, Try.ntmps22
        go_wp2_with fail
        refine HA.out.1.mono ?_
        rintro e w' ⟨rfl, rfl⟩
        go_wp2_with fail
        refine HA.out.2.mono ?_
        rintro e w' ⟨rfl, rfl⟩
        go_wp2_with fail
        refine HA.out.1.mono ?_
        rintro e w' ⟨rfl, rfl⟩
        clear HA
        go_wp2
        go_ret
        exact ⟨rfl, rfl⟩

end Go.Proofs.Qxb6604305a.Quo
