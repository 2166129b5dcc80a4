import Derived.Test.Qxb6604305aOwn
namespace Go.Proofs.Qxb6604305a.Au
open Go.RowKit

theorem digit_of (M e : Nat) : M % 10 ^ (e + 1) / 10 ^ e = M / 10 ^ e % 10 ∧ M % 10 ^ (e + 1) = M / 10 ^ e % 10 * 10 ^ e + M % 10 ^ e ∧ M / 10 ^ e = M / 10 ^ (e + 1) * 10 + M / 10 ^ e % 10 := by
  have hp : 0 < 10 ^ e := Nat.pow_pos (by omega)
  have h1 : M % 10 ^ (e + 1) = M % 10 ^ e + 10 ^ e * (M / 10 ^ e % 10) := by rw [Nat.pow_succ, Nat.mod_mul]
  refine ⟨?_, ?_, digit_step M e⟩
  · rw [h1, Nat.add_mul_div_left _ _ hp, Nat.div_eq_of_lt (Nat.mod_lt _ hp), Nat.zero_add]
  · rw [h1, Nat.mul_comm, Nat.add_comm]

/-- The power of ten that the loop holds while e digits are still to come. -/
def pw (e : Nat) : Nat := if e = 0 then 0 else 10 ^ (e - 1)
theorem pw_succ (e : Nat) : pw (e + 1) = 10 ^ e := by simp [pw]
theorem pw_next (e : Nat) : pw (e + 1) / 10 = pw e := by
  rw [pw_succ]
  cases e with
  | zero => rfl
  | succ e => rw [pw_succ, Nat.pow_succ, Nat.mul_div_cancel _ (by omega)]
theorem pw_pos (e : Nat) : 0 < pw (e + 1) := by rw [pw_succ]; exact Nat.pow_pos (by omega)
theorem pw_le (e : Nat) (h : e ≤ 20) : pw e ≤ 10000000000000000000 := by
  cases e with
  | zero => simp [pw]
  | succ e =>
    rw [pw_succ]
    have : 10 ^ e ≤ 10 ^ 19 := Nat.pow_le_pow_right (by omega) (by omega)
    have h19 : (10 : Nat) ^ 19 = 10000000000000000000 := by decide
    omega

/-- The digits gathered so far: those of M without its e last, no zero ahead; none where nothing is left of it. -/
structure Dig (M e j : Nat) : Prop where
  fits : M / 10 ^ e / 10 ^ j = 0
  lead : j = 0 ∨ M / 10 ^ e / 10 ^ (j - 1) ≠ 0
  room : j + e ≤ 20

theorem Dig.start (M : Nat) (h : M ≤ 18446744073709551615) : Dig M 20 0 := by
  refine ⟨?_, .inl rfl, by omega⟩
  have h20 : (10 : Nat) ^ 20 = 100000000000000000000 := by decide
  rw [h20]
  simp
  omega

theorem Dig.none {M e : Nat} (h : Dig M e 0) : M / 10 ^ e = 0 := by have := h.fits; simpa using this

theorem Dig.push {M e j : Nat} (h : Dig M (e + 1) j) (h2 : M / 10 ^ e % 10 ≠ 0 ∨ 0 < j) : Dig M e (j + 1) := by
  have hd := (digit_of M e).2.2
  have e10 : M / 10 ^ e / 10 = M / 10 ^ (e + 1) := by omega
  refine ⟨?_, .inr ?_, by have := h.room; omega⟩
  · rw [Nat.pow_succ', ← Nat.div_div_eq_div_mul, e10]; exact h.fits
  · rw [Nat.add_sub_cancel]
    cases j with
    | zero =>
      rcases h2 with h2 | h2
      · rw [Nat.pow_zero, Nat.div_one]
        intro e0
        rw [e0] at h2
        exact h2 rfl
      · omega
    | succ j =>
      rw [Nat.pow_succ', ← Nat.div_div_eq_div_mul, e10]
      have := h.lead
      simpa using this

theorem Dig.skip {M e : Nat} (h : Dig M (e + 1) 0) (h2 : M / 10 ^ e % 10 = 0) : Dig M e 0 := by
  have hd := (digit_of M e).2.2
  have h0 := h.none
  have e0 : M / 10 ^ e = 0 := by omega
  exact ⟨by simp [e0], .inl rfl, by have := h.room; omega⟩

theorem dig_push_text (M e j : Nat) : frac (j + 1) (M / 10 ^ e) = frac j (M / 10 ^ (e + 1)) ++ [48 + ((M / 10 ^ e % 10 : Nat) : Int)] := by
  rw [frac_snoc, Nat.div_div_eq_div_mul, ← Nat.pow_succ]

set_option maxRecDepth 100000 in
set_option maxHeartbeats 1000000 in
theorem digits_any (M : Nat) (w : World) (hM : M ≤ 18446744073709551615) :
    Calls Try.prog 19 #[.int .u64 M] w fun e w' => ∃ K, e = .returned (.slice (some ⟨w.heap.size, 0, none⟩) K 20) ∧ 1 ≤ K ∧ K ≤ 20 ∧ M / 10 ^ K = 0 ∧ (K = 1 ∨ M / 10 ^ (K - 1) ≠ 0) ∧ Own w' w.heap.size 20 (frac K M) ∧ Below w.heap.size w w' ∧ w.heap.size < w'.heap.size := by
  obtain ⟨i0, hi, hz0, hz1, hz2⟩ := info_parts info5
  go_enter Try.func19, Try.ntmps19
  go_wp2_with (at_make; refine wpList_make_own _ rfl _ _ 22 rfl w.heap.size 5 i0 (.int .u8 0) 1 Try.underlying22 hi hz0 hz1 .i64 .i64 20 20 rfl rfl rfl (by rw [hz2]; omega) (by unfold maxLen; omega) (Nat.le_refl _) ?_)
  intro w1 hown1 hgr1
  have hO1 := Own.made hown1
  have hB1 : Below w.heap.size w w1 := below_grown hgr1 (Nat.le_refl _) (fun k hk => by cases hk)
  have hS1 := hO1.lt
  clear hown1 hgr1 hi hz0 hz1 hz2
  go_wp2_with fail
  go_loopw [0, 3, 4] (fun mg dv pv wr => ∃ e j m p : Nat, mg = .int .u64 m ∧ dv = .slice (some ⟨w.heap.size, 0, none⟩) j 20 ∧ pv = .int .u64 p ∧ m ≤ 18446744073709551615 ∧ p ≤ 10000000000000000000 ∧ j ≤ 20 ∧ Hid (m = M % 10 ^ e ∧ p = pw e ∧ Dig M e j) ∧ Own wr w.heap.size 20 (frac j (M / 10 ^ e)) ∧ Below w.heap.size w wr) (fun _ _ pv _ => (intOf pv).toNat)
  case atStart =>
    refine ⟨20, 0, M, 10000000000000000000, rfl, rfl, rfl, hM, by omega, by omega, ⟨?_, by decide, Dig.start M hM⟩, ?_, hB1⟩
    · have h20 : (10 : Nat) ^ 20 = 100000000000000000000 := by decide
      rw [h20]; omega
    · exact hO1
  case round =>
    clear hO1 hB1 hS1
    obtain ⟨e, j, m, p, rfl, rfl, rfl, hm, hp, hj, H, hO, hB⟩ := hrel
    have hS := hO.lt
    obtain ⟨h1, h2, h3⟩ := H.out
    clear H
    cases e with
    | zero =>
      obtain rfl : p = 0 := h2
      simp only [Nat.pow_zero, Nat.div_one] at hO
      have hf := h3.fits
      have hl := h3.lead
      simp only [Nat.pow_zero, Nat.div_one] at hf hl
      have HF := And.intro hf hl
      have HF' : Hid (M / 10 ^ j = 0 ∧ (j = 0 ∨ M / 10 ^ (j - 1) ≠ 0)) := HF
      clear HF hf hl h1 h3
      by_cases hj0 : j = 0
      · subst hj0
        go_wp2_with (at_builtin; refine wpList_push rfl (.tmp 35) (.tmp 36) rfl w.heap.size 20 (frac 0 M) 48 0 rfl rfl hO rfl (by omega) ?_)
        intro w' hO' hg'
        go_wp2
        go_ret
        obtain rfl : M = 0 := by have := HF'.out.1; simpa using this
        exact ⟨1, rfl, by omega, by omega, by simp, .inl rfl, hO', below_row hB hg' (by omega) (Nat.le_refl _), by have := hg'.size; omega⟩
      · have hj' : ((j : Int) == 0) = false := by rw [beq_eq_false_iff_ne]; omega
        go_wp2
        go_ret
        exact ⟨j, rfl, by omega, hj, HF'.out.1, .inr (by rcases HF'.out.2 with h | h; exact absurd h hj0; exact h), hO, hB, hS⟩
    | succ e =>
      obtain ⟨d1, d2, d3⟩ := digit_of M e
      have hpp := pw_pos e
      have hnx := pw_next e
      rw [pw_succ] at hpp hnx h2
      obtain ⟨d, hd⟩ : ∃ d, d = M / 10 ^ e % 10 := ⟨_, rfl⟩
      have hd9 : d ≤ 9 := by omega
      rw [← hd] at d1 d2
      rw [← h1, ← h2] at d1
      rw [← h1, ← h2] at d2
      rw [← h2] at hpp hnx
      obtain ⟨dp, hdp⟩ : ∃ dp, d * p = dp := ⟨_, rfl⟩
      rw [hdp] at d2
      have hdi : (m : Int) / (p : Int) = (d : Int) := by rw [← d1]; rfl
      have hdpi : (d : Int) * (p : Int) = (dp : Int) := by rw [← hdp]; simp
      have hdpm : (dp : Int) ≤ (m : Int) := by omega
      have HD := hide (And.intro hd (And.intro d2 (And.intro hnx h2)))
      have H3 := hide h3
      have hjd := h3.room
      have HM : Hid (m - dp = M % 10 ^ e) := by
        have e1 := HD.out.2.1
        rw [HD.out.2.2.2] at e1
        show m - dp = _
        omega
      have HT : Hid (frac j (M / 10 ^ (e + 1)) ++ [48 + (d : Int)] = frac (j + 1) (M / 10 ^ e)) := by
        rw [dig_push_text, HD.out.1]; rfl
      clear hd d1 d2 d3 hnx hdp h1 h2 h3
      by_cases hd0 : d = 0
      · have hd0' : ((d : Int) != 0) = false := by rw [bne_eq_false_iff_eq]; omega
        by_cases hj0 : j = 0
        · have HN := H3.out
          rw [hj0] at HN
          have HN2 := HN.skip (by rw [← HD.out.1]; exact hd0)
          subst hj0
          have HN3 := hide HN2
          clear HN HN2 H3
          have H0 := hide hd0
          clear hd0
          go_wp2
          go_roundw
          case rel =>
            exact ⟨e, 0, m - dp, p / 10, by go_num, rfl, by go_num, by omega, by omega, by omega, ⟨HM.out, HD.out.2.2.1, HN3.out⟩, hO, hB⟩
          case measure => simp [intOf]; omega
        · have H0 := hide hd0
          clear hd0
          go_wp2_with (at_builtin; refine wpList_push rfl (.tmp 24) (.tmp 28) rfl w.heap.size 20 (frac j (M / 10 ^ (e + 1))) (48 + (d : Int)) j (frac_length _ _) rfl hO rfl (by omega) ?_)
          intro w' hO' hg'
          go_wp2
          go_roundw
          case rel =>
            exact ⟨e, j + 1, m - dp, p / 10, by go_num, rfl, by go_num, by omega, by omega, by omega, ⟨HM.out, HD.out.2.2.1, H3.out.push (.inr (by omega))⟩, by rw [← HT.out]; exact hO', below_row hB hg' (by omega) (Nat.le_refl _)⟩
          case measure => simp [intOf]; omega
      · have hd0' : ((d : Int) != 0) = true := by rw [bne_iff_ne]; omega
        have H0 := hide hd0
        clear hd0
        go_wp2_with (at_builtin; refine wpList_push rfl (.tmp 24) (.tmp 28) rfl w.heap.size 20 (frac j (M / 10 ^ (e + 1))) (48 + (d : Int)) j (frac_length _ _) rfl hO rfl (by omega) ?_)
        intro w' hO' hg'
        go_wp2
        go_roundw
        case rel =>
          exact ⟨e, j + 1, m - dp, p / 10, by go_num, rfl, by go_num, by omega, by omega, by omega, ⟨HM.out, HD.out.2.2.1, H3.out.push (.inl (by rw [← HD.out.1]; exact H0.out))⟩, by rw [← HT.out]; exact hO', below_row hB hg' (by omega) (Nat.le_refl _)⟩
        case measure => simp [intOf]; omega

end Go.Proofs.Qxb6604305a.Au
