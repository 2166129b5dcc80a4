import Derived.Test.Qxb6604305aRows
import Derived.Test.Qxb6604305aQuoPlain
import Derived.WalkKit
import Derived.WalkSpells
import Derived.WalkLawsBesides
import Derived.Deep.DeepCutAuto
namespace Go.Proofs.Qxb6604305a.Quo
open Go.RowKit

theorem hide {p : Prop} (h : p) : Hid p := h

theorem abs_any (c : Int) (w : World) (h1 : -9223372036854775808 < c) (h2 : c ≤ 9223372036854775807) :
    Calls Try.prog 25 #[.int .i64 c] w fun e w' => e = .returned (.int .u64 c.natAbs) ∧ w = w' := by
  by_cases h : c < 0
  · go_enter Try.func25, Try.ntmps25
    go_wp2
    go_ret
    exact ⟨congrArg Ending.returned (congrArg (Value.int .u64) (by omega)), rfl⟩
  · go_enter Try.func25, Try.ntmps25
    go_wp2
    go_ret
    exact ⟨congrArg Ending.returned (congrArg (Value.int .u64) (by omega)), rfl⟩

theorem mag_any (c : Int) (w : World) (h1 : -9223372036854775808 < c) (h2 : c ≤ 9223372036854775807) :
    Calls Try.prog 23 #[.int .i64 c] w fun e w' => e = .returned (.int .u64 c.natAbs) ∧ w = w' := by
  by_cases h : c < 0
  · go_enter Try.func23, Try.ntmps23
    go_wp2
    go_ret
    exact ⟨congrArg Ending.returned (congrArg (Value.int .u64) (by omega)), rfl⟩
  · go_enter Try.func23, Try.ntmps23
    go_wp2
    go_ret
    exact ⟨congrArg Ending.returned (congrArg (Value.int .u64) (by omega)), rfl⟩

theorem sign2 (x y : Int) : (decide (x < 0) = true ∧ decide (y < 0) = true) ∨ (decide (x < 0) = true ∧ decide (y < 0) = false) ∨ (decide (x < 0) = false ∧ decide (y < 0) = true) ∨ (decide (x < 0) = false ∧ decide (y < 0) = false) := by
  cases decide (x < 0) <;> cases decide (y < 0) <;> simp

set_option maxRecDepth 100000 in
set_option maxHeartbeats 1000000 in
theorem model_any (num den : Int) (half : Bool) (w : World) (hn1 : -9223372036854775808 < num) (hn2 : num ≤ 9223372036854775807) (hd1 : -9223372036854775808 < den) (hd2 : den ≤ 9223372036854775807) (h0 : den ≠ 0) :
    Calls Try.prog 18 #[.int .i64 num, .int .i64 den, .bool half] w fun e w' => e = .returned (.int .i64 (qm num den half)) ∧ w = w' := by
  obtain ⟨a, ha⟩ : ∃ a, a = num.natAbs := ⟨_, rfl⟩
  obtain ⟨b, hb⟩ : ∃ b, b = den.natAbs := ⟨_, rfl⟩
  have hf := div_facts a b (by omega)
  obtain ⟨q, hq⟩ : ∃ q : Nat, a / b = q := ⟨_, rfl⟩
  obtain ⟨r, hr⟩ : ∃ r : Nat, a % b = r := ⟨_, rfl⟩
  obtain ⟨res, hres⟩ : ∃ res, res = qm num den half := ⟨_, rfl⟩
  rw [← hres]
  rw [qm, qmag, ← ha, ← hb, hq, hr] at hres
  rw [hq, hr] at hf
  have hqi : (a : Int) / (b : Int) = (q : Int) := by rw [← hq]; rfl
  have hri : (a : Int) % (b : Int) = (r : Int) := by rw [← hr]; rfl
  have hA : (a : Int) ≤ 9223372036854775807 := by omega
  have hB1 : (1 : Int) ≤ b := by omega
  have hB2 : (b : Int) ≤ 9223372036854775807 := by omega
  have hQ : (q : Int) ≤ 9223372036854775807 := by omega
  have hR : (r : Int) < b := by omega
  have hm1 := mag_any num w hn1 hn2
  have hm2 := mag_any den w hd1 hd2
  rw [← ha] at hm1
  rw [← hb] at hm2
  have HM := hide (And.intro hm1 hm2)
  have HF := hide hf.2.2
  have HR := hide hres
  clear hm1 hm2 hf hres ha hb hq hr h0
  obtain ⟨Q, hQe, hQb, hup⟩ : ∃ Q : Nat, Q = (if half = true ∧ b ≤ r + r then q + 1 else q) ∧ (Q : Int) ≤ 9223372036854775807 ∧ ((half = false ∧ Q = q) ∨ (half = true ∧ r + r < b ∧ Q = q) ∨ (half = true ∧ b ≤ r + r ∧ Q = q + 1)) := by
    cases half with
    | false => exact ⟨q, by simp, hQ, .inl ⟨rfl, rfl⟩⟩
    | true =>
      by_cases h : b ≤ r + r
      · have := HF.out h
        exact ⟨q + 1, by simp [h], by omega, .inr (.inr ⟨rfl, h, rfl⟩)⟩
      · exact ⟨q, by simp [h], hQ, .inr (.inl ⟨rfl, by omega, rfl⟩)⟩
  have HR2 : Hid (res = if decide (num < 0) != decide (den < 0) then -(Q : Int) else Q) := by rw [hQe]; exact HR
  clear HR HF hQe
  rcases sign2 num den with ⟨e1, e2⟩ | ⟨e1, e2⟩ | ⟨e1, e2⟩ | ⟨e1, e2⟩
  all_goals
    have hres := HR2.out
    rw [e1, e2] at hres
    simp only [bne_self_eq_false, Bool.false_eq_true, if_false, if_true, Bool.true_bne, Bool.false_bne, Bool.not_false] at hres
    subst hres
    clear HR2
    rcases hup with ⟨rfl, rfl⟩ | ⟨rfl, hlt, rfl⟩ | ⟨rfl, hle, rfl⟩
    · go_enter Try.func18, Try.ntmps18
      go_wp2_with fail
      refine HM.out.1.mono ?_
      rintro e w' ⟨rfl, rfl⟩
      go_wp2_with fail
      refine HM.out.2.mono ?_
      rintro e w' ⟨rfl, rfl⟩
      clear HM
      go_wp2
      go_ret
      exact ⟨rfl, rfl⟩
    · go_enter Try.func18, Try.ntmps18
      go_wp2_with fail
      refine HM.out.1.mono ?_
      rintro e w' ⟨rfl, rfl⟩
      go_wp2_with fail
      refine HM.out.2.mono ?_
      rintro e w' ⟨rfl, rfl⟩
      clear HM
      go_wp2
      go_ret
      exact ⟨rfl, rfl⟩
    · have hq1 : (q : Int) + 1 ≤ 9223372036854775807 := by omega
      have hle' : (b : Int) ≤ (r : Int) + r := by omega
      clear hQb hle
      go_enter Try.func18, Try.ntmps18
      go_wp2_with fail
      refine HM.out.1.mono ?_
      rintro e w' ⟨rfl, rfl⟩
      go_wp2_with fail
      refine HM.out.2.mono ?_
      rintro e w' ⟨rfl, rfl⟩
      clear HM
      go_wp2
      go_ret
      exact ⟨rfl, rfl⟩

end Go.Proofs.Qxb6604305a.Quo
