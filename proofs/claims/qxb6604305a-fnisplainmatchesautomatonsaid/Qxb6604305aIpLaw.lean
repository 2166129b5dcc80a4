import Derived.Test.Qxb6604305aIpAuto
namespace Go.Proofs.Qxb6604305a.Ip
open Go.RowKit

theorem bytes_any (s : ByteArray) (w : World) (hs : s.size ≤ maxLen) : Calls Try.prog 15 #[.string s] w fun e w' => e = .returned (.bool (decide (s.size ≤ 1048576))) ∧ w' = w := by
  unfold maxLen at hs
  by_cases h : s.size ≤ 1048576
  · have h' : ¬ ((1048576 : Int) < (s.size : Int)) := by omega
    rw [decide_eq_true h]
    go_enter Try.func15, Try.ntmps15
    go_wp2
    go_ret
    exact ⟨rfl, rfl⟩
  · have h' : ((1048576 : Int) < (s.size : Int)) := by omega
    rw [decide_eq_false h]
    go_enter Try.func15, Try.ntmps15
    go_wp2
    go_ret
    exact ⟨rfl, rfl⟩

set_option maxHeartbeats 400000 in
theorem law_any (s : ByteArray) (w : World) (hs : s.size ≤ maxLen) : Calls Try.prog 6 #[.string s] w fun e w' => e = .returned (.bool true) ∧ w' = w := by
  have hb := bytes_any s w hs
  have hm := hs
  unfold maxLen at hm
  by_cases h : s.size ≤ 1048576
  · rw [decide_eq_true h] at hb
    have h' : ¬ ((1048576 : Int) < (s.size : Int)) := by omega
    have HB := hide hb
    clear hb
    go_enter Try.func6, Try.ntmps6
    go_wp2_with fail
    refine HB.out.mono ?_
    rintro e w' ⟨rfl, rfl⟩
    clear HB
    go_wp2_with fail
    refine (zzplain_any s _ h).mono ?_
    rintro e w' ⟨rfl, rfl⟩
    go_wp2_with fail
    refine (auto_any s _ h).mono ?_
    rintro e w' ⟨rfl, rfl⟩
    generalize auto 0 s.data.toList = b
    cases b
    all_goals
      go_wp2
      go_ret
      exact ⟨rfl, rfl⟩
  · rw [decide_eq_false h] at hb
    have HB := hide hb
    clear hb
    go_enter Try.func6, Try.ntmps6
    go_wp2_with fail
    refine HB.out.mono ?_
    rintro e w' ⟨rfl, rfl⟩
    clear HB
    go_wp2
    go_ret
    exact ⟨rfl, rfl⟩

end Go.Proofs.Qxb6604305a.Ip
