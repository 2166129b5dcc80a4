import Derived.Test.Qxb6604305aIpWalk
namespace Go.Proofs.Qxb6604305a.Ip
open Go.RowKit

theorem zzplain_any (s : ByteArray) (w : World) (hs : s.size ≤ 1048576) : Calls Try.prog 13 #[.string s] w fun e w' => e = .returned (.bool (auto 0 s.data.toList)) ∧ w' = w := by
  go_enter Try.func13, Try.ntmps13
  go_wp2_with (go_at_call 21; refine (plain_any s _ hs).mono ?_; rintro e w' ⟨rfl, rfl⟩)
  go_ret
  exact ⟨rfl, rfl⟩

/-- The next state, and what is left of the text. -/
theorem go_on {s : ByteArray} {k st st' : Nat} {res : Bool} (h : k < s.size) (HR : Hid (res = auto st (s.data.toList.drop k))) (hs : step st s[k] = some st') : Hid (res = auto st' (s.data.toList.drop (k + 1))) := by
  have := HR.out
  rw [drop_cons s k h, auto_step hs] at this
  exact this
theorem stops {s : ByteArray} {k st : Nat} {res : Bool} (h : k < s.size) (HR : Hid (res = auto st (s.data.toList.drop k))) (hs : step st s[k] = none) : res = false := by
  have := HR.out
  rw [drop_cons s k h, auto_stop hs] at this
  exact this
theorem dg_yes {c : UInt8} (h1 : 48 ≤ (c.toNat : Int)) (h2 : (c.toNat : Int) ≤ 57) : dg c = true := by simp [dg, digB]; omega
theorem dg_low {c : UInt8} (h1 : (c.toNat : Int) < 48) : dg c = false := by simp [dg, digB]; omega
theorem dg_high {c : UInt8} (h1 : 57 < (c.toNat : Int)) : dg c = false := by simp [dg, digB]; omega

set_option maxRecDepth 100000 in
set_option maxHeartbeats 2000000 in
theorem auto_any (s : ByteArray) (w : World) (hs : s.size ≤ 1048576) : Calls Try.prog 16 #[.string s] w fun e w' => e = .returned (.bool (auto 0 s.data.toList)) ∧ w' = w := by
  obtain ⟨res, hres⟩ : ∃ res, res = auto 0 s.data.toList := ⟨_, rfl⟩
  rw [← hres]
  have HR0 : Hid (res = auto 0 (s.data.toList.drop 0)) := by rw [List.drop_zero]; exact hres
  clear hres
  go_enter Try.func16, Try.ntmps16
  go_wp2_with fail
  go_loop [3, 4] (fun t i => ∃ k st : Nat, k ≤ s.size ∧ i = .int .i64 k ∧ t = .int .i64 st ∧ st ≤ 4 ∧ Hid (res = auto st (s.data.toList.drop k))) (fun _ i => s.size - (intOf i).toNat)
  case atStart => exact ⟨0, 0, by omega, rfl, rfl, by omega, HR0⟩
  case round =>
    clear HR0
    obtain ⟨k, st, hk, rfl, rfl, hst, HR⟩ := hrel
    by_cases hlt : k < s.size
    · obtain rfl | rfl | rfl | rfl | rfl : st = 0 ∨ st = 1 ∨ st = 2 ∨ st = 3 ∨ st = 4 := by omega
      · by_cases h1 : (s[k].toNat : Int) < 48
        · by_cases hsp : (s[k].toNat : Int) = 45
          · have hb : ((s[k].toNat : Int) == 45) = true := by rw [beq_iff_eq]; exact hsp
            have hn : s[k].toNat = 45 := by omega
            have HR' := go_on (st' := 1) hlt HR (step0_sign hn)
            clear HR hsp hn
            go_wp2
            go_round
            case rel => exact ⟨k + 1, 1, by omega, by go_num, rfl, by omega, HR'⟩
            case measure => simp [intOf]; omega
          · have hb : ((s[k].toNat : Int) == 45) = false := by rw [beq_eq_false_iff_ne]; exact hsp
            obtain rfl := stops hlt HR ((step0_other (by omega)).trans (step1_no (dg_low h1)))
            clear HR
            go_wp2
            go_ret
            exact ⟨rfl, rfl⟩
        · by_cases h2 : 57 < (s[k].toNat : Int)
          · have hb : ((s[k].toNat : Int) == 45) = false := by rw [beq_eq_false_iff_ne]; omega
            have hbb : decide ((s[k].toNat : Int) ≤ 57) = false := by rw [decide_eq_false_iff_not]; omega
            obtain rfl := stops hlt HR ((step0_other (by omega)).trans (step1_no (dg_high h2)))
            clear HR
            go_wp2
            go_ret
            exact ⟨rfl, rfl⟩
          · have h1 : 48 ≤ (s[k].toNat : Int) := by omega
            have h2 : (s[k].toNat : Int) ≤ 57 := by omega
            have hb : ((s[k].toNat : Int) == 45) = false := by rw [beq_eq_false_iff_ne]; omega
            have HR' := go_on (st' := 2) hlt HR ((step0_other (by omega)).trans (step1_dig (dg_yes h1 h2)))
            clear HR
            go_wp2
            go_round
            case rel => exact ⟨k + 1, 2, by omega, by go_num, rfl, by omega, HR'⟩
            case measure => simp [intOf]; omega
      · by_cases h1 : (s[k].toNat : Int) < 48
        · obtain rfl := stops hlt HR (step1_no (dg_low h1))
          clear HR
          go_wp2
          go_ret
          exact ⟨rfl, rfl⟩
        · by_cases h2 : 57 < (s[k].toNat : Int)
          · have hbb : decide ((s[k].toNat : Int) ≤ 57) = false := by rw [decide_eq_false_iff_not]; omega
            obtain rfl := stops hlt HR (step1_no (dg_high h2))
            clear HR
            go_wp2
            go_ret
            exact ⟨rfl, rfl⟩
          · have h1 : 48 ≤ (s[k].toNat : Int) := by omega
            have h2 : (s[k].toNat : Int) ≤ 57 := by omega
            have HR' := go_on (st' := 2) hlt HR (step1_dig (dg_yes h1 h2))
            clear HR
            go_wp2
            go_round
            case rel => exact ⟨k + 1, 2, by omega, by go_num, rfl, by omega, HR'⟩
            case measure => simp [intOf]; omega
      · by_cases h1 : (s[k].toNat : Int) < 48
        · by_cases hsp : (s[k].toNat : Int) = 46
          · have hb : ((s[k].toNat : Int) == 46) = true := by rw [beq_iff_eq]; exact hsp
            have hn : s[k].toNat = 46 := by omega
            have HR' := go_on (st' := 3) hlt HR (step2_pt hn)
            clear HR hsp hn
            go_wp2
            go_round
            case rel => exact ⟨k + 1, 3, by omega, by go_num, rfl, by omega, HR'⟩
            case measure => simp [intOf]; omega
          · have hb : ((s[k].toNat : Int) == 46) = false := by rw [beq_eq_false_iff_ne]; exact hsp
            obtain rfl := stops hlt HR (step2_no (dg_low h1) (by omega))
            clear HR
            go_wp2
            go_ret
            exact ⟨rfl, rfl⟩
        · by_cases h2 : 57 < (s[k].toNat : Int)
          · have hb : ((s[k].toNat : Int) == 46) = false := by rw [beq_eq_false_iff_ne]; omega
            have hbb : decide ((s[k].toNat : Int) ≤ 57) = false := by rw [decide_eq_false_iff_not]; omega
            obtain rfl := stops hlt HR (step2_no (dg_high h2) (by omega))
            clear HR
            go_wp2
            go_ret
            exact ⟨rfl, rfl⟩
          · have h1 : 48 ≤ (s[k].toNat : Int) := by omega
            have h2 : (s[k].toNat : Int) ≤ 57 := by omega
            have hb : ((s[k].toNat : Int) == 46) = false := by rw [beq_eq_false_iff_ne]; omega
            have HR' := go_on (st' := 2) hlt HR (step2_dig (dg_yes h1 h2))
            clear HR
            go_wp2
            go_round
            case rel => exact ⟨k + 1, 2, by omega, by go_num, rfl, by omega, HR'⟩
            case measure => simp [intOf]; omega
      · by_cases h1 : (s[k].toNat : Int) < 48
        · obtain rfl := stops hlt HR (step3_no (dg_low h1))
          clear HR
          go_wp2
          go_ret
          exact ⟨rfl, rfl⟩
        · by_cases h2 : 57 < (s[k].toNat : Int)
          · have hbb : decide ((s[k].toNat : Int) ≤ 57) = false := by rw [decide_eq_false_iff_not]; omega
            obtain rfl := stops hlt HR (step3_no (dg_high h2))
            clear HR
            go_wp2
            go_ret
            exact ⟨rfl, rfl⟩
          · have h1 : 48 ≤ (s[k].toNat : Int) := by omega
            have h2 : (s[k].toNat : Int) ≤ 57 := by omega
            have HR' := go_on (st' := 4) hlt HR (step3_dig (dg_yes h1 h2))
            clear HR
            go_wp2
            go_round
            case rel => exact ⟨k + 1, 4, by omega, by go_num, rfl, by omega, HR'⟩
            case measure => simp [intOf]; omega
      · by_cases h1 : (s[k].toNat : Int) < 48
        · obtain rfl := stops hlt HR (step4_no (dg_low h1))
          clear HR
          go_wp2
          go_ret
          exact ⟨rfl, rfl⟩
        · by_cases h2 : 57 < (s[k].toNat : Int)
          · have hbb : decide ((s[k].toNat : Int) ≤ 57) = false := by rw [decide_eq_false_iff_not]; omega
            obtain rfl := stops hlt HR (step4_no (dg_high h2))
            clear HR
            go_wp2
            go_ret
            exact ⟨rfl, rfl⟩
          · have h1 : 48 ≤ (s[k].toNat : Int) := by omega
            have h2 : (s[k].toNat : Int) ≤ 57 := by omega
            have HR' := go_on (st' := 4) hlt HR (step4_dig (dg_yes h1 h2))
            clear HR
            go_wp2
            go_round
            case rel => exact ⟨k + 1, 4, by omega, by go_num, rfl, by omega, HR'⟩
            case measure => simp [intOf]; omega
    · have HR1 := HR.out
      rw [drop_end s k (by omega)] at HR1
      clear HR
      obtain rfl | rfl | rfl | rfl | rfl : st = 0 ∨ st = 1 ∨ st = 2 ∨ st = 3 ∨ st = 4 := by omega
      all_goals
        subst HR1
        go_wp2
        go_ret
        exact ⟨rfl, rfl⟩

end Go.Proofs.Qxb6604305a.Ip
