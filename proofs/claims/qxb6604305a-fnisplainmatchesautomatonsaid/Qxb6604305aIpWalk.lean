import Derived.Test.Qxb6604305aRows
import Derived.Test.Qxb6604305aIpPlain
import Derived.WalkKit
import Derived.WalkSpells
import Derived.WalkLawsBesides
import Derived.Deep.DeepCutAuto
namespace Go.Proofs.Qxb6604305a.Ip
open Go.RowKit

theorem hide {p : Prop} (h : p) : Hid p := h

theorem dig_any (c : Int) (w : World) : Calls Try.prog 24 #[.int .u8 c] w fun e w' => e = .returned (.bool (digB c)) ∧ w = w' := by
  by_cases h : 48 ≤ c
  · have e1 : decide (48 ≤ c) = true := by simpa using h
    go_enter Try.func24, Try.ntmps24
    go_wp2
    go_ret
    exact ⟨by simp [digB, h], rfl⟩
  · have e1 : decide (48 ≤ c) = false := by simpa using h
    go_enter Try.func24, Try.ntmps24
    go_wp2
    go_ret
    exact ⟨by rw [digB, e1]; rfl, rfl⟩

set_option maxRecDepth 100000 in
theorem plain_empty (w : World) : Calls Try.prog 21 #[.string ByteArray.empty] w fun e w' => e = .returned (.bool false) ∧ w' = w := by
  go_enter Try.func21, Try.ntmps21
  go_wp2_with fail
  go_loop [3] (fun i => i = .int .i64 0) (fun _ => 0)
  case atStart => rfl
  case round =>
    subst hrel
    go_wp2
    go_ret
    exact ⟨rfl, rfl⟩

theorem plain_none (s : ByteArray) (w : World) (hs : s.size = 0) : Calls Try.prog 21 #[.string s] w fun e w' => e = .returned (.bool (auto 0 s.data.toList)) ∧ w' = w := by
  obtain rfl : s = ByteArray.empty := by
    cases s; simp [ByteArray.size] at hs; subst hs; rfl
  exact plain_empty w

theorem extract_toList (s : ByteArray) (a : Nat) : (s.extract a s.size).data.toList = s.data.toList.drop a := by
  rw [ByteArray.data_extract]
  show (s.data.extract a s.data.size).toList = _
  rw [Array.toList_extract, List.extract_eq_take_drop]
  apply List.take_of_length_le
  simp

set_option maxRecDepth 100000 in
set_option maxHeartbeats 1000000 in
theorem plain_some (s : ByteArray) (w : World) (hs : s.size ≤ 1048576) (hs0 : 0 < s.size) : Calls Try.prog 21 #[.string s] w fun e w' => e = .returned (.bool (auto 0 s.data.toList)) ∧ w' = w := by
  obtain ⟨res, hres⟩ : ∃ res, res = auto 0 s.data.toList := ⟨_, rfl⟩
  rw [← hres]
  have HR := hide hres
  clear hres
  go_enter Try.func21, Try.ntmps21
  go_upto_if 13 with fail
  go_cut [0] (fun v wc => ∃ s1 : ByteArray, v = .string s1 ∧ s1.size ≤ 1048576 ∧ Hid (res = auto 1 s1.data.toList) ∧ wc = w)
  case first =>
    by_cases h : s[0].toNat = 45
    · have h' : ((s[0].toNat : Int) == 45) = true := by rw [beq_iff_eq]; omega
      have HF : Hid (res = auto 1 (s.extract 1 s.size).data.toList) := by
        have e := drop_cons s 0 hs0
        rw [List.drop_zero] at e
        rw [extract_toList, HR.out, e, auto_step (step0_sign h)]; rfl
      clear h
      go_wp2
      go_meet
      case rel => exact ⟨_, rfl, by simp; omega, HF, rfl⟩
    · have h' : ((s[0].toNat : Int) == 45) = false := by rw [beq_eq_false_iff_ne]; omega
      have HF : Hid (res = auto 1 s.data.toList) := by
        have e := drop_cons s 0 hs0
        rw [List.drop_zero] at e
        have e2 : auto 0 s.data.toList = auto 1 s.data.toList := auto0_other fun c r hc => by
          rw [e] at hc
          rw [← (List.cons.inj hc).1]; exact h
        exact HR.out.trans e2
      clear h
      go_wp2
      go_meet
      case rel => exact ⟨_, rfl, hs, HF, rfl⟩
  case rest =>
    clear HR hs hs0
    obtain ⟨s1, rfl, hs, HR, rfl⟩ := hcut
    clear s
    go_wp2_with fail
    go_loop [3] (fun i => ∃ k : Nat, k ≤ s1.size ∧ i = .int .i64 k ∧ Hid (res = auto (if k = 0 then 1 else 2) (s1.data.toList.drop k))) (fun i => s1.size - (intOf i).toNat)
    case atStart => exact ⟨0, by omega, rfl, HR⟩
    case round =>
      clear HR
      obtain ⟨k, hk, rfl, HR⟩ := hrel
      by_cases hlt : k < s1.size
      · have hdc := drop_cons s1 k hlt
        by_cases hd : dg s1[k] = true
        · have HR' : Hid (res = auto (if k + 1 = 0 then 1 else 2) (s1.data.toList.drop (k + 1))) := by
            have := HR.out
            rw [hdc] at this
            rw [if_neg (by omega), this]
            split
            · exact auto_step (step1_dig hd) _
            · exact auto_step (step2_dig hd) _
          have hd' : digB (s1[k].toNat : Int) = true := hd
          clear hdc hd HR
          go_wp2_with (go_at_call 24; refine (dig_any _ _).mono ?_; rintro e w' ⟨rfl, rfl⟩)
          go_round
          case rel => exact ⟨k + 1, by omega, by go_num, HR'⟩
          case measure => simp [intOf]; omega
        · have hd1 : dg s1[k] = false := by simpa using hd
          have hd' : digB (s1[k].toNat : Int) = false := hd1
          have HR1 := HR.out
          rw [hdc] at HR1
          clear hd hdc HR
          by_cases hk0 : k = 0
          · subst hk0
            have hr : res = false := by rw [HR1]; exact auto_stop (step1_no hd1) _
            clear HR1 hd1
            subst hr
            go_wp2_with (go_at_call 24; refine (dig_any _ _).mono ?_; rintro e w' ⟨rfl, rfl⟩)
            go_ret
            exact ⟨rfl, rfl⟩
          · rw [if_neg hk0] at HR1
            have hk0' : ((k : Int) == 0) = false := by rw [beq_eq_false_iff_ne]; omega
            have hk1' : ((k : Int) == s1.size) = false := by rw [beq_eq_false_iff_ne]; omega
            have HR2 := hide HR1
            have HD := hide hd1
            have hex : (s1.extract k s1.size).size = s1.size - k := by simp
            have hexl := extract_toList s1 k
            have HX := hide (And.intro hex hexl)
            clear HR1 hd1 hex hexl
            go_upto_region 10 with (go_at_call 24; refine (dig_any _ _).mono ?_; rintro e w' ⟨rfl, rfl⟩)
            go_cut [4] (fun v wd => ∃ f : ByteArray, v = .string f ∧ f.size ≤ 1048576 ∧ 0 < f.size ∧ Hid (f.data.toList = s1.data.toList.drop k) ∧ wd = wc)
            case first =>
              go_wp2
              go_meet
              case rel =>
                exact ⟨_, rfl, by rw [HX.out.1]; omega, by rw [HX.out.1]; omega, HX.out.2, rfl⟩
            case rest =>
              clear HX hk1' hk0' hd'
              obtain ⟨f, rfl, hf1, hf2, HF, rfl⟩ := hcut
              have e0 := drop_cons f 0 hf2
              rw [List.drop_zero] at e0
              have e1 := HF.out.symm.trans e0
              rw [drop_cons s1 k hlt] at e1
              have HD' : Hid (dg f[0] = false) := by rw [← (List.cons.inj e1).1]; exact HD
              have HR3 : Hid (res = auto 2 (f[0] :: f.data.toList.drop 1)) := HR2.out.trans (congrArg (auto 2) e1)
              clear e0 e1 HD HR2 HF hlt hk0 hk
              clear hs
              by_cases hc : f[0].toNat = 46
              · have HR4 : Hid (res = auto 3 (f.data.toList.drop 1)) := by rw [HR3.out]; exact auto_step (step2_pt hc) _
                clear HR3 HD'
                have hc' : ((f[0].toNat : Int) != 46) = false := by rw [bne_eq_false_iff_eq]; omega
                clear hc
                by_cases h1 : f.size = 1
                · have hl1 : ((f.size : Int) == 1) = true := by rw [beq_iff_eq]; omega
                  obtain rfl : res = false := by rw [HR4.out, drop_end f 1 (by omega)]; rfl
                  clear h1 HR4
                  go_wp2
                  go_ret
                  exact ⟨rfl, rfl⟩
                · have hl1 : ((f.size : Int) == 1) = false := by rw [beq_eq_false_iff_ne]; omega
                  go_wp2_with fail
                  go_loop [5] (fun i => ∃ j : Nat, 1 ≤ j ∧ j ≤ f.size ∧ i = .int .i64 j ∧ Hid (res = auto (if j = 1 then 3 else 4) (f.data.toList.drop j))) (fun i => f.size - (intOf i).toNat)
                  case atStart => exact ⟨1, by omega, by omega, rfl, HR4⟩
                  case round =>
                    clear HR4
                    obtain ⟨j, hj1, hj2, rfl, HR⟩ := hrel
                    by_cases hlt : j < f.size
                    · have HR1 := HR.out
                      rw [drop_cons f j hlt] at HR1
                      by_cases hd : dg f[j] = true
                      · have HR' : Hid (res = auto (if j + 1 = 1 then 3 else 4) (f.data.toList.drop (j + 1))) := by
                          rw [if_neg (by omega), HR1]
                          split
                          · exact auto_step (step3_dig hd) _
                          · exact auto_step (step4_dig hd) _
                        have hd' : digB (f[j].toNat : Int) = true := hd
                        clear hd HR HR1
                        go_wp2_with (go_at_call 24; refine (dig_any _ _).mono ?_; rintro e w' ⟨rfl, rfl⟩)
                        go_round
                        case rel => exact ⟨j + 1, by omega, by omega, by go_num, HR'⟩
                        case measure => simp [intOf]; omega
                      · have hd1 : dg f[j] = false := by simpa using hd
                        have hd' : digB (f[j].toNat : Int) = false := hd1
                        obtain rfl : res = false := by
                          rw [HR1]
                          split
                          · exact auto_stop (step3_no hd1) _
                          · exact auto_stop (step4_no hd1) _
                        clear hd hd1 HR HR1
                        go_wp2_with (go_at_call 24; refine (dig_any _ _).mono ?_; rintro e w' ⟨rfl, rfl⟩)
                        go_ret
                        exact ⟨rfl, rfl⟩
                    · obtain rfl : res = true := by rw [HR.out, drop_end f j (by omega), if_neg (by omega)]; rfl
                      clear HR
                      go_wp2
                      go_ret
                      exact ⟨rfl, rfl⟩
              · obtain rfl : res = false := by rw [HR3.out]; exact auto_stop (step2_no HD'.out hc) _
                have hc' : ((f[0].toNat : Int) != 46) = true := by rw [bne_iff_ne]; omega
                clear HR3 HD' hc
                go_wp2
                go_ret
                exact ⟨rfl, rfl⟩
      · have hke : k = s1.size := by omega
        have HR1 := HR.out
        rw [drop_end s1 k (by omega)] at HR1
        clear HR
        by_cases hk0 : k = 0
        · subst hk0
          obtain rfl : res = false := HR1
          go_wp2_with (go_at_call 24; refine (dig_any _ _).mono ?_; rintro e w' ⟨rfl, rfl⟩)
          go_ret
          exact ⟨rfl, rfl⟩
        · rw [if_neg hk0] at HR1
          obtain rfl : res = true := HR1
          have hk0' : ((k : Int) == 0) = false := by rw [beq_eq_false_iff_ne]; omega
          have hk1' : ((k : Int) == s1.size) = true := by rw [beq_iff_eq]; omega
          clear hke
          go_wp2_with (go_at_call 24; refine (dig_any _ _).mono ?_; rintro e w' ⟨rfl, rfl⟩)
          go_ret
          exact ⟨rfl, rfl⟩

theorem plain_any (s : ByteArray) (w : World) (hs : s.size ≤ 1048576) : Calls Try.prog 21 #[.string s] w fun e w' => e = .returned (.bool (auto 0 s.data.toList)) ∧ w' = w := by
  by_cases h : s.size = 0
  · exact plain_none s w h
  · exact plain_some s w hs (by omega)

end Go.Proofs.Qxb6604305a.Ip
