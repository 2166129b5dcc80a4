import Derived.Test.Qxb6604305aAuDigits
namespace Go.Proofs.Qxb6604305a.Au
open Go.RowKit

theorem take_push {l : List Int} {j : Nat} {c : Int} (h : l[j]? = some c) : l.take j ++ [c] = l.take (j + 1) := by
  rw [List.take_add_one, h]; rfl
theorem take_push' {o l : List Int} {j : Nat} {c : Int} (h : l[j]? = some c) : o ++ l.take j ++ [c] = o ++ l.take (j + 1) := by
  rw [List.append_assoc, take_push h]
theorem get_some {l : List Int} {j : Nat} (h : j < l.length) : ∃ c, l[j]? = some c := ⟨l[j], by simp [h]⟩

theorem isText_of (units : Int) (M p K T : Nat) (hM : units.natAbs = M) (hK3 : M / 10 ^ K = 0) (hK4 : K = 1 ∨ M / 10 ^ (K - 1) ≠ 0) (hT1 : K ≤ T) (hT2 : p + 1 ≤ T) (hT4 : T ≤ p + 20) (HT : T = K ∨ T = p + 1) :
    IsText units p (sgn units ++ ((frac T M).take (T - p) ++ (pt p ++ (frac T M).drop (T - p)))) := by
  have hsp := frac_split (T - p) p M
  rw [show T - p + p = T from by omega] at hsp
  have hl := frac_length (T - p) (M / 10 ^ p)
  have e1 : (frac T M).take (T - p) = frac (T - p) (M / 10 ^ p) := by rw [hsp, List.take_left' hl]
  have e2 : (frac T M).drop (T - p) = frac p M := by rw [hsp, List.drop_left' hl]
  refine ⟨T - p, by omega, by omega, ?_, ?_, by rw [e1, e2, hM]⟩
  · rw [hM, Nat.div_div_eq_div_mul, ← Nat.pow_add, show p + (T - p) = T from by omega]
    apply Nat.div_eq_of_lt
    have h1 : M < 10 ^ K := by
      rcases Nat.lt_or_ge M (10 ^ K) with h | h
      · exact h
      · have := Nat.div_pos h (Nat.pow_pos (by omega)); omega
    exact Nat.lt_of_lt_of_le h1 (Nat.pow_le_pow_right (by omega) hT1)
  · rcases HT with h | h
    · rcases hK4 with h4 | h4
      · exact .inl (by omega)
      · refine .inr ?_
        rw [hM, Nat.div_div_eq_div_mul, ← Nat.pow_add, show p + (T - p - 1) = K - 1 from by omega]
        exact h4
    · exact .inl (by omega)

/-- The end of the model's walk: what the last slice holds is what came in and a text. -/
theorem model_end {units : Int} {M p K T N n L C g : Nat} {Z O D P F : List Int} {w w' : World} (hM : units.natAbs = M) (hK : M / 10 ^ K = 0 ∧ (K = 1 ∨ M / 10 ^ (K - 1) ≠ 0)) (hT1 : K ≤ T) (hT2 : p + 1 ≤ T) (hT4 : T ≤ p + 20) (HT : T = K ∨ T = p + 1)
    (hE : Z ++ sgn units = O ∧ frac K M = D ∧ D.length = K) (_hn : O.length = n) (hZ : Z.length = N) (hP : frac T M = P ∧ P.length = T)
    (hF : F = O ++ (P.take (T - p) ++ (pt p ++ P.drop (T - p)))) (hL : F.length = L) (hO : Own w' g C F) (hB : Below g w w') :
    ∃ t c, Ending.returned (.slice (some ⟨g, 0, none⟩) L C) = Ending.returned (.slice (some ⟨g, 0, none⟩) (N + t.length) c) ∧ IsText units p t ∧ Own w' g c (Z ++ t) ∧ Below g w w' := by
  have ht := isText_of units M p K T hM hK.1 hK.2 hT1 hT2 hT4 HT
  rw [hP.1] at ht
  have e : F = Z ++ (sgn units ++ (P.take (T - p) ++ (pt p ++ P.drop (T - p)))) := by rw [hF, ← hE.1, List.append_assoc]
  refine ⟨_, C, ?_, ht, by rw [← e]; exact hO, hB⟩
  rw [← hL, e, List.length_append, hZ]

set_option maxRecDepth 100000 in
set_option maxHeartbeats 4000000 in
theorem model_any (units : Int) (p : Nat) (ao : Option Addr) (N cap : Nat) (Z : List Int) (w : World) (hu1 : -9223372036854775808 ≤ units) (hu2 : units ≤ 9223372036854775807) (hp : p ≤ 40)
    (hZ : Z.length = N) (hN : N ≤ 1048576) (hb : Bytes w.heap.size w ao Z) :
    Calls Try.prog 10 #[.slice ao N cap, .int .i64 units, .int .i32 p] w fun e w' => ∃ t c, e = .returned (.slice (some ⟨w.heap.size, 0, none⟩) (N + t.length) c) ∧ IsText units p t ∧ Own w' w.heap.size c (Z ++ t) ∧ Below w.heap.size w w' := by
  obtain ⟨i0, hi, hz0, hz1, hz2⟩ := info_parts info5
  obtain ⟨C, hC⟩ : ∃ C, C = N + p + 24 := ⟨_, rfl⟩
  have HZ := hide hZ
  have HC := hide hC
  have hC1 : N + p + 24 ≤ C := by omega
  have hC2 : C ≤ 1048640 := by omega
  clear hZ hC
  go_enter Try.func10, Try.ntmps10
  go_wp2_with (at_make; refine wpList_make_own _ rfl _ _ 22 rfl w.heap.size 5 i0 (.int .u8 0) 1 Try.underlying22 hi hz0 hz1 .i64 .i64 ((N : Int) + p + 24) C rfl rfl (by have := HC.out; omega) (by rw [hz2]; omega) (by unfold maxLen; omega) (Nat.le_refl _) ?_)
  intro w1 hown1 hgr1
  have hO1 := Own.made hown1
  have hB1 : Below w.heap.size w w1 := below_grown hgr1 (Nat.le_refl _) (fun k hk => by cases hk)
  have HI := hide (And.intro hi (And.intro hz0 (And.intro hz1 hz2)))
  clear hown1 hgr1 hi hz0 hz1 hz2 HC
  go_wp2_with fail
  go_loopw [8, 9] (fun ov iv wr => ∃ k : Nat, k ≤ N ∧ iv = .int .i64 k ∧ ov = .slice (some ⟨w.heap.size, 0, none⟩) k C ∧ Own wr w.heap.size C (Z.take k) ∧ Below w.heap.size w wr) (fun _ iv _ => N - (intOf iv).toNat)
  case atStart => exact ⟨0, by omega, rfl, rfl, hO1, hB1⟩
  case round =>
    clear hO1 hB1
    obtain ⟨k, hk, rfl, rfl, hO, hB⟩ := hrel
    have hS := hO.lt
    by_cases hlt : k < N
    · obtain ⟨c, hc⟩ := get_some (l := Z) (j := k) (by rw [HZ.out]; exact hlt)
      obtain ⟨g1, off1, rfl, hcell⟩ := (hb.later hB).at hc
      have Hc := hide hc
      clear hc
      go_wp2_with (at_builtin; refine wpList_push rfl (.tmp 32) (.tmp 37) rfl w.heap.size C (Z.take k) c k (by rw [List.length_take, HZ.out]; omega) rfl hO rfl (by omega) ?_)
      intro w' hO' hg'
      rw [take_push Hc.out] at hO'
      go_wp2
      go_roundw
      case rel => exact ⟨k + 1, by omega, by go_num, rfl, hO', below_row hB hg' (by omega) (Nat.le_refl _)⟩
      case measure => simp [intOf]; omega
    · obtain rfl : k = N := by omega
      rw [List.take_of_length_le (by rw [HZ.out]; exact Nat.le_refl _)] at hO
      go_upto_if 40 with fail
      go_cut [8] (fun v wc => ∃ n1 : Nat, v = .slice (some ⟨w.heap.size, 0, none⟩) n1 C ∧ n1 ≤ k + 1 ∧ k ≤ n1 ∧ Hid ((Z ++ sgn units).length = n1) ∧ Own wc w.heap.size C (Z ++ sgn units) ∧ Below w.heap.size w wc)
      case first =>
        by_cases h : units < 0
        · go_wp2_with (at_builtin; refine wpList_push rfl (.tmp 41) (.tmp 42) rfl w.heap.size C Z 45 k HZ.out rfl hO rfl (by omega) ?_)
          intro w' hO' hg'
          go_wp2
          go_meet
          case rel =>
            have e : sgn units = [45] := by simp [sgn, h]
            rw [e]
            exact ⟨k + 1, rfl, by omega, by omega, by show _ = _; simp [HZ.out], hO', below_row hB hg' (by omega) (Nat.le_refl _)⟩
        · go_wp2
          go_meet
          case rel =>
            have e : sgn units = [] := by simp only [sgn]; rw [if_neg (by omega)]
            rw [e, List.append_nil]
            exact ⟨k, rfl, by omega, by omega, HZ.out, hO, hB⟩
      case rest =>
        clear hO hB hS hlt hk
        obtain ⟨n1, rfl, hn1, hn2, Hn1, hO, hB⟩ := hcut
        have hS := hO.lt
        have hM : units.natAbs ≤ 18446744073709551615 := by omega
        go_wp2_with fail
        refine (mag_any units _ hu1 hu2).mono ?_
        rintro e w2 ⟨rfl, hw2⟩
        subst hw2
        obtain ⟨M, hMe⟩ : ∃ M, units.natAbs = M := ⟨_, rfl⟩
        rw [hMe] at hM ⊢
        have HMe := hide hMe
        clear hMe
        go_wp2_with fail
        refine (digits_any M _ hM).mono ?_
        rintro e w3 ⟨K, rfl, hK1, hK2, hK3, hK4, hD, hB3, hS3⟩
        have HK := hide (And.intro hK3 hK4)
        have hO3 := hO.below hB3 hS
        have hB' : Below w.heap.size w w3 := hB.trans (hB3.mono (Nat.le_of_lt hS))
        obtain ⟨gd, hgd⟩ : ∃ gd, w2.heap.size = gd := ⟨_, rfl⟩
        rw [hgd] at hD hS hS3 ⊢
        clear hK3 hK4 hO hB hB3 hgd
        clear hb
        go_upto_if 52 with fail
        go_cut [11] (fun tv wd => ∃ T : Nat, tv = .int .i64 T ∧ K ≤ T ∧ p + 1 ≤ T ∧ T ≤ 41 ∧ T ≤ p + 20 ∧ Hid (T = K ∨ T = p + 1) ∧ wd = w3)
        case first =>
          by_cases h : K < p + 1
          · go_wp2
            go_meet
            case rel => exact ⟨p + 1, by go_num, by omega, by omega, by omega, by omega, .inr rfl, rfl⟩
          · go_wp2
            go_meet
            case rel => exact ⟨K, rfl, by omega, by omega, by omega, by omega, .inl rfl, rfl⟩
        case rest =>
          obtain ⟨T, rfl, hT1, hT2, hT3, hT4, HT, hwd⟩ := hcut
          subst hwd
          obtain ⟨hi, hz0, hz1, hz2⟩ := HI.out
          go_wp2_with (at_make; refine wpList_make_own _ rfl _ _ 22 rfl w.heap.size 5 i0 (.int .u8 0) 1 Try.underlying22 hi hz0 hz1 .i64 .i64 (T : Int) T rfl rfl rfl (by rw [hz2]; omega) (by unfold maxLen; omega) (by omega) ?_)
          intro w4 hown4 hgr4
          obtain ⟨O, hOe⟩ : ∃ O, Z ++ sgn units = O := ⟨_, rfl⟩
          obtain ⟨D, hDe⟩ : ∃ D, frac K M = D := ⟨_, rfl⟩
          have hDl : D.length = K := by rw [← hDe]; exact frac_length _ _
          rw [hOe] at Hn1 hO3
          rw [hDe] at hD
          obtain ⟨gp, hgp⟩ : ∃ gp, wc.heap.size = gp := ⟨_, rfl⟩
          rw [hgp] at hown4 hS3 ⊢
          have hP4 := Own.made hown4
          have hO4 := hO3.kept hgr4 (by simp)
          have hD4 := hD.kept hgr4 (by simp)
          have hB4 : Below w.heap.size w w4 := hB'.grown hgr4 (by omega) (fun k hk => by cases hk)
          have HE := hide (And.intro hOe (And.intro hDe hDl))
          clear hown4 hgr4 hO3 hD hB' hgp hOe hDe hDl hi hz0 hz1 hz2 HI
          go_wp2_with fail
          go_loopw [12, 13] (fun pv iv wr => ∃ j : Nat, K + j ≤ T ∧ iv = .int .i64 ((K : Int) + j) ∧ pv = .slice (some ⟨gp, 0, none⟩) j T ∧ Own wr gp T (List.replicate j 48) ∧ Own wr w.heap.size C O ∧ Own wr gd 20 D ∧ Below w.heap.size w wr) (fun _ iv _ => T - (intOf iv).toNat)
          case atStart => exact ⟨0, by omega, by simp, rfl, hP4, hO4, hD4, hB4⟩
          case round =>
            clear hP4 hO4 hD4 hB4
            obtain ⟨j, hj, rfl, rfl, hP, hO, hD, hB⟩ := hrel
            have hSp := hP.lt
            by_cases hlt : K + j < T
            · go_wp2_with (at_builtin; refine wpList_push rfl (.tmp 64) (.tmp 65) rfl gp T (List.replicate j 48) 48 j (by simp) rfl hP rfl (by omega) ?_)
              intro w' hP' hg'
              rw [← List.replicate_succ'] at hP'
              go_wp2
              go_roundw
              case rel => exact ⟨j + 1, by omega, by go_num, rfl, hP', hO.kept hg' (by simp; omega), hD.kept hg' (by simp; omega), below_row hB hg' (by omega) (by omega)⟩
              case measure => simp [intOf]; omega
            · obtain ⟨R, hR⟩ : ∃ R, R = j := ⟨_, rfl⟩
              rw [← hR] at hP ⊢
              have hRT : R + K ≤ T := by omega
              have hRT2 : T ≤ K + R := by omega
              have HR : Hid (R + K = T) := by show _ = _; omega
              clear hR hlt
              go_wp2_with fail
              go_loopw [12, 14] (fun pv iv wr => ∃ j : Nat, j ≤ K ∧ iv = .int .i64 j ∧ pv = .slice (some ⟨gp, 0, none⟩) (R + j) T ∧ Own wr gp T (List.replicate R 48 ++ D.take j) ∧ Own wr w.heap.size C O ∧ Own wr gd 20 D ∧ Below w.heap.size w wr) (fun _ iv _ => K - (intOf iv).toNat)
              case atStart => exact ⟨0, by omega, rfl, rfl, by simpa using hP, hO, hD, hB⟩
              case round =>
                clear hP hO hD hB hj
                obtain ⟨j, hj, rfl, rfl, hP, hO, hD, hB⟩ := hrel
                have hSp := hP.lt
                by_cases hlt : j < K
                · obtain ⟨c, hc⟩ := get_some (l := D) (j := j) (by rw [HE.out.2.2]; exact hlt)
                  have hcell := hD.cell hc
                  have Hc := hide hc
                  clear hc
                  go_wp2_with (at_builtin; refine wpList_push rfl (.tmp 73) (.tmp 78) rfl gp T (List.replicate R 48 ++ D.take j) c (R + j) (by simp [HE.out.2.2]; omega) rfl hP rfl (by omega) ?_)
                  intro w' hP' hg'
                  rw [take_push Hc.out] at hP'
                  clear hcell
                  go_wp2
                  go_roundw
                  case rel => exact ⟨j + 1, by omega, by go_num, rfl, hP', hO.kept hg' (by simp; omega), hD.kept hg' (by simp; omega), below_row hB hg' (by omega) (by omega)⟩
                  case measure => simp [intOf]; omega
                · obtain rfl : j = K := by omega
                  obtain ⟨P, hPe⟩ : ∃ P, frac T M = P := ⟨_, rfl⟩
                  have hP2 : Own wr gp T P := by
                    have e1 : D.take j = frac j M := by rw [List.take_of_length_le (by rw [HE.out.2.2]; omega), HE.out.2.1]
                    rw [e1, ← frac_pad R j M HK.out.1, HR.out, hPe] at hP
                    exact hP
                  have hPl : P.length = T := by rw [← hPe]; exact frac_length _ _
                  have HPe := hide (And.intro hPe hPl)
                  clear hP hD hPe hPl
                  have hP := hP2
                  clear hP2
                  have hQ1 : p ≤ T := by omega
                  go_wp2_with fail
                  go_loopw [8, 16] (fun ov iv wr => ∃ j : Nat, p + j ≤ T ∧ iv = .int .i64 j ∧ ov = .slice (some ⟨w.heap.size, 0, none⟩) (n1 + j) C ∧ Own wr w.heap.size C (O ++ P.take j) ∧ Own wr gp T P ∧ Below w.heap.size w wr) (fun _ iv _ => T - (intOf iv).toNat)
                  case atStart => exact ⟨0, by omega, rfl, rfl, by simpa using hO, hP, hB⟩
                  case round =>
                    clear hO hP hB hlt hj
                    obtain ⟨j, hj, rfl, rfl, hO, hP, hB⟩ := hrel
                    have hSp := hP.lt
                    by_cases hlt : p + j < T
                    · obtain ⟨c, hc⟩ := get_some (l := P) (j := j) (by rw [HPe.out.2]; omega)
                      have hcell := hP.cell hc
                      have Hc := hide hc
                      clear hc
                      go_wp2_with (at_builtin; refine wpList_push rfl (.tmp 88) (.tmp 93) rfl w.heap.size C (O ++ P.take j) c (n1 + j) (by rw [List.length_append, Hn1.out, List.length_take, HPe.out.2]; omega) rfl hO rfl (by omega) ?_)
                      intro w' hO' hg'
                      rw [take_push Hc.out] at hO'
                      clear hcell
                      go_wp2
                      go_roundw
                      case rel => exact ⟨j + 1, by omega, by go_num, rfl, hO', hP.kept hg' (by simp; omega), below_row hB hg' (by omega) (Nat.le_refl _)⟩
                      case measure => simp [intOf]; omega
                    · have HQ : Hid (T - p = j) := by show _ = _; omega
                      have hQl : (P.take j).length = j := by rw [List.length_take, HPe.out.2]; omega
                      by_cases hp0 : 0 < p
                      · obtain ⟨F, hF⟩ : ∃ F, P.drop j = F := ⟨_, rfl⟩
                        obtain ⟨G, hG⟩ : ∃ G, P.take j = G := ⟨_, rfl⟩
                        have hFl : F.length = p := by rw [← hF, List.length_drop, HPe.out.2]; omega
                        rw [hG] at hQl hO
                        have HF := hide (And.intro hF (And.intro hG (And.intro hFl hQl)))
                        clear hF hG hFl hQl
                        have hlt2 : T ≤ p + j := by omega
                        clear hlt
                        go_wp2_with (at_builtin; refine wpList_push rfl (.tmp 97) (.tmp 98) rfl w.heap.size C (O ++ G) 46 (n1 + j) (by rw [List.length_append, Hn1.out, HF.out.2.2.2]) rfl hO rfl (by omega) ?_)
                        intro w5 hO5 hg5
                        have hP5 := hP.kept hg5 (by simp; omega)
                        have hB5 := below_row hB hg5 (by omega) (Nat.le_refl _)
                        clear hO hg5 hP hB
                        go_wp2_with fail
                        go_loopw [8, 17] (fun ov iv wr => ∃ i : Nat, i ≤ p ∧ iv = .int .i64 ((T : Int) - p + i) ∧ ov = .slice (some ⟨w.heap.size, 0, none⟩) (n1 + j + 1 + i) C ∧ Own wr w.heap.size C (O ++ (G ++ 46 :: F.take i)) ∧ Own wr gp T P ∧ Below w.heap.size w wr) (fun _ iv _ => T - (intOf iv).toNat)
                        case atStart => exact ⟨0, by omega, by simp, rfl, hO5, hP5, hB5⟩
                        case round =>
                          clear hO5 hP5 hB5
                          obtain ⟨i, hi, rfl, rfl, hO, hP, hB⟩ := hrel
                          have hSp := hP.lt
                          by_cases hlt : i < p
                          · obtain ⟨c, hc⟩ := get_some (l := F) (j := i) (by rw [HF.out.2.2.1]; exact hlt)
                            have hc2 : P[T - p + i]? = some c := by
                              rw [HQ.out, ← List.getElem?_drop, HF.out.1]; exact hc
                            have hcell := hP.cell hc2
                            have Hc := hide hc
                            clear hc hc2
                            go_wp2_with (at_builtin; refine wpList_push rfl (.tmp 106) (.tmp 111) rfl w.heap.size C (O ++ (G ++ 46 :: F.take i)) c (n1 + j + 1 + i) (by simp [Hn1.out, HF.out.2.2.2, HF.out.2.2.1]; omega) rfl hO rfl (by omega) ?_)
                            intro w' hO' hg'
                            rw [take_push Hc.out] at hO'
                            clear hcell
                            go_wp2
                            go_roundw
                            case rel => exact ⟨i + 1, by omega, by go_num, rfl, hO', hP.kept hg' (by simp; omega), below_row hB hg' (by omega) (Nat.le_refl _)⟩
                            case measure => simp [intOf]; omega
                          · go_wp2
                            go_ret
                            obtain rfl : i = p := by omega
                            have hfull : F.take i = F := List.take_of_length_le (by rw [HF.out.2.2.1]; exact Nat.le_refl _)
                            rw [hfull] at hO
                            refine model_end HMe.out HK.out hT1 hT2 hT4 HT.out HE.out Hn1.out HZ.out HPe.out ?_ ?_ hO hB
                            · rw [HQ.out, HF.out.1, HF.out.2.1]
                              simp [pt, hp0]
                            · simp [Hn1.out, HF.out.2.2.2, HF.out.2.2.1]; omega
                      · go_wp2
                        go_ret
                        obtain rfl : p = 0 := by omega
                        refine model_end HMe.out HK.out hT1 hT2 hT4 HT.out HE.out Hn1.out HZ.out HPe.out ?_ ?_ hO hB
                        · have ej : T = j := HQ.out
                          rw [Nat.sub_zero, ej, List.drop_of_length_le (by rw [HPe.out.2]; omega)]
                          simp [pt]
                        · rw [List.length_append, Hn1.out, hQl]

end Go.Proofs.Qxb6604305a.Au
