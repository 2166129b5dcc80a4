import Derived.Test.Qxb6604305aAuWalk
namespace Go.Proofs.Qxb6604305a.Au
open Go.RowKit

/-! ### Plain facts on the text -/

theorem frac_get (k u r : Nat) (h : r < k) : (frac k u)[r]? = some (48 + ((u / 10 ^ (k - 1 - r) % 10 : Nat) : Int)) := by
  induction k generalizing r with
  | zero => omega
  | succ k ih =>
    cases r with
    | zero => simp [frac]
    | succ r => simp only [frac, List.getElem?_cons_succ]; rw [ih r (by omega)]; congr 4; congr 2; omega

theorem digit_step (u e : Nat) : u / 10 ^ e = u / 10 ^ (e + 1) * 10 + u / 10 ^ e % 10 := by
  rw [Nat.pow_succ, ← Nat.div_div_eq_div_mul]; omega

/-- A slice of the call's own that is not empty: where it lies, and its bytes. -/
theorem own_bytes {w : World} {B : Nat} {v : Value} {n : Nat} {t : List Int} (h : w.ownsRow B 5 1 v n (U t)) (hn : 0 < n) :
    t.length = n ∧ ∃ g cap, v = .slice (some ⟨g, 0, none⟩) n cap ∧ n ≤ cap ∧ cap ≤ maxLen ∧ B ≤ g ∧ ∀ (j : Nat) (c : Int), t[j]? = some c → w.cell? ⟨g, j, none⟩ = some (.int .u8 c) := by
  refine ⟨by have := h.1; simpa [U] using this, ?_⟩
  rcases h.2 with ⟨_, h0⟩ | ⟨g, cap, cur, rfl, hb, hg, hc, hm, _, _⟩
  · omega
  · refine ⟨g, cap, rfl, hc, hm, hb, fun j c hj => ?_⟩
    have hl : j < t.length := (List.getElem?_eq_some_iff.1 hj).1
    have ht : t.length = n := by have := h.1; simpa [U] using this
    rw [h.cellAt j (by omega)]
    simp [U, hj]

/-! ### Two callees -/

theorem zz_any (B : Nat) (units : Int) (places : Nat) (v : Value) (n : Nat) (xs : List Value) (w : World) (hu1 : -9223372036854775808 ≤ units) (hu2 : units ≤ 9223372036854775807) (hp : places ≤ 40)
    (hcan : CanApp B w v n xs) (hB : B ≤ w.heap.size) (hn : n ≤ 140737488000000) :
    Calls Try.prog 11 #[v, .int .i64 units, .int .i32 places] w fun e w' => ∃ v' t, e = .returned v' ∧ IsText units places t ∧ w'.ownsRow B 5 1 v' (n + t.length) (xs ++ U t) ∧ Below B w w' := by
  go_enter Try.func11, Try.ntmps11
  go_wp2_with (go_at_call 20; refine (au_any B units places v n xs _ hu1 hu2 hp hcan hB hn).mono ?_; rintro e w' ⟨v', t, rfl, ht, hown, hbel⟩)
  go_ret
  exact ⟨v', t, rfl, ht, hown, hbel⟩

theorem mag_any (units : Int) (w : World) (hu1 : -9223372036854775808 ≤ units) (hu2 : units ≤ 9223372036854775807) :
    Calls Try.prog 14 #[.int .i64 units] w fun e w' => e = .returned (.int .u64 units.natAbs) ∧ w' = w := by
  by_cases h : units < 0
  · go_enter Try.func14, Try.ntmps14
    go_wp2
    go_ret
    exact ⟨congrArg Ending.returned (congrArg (Value.int .u64) (by simp only [IntKind.wrap_u64]; omega)), rfl⟩
  · go_enter Try.func14, Try.ntmps14
    go_wp2
    go_ret
    exact ⟨congrArg Ending.returned (congrArg (Value.int .u64) (by omega)), rfl⟩

/-! ### The text's bytes, place by place -/

/-- The text, its whole part's number M', its digits K. -/
structure Txt (units : Int) (p K : Nat) (t : List Int) : Prop where
  one : 1 ≤ K
  few : K ≤ 20
  top : units.natAbs / 10 ^ p / 10 ^ K = 0
  lead : K = 1 ∨ units.natAbs / 10 ^ p / 10 ^ (K - 1) ≠ 0
  len : t.length = (sgn units).length + K + (pt p).length + p
  sign : units < 0 → t[0]? = some 45
  whole : ∀ r, r < K → t[(sgn units).length + r]? = some (48 + ((units.natAbs / 10 ^ p / 10 ^ (K - 1 - r) % 10 : Nat) : Int))
  point : 0 < p → t[(sgn units).length + K]? = some 46
  part : 0 < p → ∀ d, d < p → t[(sgn units).length + K + 1 + d]? = some (48 + ((units.natAbs / 10 ^ (p - 1 - d) % 10 : Nat) : Int))

theorem IsText.txt {units : Int} {p : Nat} {t : List Int} (h : IsText units p t) : ∃ K, Txt units p K t := by
  obtain ⟨K, h1, h2, h3, h4, rfl⟩ := h
  have hK := frac_length K (units.natAbs / 10 ^ p)
  have hp := frac_length p units.natAbs
  refine ⟨K, h1, h2, h3, h4, ?_, ?_, ?_, ?_, ?_⟩
  · simp [hK, hp]; omega
  · intro h; simp [sgn, h]
  · intro r hr
    rw [List.getElem?_append_right (by omega), Nat.add_sub_cancel_left, List.getElem?_append_left (by omega), frac_get K _ r hr]
  · intro h
    rw [List.getElem?_append_right (by omega), Nat.add_sub_cancel_left, List.getElem?_append_right (by omega), hK, Nat.sub_self]
    simp [pt, h]
  · intro h d hd
    have e : (pt p).length = 1 := by simp [pt, h]
    rw [List.getElem?_append_right (by omega), List.getElem?_append_right (by omega), List.getElem?_append_right (by omega), hK, e]
    rw [show (sgn units).length + K + 1 + d - (sgn units).length - K - 1 = d from by omega, frac_get p _ d hd]

theorem pt_zero : (pt 0).length = 0 := rfl

theorem dig_bd (x : Nat) : 48 ≤ (48 + ((x % 10 : Nat) : Int)) ∧ (48 + ((x % 10 : Nat) : Int)) ≤ 57 := by omega

theorem Txt.first {units : Int} {p K : Nat} {t : List Int} (h : Txt units p K t) (hK : 1 < K) : (48 + ((units.natAbs / 10 ^ p / 10 ^ (K - 1) % 10 : Nat) : Int)) ≠ 48 := by
  have h1 := h.top
  have h2 := h.lead
  have h3 := digit_step (units.natAbs / 10 ^ p) (K - 1)
  rw [show K - 1 + 1 = K from by omega, h1] at h3
  omega

/-- A digit of the whole part, as the reader meets it. -/
theorem Txt.readWhole {units : Int} {p K : Nat} {t : List Int} (h : Txt units p K t) (r q : Nat) (hr : r < K) (hM : units.natAbs ≤ 18446744073709551615) (hq : q = units.natAbs / 10 ^ p / 10 ^ (K - r)) :
    ∃ (c : Int) (q' : Nat), t[(sgn units).length + r]? = some c ∧ 48 ≤ c ∧ c ≤ 57 ∧ q' ≤ 18446744073709551615 ∧ (q : Int) * 10 + (c - 48) ≤ 18446744073709551615 ∧ (q' : Int) = q * 10 + (c - 48) ∧ q' = units.natAbs / 10 ^ p / 10 ^ (K - (r + 1)) ∧ (r = 0 → c = 48 + ((units.natAbs / 10 ^ p / 10 ^ (K - 1) % 10 : Nat) : Int)) := by
  have h1 := digit_step (units.natAbs / 10 ^ p) (K - 1 - r)
  rw [show K - 1 - r + 1 = K - r from by omega, ← hq] at h1
  have h2 : units.natAbs / 10 ^ p / 10 ^ (K - 1 - r) ≤ units.natAbs := Nat.le_trans (Nat.div_le_self _ _) (Nat.div_le_self _ _)
  refine ⟨_, _, h.whole r hr, (dig_bd _).1, (dig_bd _).2, Nat.le_trans h2 hM, by omega, by omega, by rw [show K - 1 - r = K - (r + 1) from by omega], ?_⟩
  intro h0
  subst h0
  rfl

theorem Txt.readPart {units : Int} {p K : Nat} {t : List Int} (h : Txt units p K t) (d q : Nat) (hd : d < p) (hM : units.natAbs ≤ 18446744073709551615) (hq : q = units.natAbs / 10 ^ (p - d)) :
    ∃ (c : Int) (q' : Nat), t[(sgn units).length + K + 1 + d]? = some c ∧ 48 ≤ c ∧ c ≤ 57 ∧ q' ≤ 18446744073709551615 ∧ (q : Int) * 10 + (c - 48) ≤ 18446744073709551615 ∧ (q' : Int) = q * 10 + (c - 48) ∧ q' = units.natAbs / 10 ^ (p - (d + 1)) := by
  have h1 := digit_step units.natAbs (p - 1 - d)
  rw [show p - 1 - d + 1 = p - d from by omega, ← hq] at h1
  have h2 : units.natAbs / 10 ^ (p - 1 - d) ≤ units.natAbs := Nat.div_le_self _ _
  exact ⟨_, _, h.part (by omega) d hd, (dig_bd _).1, (dig_bd _).2, Nat.le_trans h2 hM, by omega, by omega, by rw [show p - 1 - d = p - (d + 1) from by omega]⟩

set_option maxRecDepth 100000 in
set_option maxHeartbeats 1000000 in
theorem reads (units : Int) (p : Nat) (w : World) (hu1 : -9223372036854775808 ≤ units) (hu2 : units ≤ 9223372036854775807) (hp : p ≤ 40) :
    Calls Try.prog 5 #[.int .i64 units, .int .i32 p] w fun e w' => e = .returned (.bool true) ∧ Below w.heap.size w w' := by
  have hp1 : decide ((p : Int) < 0) = false := by simp
  have hp2 : decide ((40 : Int) < (p : Int)) = false := by simp; omega
  go_enter Try.func5, Try.ntmps5
  go_wp2_with fail
  refine (zz_any _ units p (.slice none 0 0) 0 [] _ hu1 hu2 hp (.inl (World.ownsRow_nil _ _ _ _)) (Nat.le_refl _) (by omega)).mono ?_
  rintro e w1 ⟨v', t, rfl, ht, hown, hbel⟩
  obtain ⟨K, hT⟩ := ht.txt
  have hlen := hT.len
  have hs2 : (pt p).length ≤ 1 := by unfold pt; split <;> simp
  have hs1 : (sgn units).length ≤ 1 := by unfold sgn; split <;> simp
  have hs3 := hT.one
  have hs4 := hT.few
  simp only [Nat.zero_add, List.nil_append] at hown
  obtain ⟨_, g, cap, rfl, hcap, hmax, hg, hcell⟩ := own_bytes hown (by omega)
  clear hown ht
  obtain ⟨L, hL⟩ : ∃ L, L = t.length := ⟨_, rfl⟩
  rw [← hL] at hcap ⊢
  obtain ⟨sl, hsl⟩ : ∃ sl, sl = (sgn units).length := ⟨_, rfl⟩
  have HL : Hid (L = sl + K + (pt p).length + p ∧ sl = (sgn units).length) := ⟨by rw [hL, hlen, hsl], hsl⟩
  have hL1 : L ≤ 62 := by omega
  have hL2 : 1 ≤ L := by omega
  rw [← hsl] at hs1
  clear hlen hsl hL hcap hmax
  obtain ⟨c0, hc0, hc0b⟩ : ∃ c : Int, t[0]? = some c ∧ 0 ≤ c ∧ c ≤ 255 ∧ (c == 45) = decide (units < 0) := by
    by_cases h : units < 0
    · exact ⟨45, hT.sign h, by omega, by omega, by simp [h]⟩
    · have e : (sgn units).length = 0 := by simp [sgn, h]
      have h0 := hT.whole 0 (by omega)
      rw [e] at h0
      have hb := dig_bd (units.natAbs / 10 ^ p / 10 ^ (K - 1 - 0))
      exact ⟨_, h0, by omega, by omega, by rw [decide_eq_false h, beq_eq_false_iff_ne]; omega⟩
  have hcl0 := hcell 0 c0 hc0
  clear hc0
  obtain ⟨hb1, hb2, hb3⟩ := hc0b
  have HC := hide hcell
  clear hcell
  go_upto_if 32 with fail
  go_cut [6, 7] (fun i neg wc => i = .int .i64 sl ∧ neg = .bool (decide (units < 0)) ∧ wc = w1)
  case first =>
    by_cases h : units < 0
    · have e1 : decide (units < 0) = true := by simpa using h
      rw [e1] at hb3
      go_wp2
      go_meet
      case rel => exact ⟨by rw [HL.out.2]; simp [sgn, h], by rw [e1], rfl⟩
    · have e1 : decide (units < 0) = false := by simpa using h
      rw [e1] at hb3
      go_wp2
      go_meet
      case rel => exact ⟨by rw [HL.out.2, sgn, if_neg (by omega)]; rfl, by rw [e1], rfl⟩
  case rest =>
    obtain ⟨rfl, rfl, hcw⟩ := hcut
    subst hcw
    clear hcl0 hb1 hb2 hb3 hp1 hp2
    obtain ⟨ng, hng⟩ : ∃ ng, ng = decide (units < 0) := ⟨_, rfl⟩
    rw [← hng]
    have Hng := hide hng
    clear hng
    have hM : units.natAbs ≤ 18446744073709551615 := by omega
    obtain ⟨F, hF⟩ : ∃ F : Int, F = 48 + ((units.natAbs / 10 ^ p / 10 ^ (K - 1) % 10 : Nat) : Int) := ⟨_, rfl⟩
    have hF1 : 48 ≤ F := by omega
    have hF2 : F ≤ 57 := by omega
    have HF := hide hF
    clear hF
    go_wp2_with fail
    go_loop [6, 8, 9, 10, 11, 12] (fun i m r d b f => (∃ (ri q : Nat) (f0 : Int), r = .int .i64 ri ∧ i = .int .i64 ((sl : Int) + ri) ∧ ri ≤ K ∧ d = .int .i64 0 ∧ b = .bool false ∧ m = .int .u64 q ∧ q ≤ 18446744073709551615 ∧ Hid (q = units.natAbs / 10 ^ p / 10 ^ (K - ri)) ∧ f = .int .u8 f0 ∧ 0 ≤ f0 ∧ f0 ≤ 255 ∧ Hid (0 < ri → f0 = F)) ∨
        (∃ (di q : Nat), 0 < p ∧ r = .int .i64 K ∧ i = .int .i64 ((sl : Int) + K + 1 + di) ∧ di ≤ p ∧ d = .int .i64 di ∧ b = .bool true ∧ m = .int .u64 q ∧ q ≤ 18446744073709551615 ∧ Hid (q = units.natAbs / 10 ^ (p - di)) ∧ f = .int .u8 F))
      (fun i _ _ _ _ _ => L - (intOf i).toNat)
    case atStart =>
      refine .inl ⟨0, 0, 0, rfl, by simp, by omega, rfl, rfl, rfl, by omega, ?_, rfl, by omega, by omega, fun h => by omega⟩
      exact hT.top.symm
    case round =>
      rcases hrel with ⟨ri, q, f0, rfl, rfl, hri, rfl, rfl, rfl, hq, hqe, rfl, hf1, hf2, hf3⟩ | ⟨di, q, hp0, rfl, rfl, hdi, rfl, rfl, rfl, hq, hqe, rfl⟩
      · by_cases hlt : ri < K
        · have hLk : sl + ri < L := by have := HL.out.1; omega
          obtain ⟨c, q', hc, hc1, hc2, hq', hov, e1, e2, e3⟩ := hT.readWhole ri q hlt hM hqe.out
          rw [← HL.out.2] at hc
          have hcl := HC.out _ _ hc
          have E := hide (And.intro e1 (And.intro e2 e3))
          clear e1 e2 e3 hc
          have hne : (c == 46) = false := by rw [beq_eq_false_iff_ne]; omega
          by_cases h0 : ri = 0
          · subst h0
            simp only [Nat.add_zero] at hcl
            go_wp2
            go_round
            case rel =>
              exact .inl ⟨1, q', c, rfl, rfl, by omega, rfl, rfl, by rw [E.out.1], hq', E.out.2.1, rfl, by omega, by omega, fun _ => by rw [HF.out]; exact E.out.2.2 rfl⟩
            case measure => simp [intOf]; omega
          · have h0' : ((ri : Int) == 0) = false := by rw [beq_eq_false_iff_ne]; omega
            go_wp2
            go_round
            case rel =>
              exact .inl ⟨ri + 1, q', f0, by go_num, by go_num, by omega, rfl, rfl, by rw [E.out.1], hq', E.out.2.1, rfl, hf1, hf2, fun _ => hf3.out (by omega)⟩
            case measure => simp [intOf]; omega
        · obtain rfl : ri = K := by omega
          have e0 : f0 = F := hf3.out (by omega)
          subst e0
          by_cases hp0 : 0 < p
          · have hLk : sl + ri < L := by have := HL.out.1; have : (pt p).length = 1 := by simp [pt, hp0]
                                         omega
            have hc := hT.point hp0
            rw [← HL.out.2] at hc
            have hcl := HC.out _ _ hc
            clear hc
            go_wp2
            go_round
            case rel =>
              refine .inr ⟨0, q, hp0, rfl, by go_num, by omega, rfl, rfl, rfl, hq, ?_, rfl⟩
              have := hqe.out
              rw [Nat.sub_self, Nat.pow_zero, Nat.div_one] at this
              exact this
            case measure => simp [intOf]; omega
          · obtain rfl : p = 0 := by omega
            have hLk : L = sl + ri := by
              have hz := HL.out.1
              rw [pt_zero] at hz
              omega
            have hqm : q = units.natAbs := by have := hqe.out; simpa using this
            subst hqm
            have hk0 : ((ri : Int) == 0) = false := by rw [beq_eq_false_iff_ne]; omega
            have hfr : Hid (1 < ri → (f0 == 48) = false) := fun h => by rw [beq_eq_false_iff_ne, HF.out]; exact hT.first h
            by_cases hneg : units < 0
            · obtain rfl : ng = true := by rw [Hng.out]; simpa using hneg
              by_cases h1 : 1 < ri
              · have h48 := hfr.out h1
                go_wp2_with (go_at_call 14; refine (mag_any _ _ hu1 hu2).mono ?_; rintro e w' ⟨rfl, rfl⟩)
                go_ret
                exact ⟨rfl, hbel⟩
              · go_wp2_with (go_at_call 14; refine (mag_any _ _ hu1 hu2).mono ?_; rintro e w' ⟨rfl, rfl⟩)
                go_ret
                exact ⟨rfl, hbel⟩
            · obtain rfl : ng = false := by rw [Hng.out]; simpa using hneg
              by_cases h1 : 1 < ri
              · have h48 := hfr.out h1
                go_wp2_with (go_at_call 14; refine (mag_any _ _ hu1 hu2).mono ?_; rintro e w' ⟨rfl, rfl⟩)
                go_ret
                exact ⟨rfl, hbel⟩
              · go_wp2_with (go_at_call 14; refine (mag_any _ _ hu1 hu2).mono ?_; rintro e w' ⟨rfl, rfl⟩)
                go_ret
                exact ⟨rfl, hbel⟩
      · have hpt : (pt p).length = 1 := by simp [pt, hp0]
        have hLe : L = sl + K + 1 + p := by have := HL.out.1; omega
        have HLe := hide hLe
        clear hLe hpt
        by_cases hlt : di < p
        · have hLk : sl + K + 1 + di < L := by have := HLe.out; omega
          obtain ⟨c, q', hc, hc1, hc2, hq', hov, e1, e2⟩ := hT.readPart di q hlt hM hqe.out
          rw [← HL.out.2] at hc
          have hcl := HC.out _ _ hc
          have E := hide (And.intro e1 e2)
          clear e1 e2 hc
          have hne : (c == 46) = false := by rw [beq_eq_false_iff_ne]; omega
          go_wp2
          go_round
          case rel =>
            exact .inr ⟨di + 1, q', hp0, rfl, by go_num, by omega, by go_num, rfl, by rw [E.out.1], hq', E.out.2, rfl⟩
          case measure => simp [intOf]; omega
        · obtain rfl : di = p := by omega
          have hLk : L = sl + K + 1 + di := HLe.out
          have hqm : q = units.natAbs := by have := hqe.out; simpa using this
          subst hqm
          have hk0 : ((K : Int) == 0) = false := by rw [beq_eq_false_iff_ne]; omega
          have hfr : Hid (1 < K → (F == 48) = false) := fun h => by rw [beq_eq_false_iff_ne, HF.out]; exact hT.first h
          by_cases hneg : units < 0
          · obtain rfl : ng = true := by rw [Hng.out]; simpa using hneg
            by_cases h1 : 1 < K
            · have h48 := hfr.out h1
              go_wp2_with (go_at_call 14; refine (mag_any _ _ hu1 hu2).mono ?_; rintro e w' ⟨rfl, rfl⟩)
              go_ret
              exact ⟨rfl, hbel⟩
            · go_wp2_with (go_at_call 14; refine (mag_any _ _ hu1 hu2).mono ?_; rintro e w' ⟨rfl, rfl⟩)
              go_ret
              exact ⟨rfl, hbel⟩
          · obtain rfl : ng = false := by rw [Hng.out]; simpa using hneg
            by_cases h1 : 1 < K
            · have h48 := hfr.out h1
              go_wp2_with (go_at_call 14; refine (mag_any _ _ hu1 hu2).mono ?_; rintro e w' ⟨rfl, rfl⟩)
              go_ret
              exact ⟨rfl, hbel⟩
            · go_wp2_with (go_at_call 14; refine (mag_any _ _ hu1 hu2).mono ?_; rintro e w' ⟨rfl, rfl⟩)
              go_ret
              exact ⟨rfl, hbel⟩

end Go.Proofs.Qxb6604305a.Au
