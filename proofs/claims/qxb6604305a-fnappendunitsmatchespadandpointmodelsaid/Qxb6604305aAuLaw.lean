import Derived.Test.Qxb6604305aAuModel
import Derived.Test.Qxb6604305aAuSame
import Derived.Test.Qxb6604305aAuClone
namespace Go.Proofs.Qxb6604305a.Au
open Go.RowKit

theorem no_more {x K J : Nat} (h : x / 10 ^ K = 0) (hJ : J = 1 ∨ x / 10 ^ (J - 1) ≠ 0) (h1 : 1 ≤ K) : J ≤ K := by
  rcases Nat.lt_or_ge K J with hlt | hge
  · exfalso
    have hx : x < 10 ^ K := by
      rcases Nat.lt_or_ge x (10 ^ K) with h' | h'
      · exact h'
      · have := Nat.div_pos h' (Nat.pow_pos (by omega)); omega
    have hle : 10 ^ K ≤ 10 ^ (J - 1) := Nat.pow_le_pow_right (by omega) (by omega)
    rcases hJ with h2 | h2
    · omega
    · exact h2 (Nat.div_eq_of_lt (Nat.lt_of_lt_of_le hx hle))
  · exact hge

/-- There is one such text. -/
theorem IsText.one {units : Int} {p : Nat} {t t' : List Int} (h : IsText units p t) (h' : IsText units p t') : t = t' := by
  obtain ⟨K, a1, a2, a3, a4, rfl⟩ := h
  obtain ⟨J, b1, b2, b3, b4, rfl⟩ := h'
  have e1 := no_more a3 b4 a1
  have e2 := no_more b3 a4 b1
  obtain rfl : K = J := by omega
  rfl

theorem IsText.len {units : Int} {p : Nat} {t : List Int} (h : IsText units p t) (hp : p ≤ 40) : 1 ≤ t.length ∧ t.length ≤ 62 := by
  obtain ⟨K, h1, h2, h3, h4, rfl⟩ := h
  have e1 : (sgn units).length ≤ 1 := by unfold sgn; split <;> simp
  have e2 : (pt p).length ≤ 1 := by unfold pt; split <;> simp
  simp [frac_length]; omega

/-- What the clone is: nil and empty, or a row of its own without room to spare. -/
def Cloned (w : World) (ao : Option Addr) (Z : List Int) : Prop := (ao = none ∧ Z = []) ∨ ∃ g, ao = some ⟨g, 0, none⟩ ∧ Own w g Z.length Z

theorem Cloned.bytes {w : World} {ao : Option Addr} {Z : List Int} (h : Cloned w ao Z) : Bytes w.heap.size w ao Z := by
  rcases h with h | ⟨g, hg, hO⟩
  · exact .inl h
  · exact .inr ⟨g, 0, hg, hO.lt, fun j c hj => by rw [Nat.zero_add]; exact hO.cell hj⟩

theorem Cloned.can {w w' : World} {ao : Option Addr} {Z : List Int} {N B : Nat} (h : Cloned w ao Z) (hZ : Z.length = N) (hb : Below w.heap.size w w') : CanApp B w' (.slice ao N N) N (U Z) := by
  subst hZ
  refine .inr ⟨ao, rfl, ?_, U_length Z, ?_⟩
  · intro e
    rcases h with ⟨_, rfl⟩ | ⟨g, hg, hO⟩
    · rfl
    · rw [e] at hg; cases hg
  · intro b hb' j u hu
    rcases h with ⟨h0, _⟩ | ⟨g, hg, hO⟩
    · rw [h0] at hb'; cases hb'
    · rw [hg] at hb'
      cases hb'
      rw [Addr.add_lit, Nat.zero_add]
      simp only [U, List.getElem?_map, Option.map_eq_some_iff] at hu
      obtain ⟨c, hj, rfl⟩ := hu
      exact (hO.below hb hO.lt).cell hj

/-- The argument, as the walk of the clone is told of it. -/
def Came (w : World) (a0 : Option Addr) (N : Nat) (Z : List Int) : Prop := (a0 = none ∧ N = 0 ∧ Z = []) ∨ ∃ x, a0 = some x ∧ ∀ (j : Nat) (c : Int), Z[j]? = some c → w.cell? (x.add j) = some (.int .u8 c)

theorem clone_any (a0 : Option Addr) (N cap : Nat) (Z : List Int) (w : World) (hZ : Z.length = N) (hN : N ≤ 1048576) (hc : Came w a0 N Z) :
    Calls Try.prog 9 #[.slice a0 N cap] w fun e w' => ∃ ao, e = .returned (.slice ao N N) ∧ Cloned w' ao Z ∧ Below w.heap.size w w' := by
  rcases hc with ⟨rfl, rfl, rfl⟩ | ⟨x, rfl, hc⟩
  · refine (clone_nil 0 cap w).mono ?_
    rintro e w' ⟨rfl, rfl⟩
    exact ⟨none, rfl, .inl ⟨rfl, rfl⟩, Below.refl _ _⟩
  · refine (clone_some x N cap Z w hZ hN hc).mono ?_
    rintro e w' ⟨rfl, hO, hB⟩
    exact ⟨_, rfl, .inr ⟨_, rfl, by rw [hZ]; exact hO⟩, hB⟩

set_option maxRecDepth 100000 in
set_option maxHeartbeats 1000000 in
theorem law_in (a0 : Option Addr) (N cap : Nat) (Z : List Int) (units : Int) (p : Nat) (w : World) (hZ : Z.length = N) (hN : N ≤ 1048576) (hc : Came w a0 N Z) (hu1 : -9223372036854775808 ≤ units) (hu2 : units ≤ 9223372036854775807) (hp : p ≤ 40) :
    Calls Try.prog 3 #[.slice a0 N cap, .int .i64 units, .int .i32 p] w fun e w' => e = .returned (.bool true) ∧ Below w.heap.size w w' := by
  have h8 := bytes_any a0 N cap units p w (by omega)
  rw [decide_eq_true hN] at h8
  have H8 := hide h8
  have H9 := hide (clone_any a0 N cap Z w hZ hN hc)
  have HZ := hide hZ
  have hN' : ¬ ((1048576 : Int) < (N : Int)) := by omega
  have hp2 : decide ((40 : Int) < (p : Int)) = false := by simp; omega
  clear h8 hZ hc
  go_enter Try.func3, Try.ntmps3
  go_wp2_with fail
  refine H8.out.mono ?_
  rintro e w' ⟨rfl, rfl⟩
  clear H8
  go_wp2_with fail
  refine H9.out.mono ?_
  rintro e w1 ⟨ao, rfl, hcl, hB1⟩
  clear H9
  have Hcl := hide hcl
  clear hcl
  go_wp2_with fail
  refine (model_any units p ao N N Z _ hu1 hu2 hp HZ.out hN Hcl.out.bytes).mono ?_
  rintro e w2 ⟨t, c, rfl, ht, hOw, hB2⟩
  have hlen := ht.len hp
  have HT := hide ht
  clear ht
  go_wp2_with fail
  refine (zz_any w2.heap.size units p (.slice ao N N) N (U Z) _ hu1 hu2 hp (Hcl.out.can HZ.out hB2) (Nat.le_refl _) (by omega)).mono ?_
  rintro e w3 ⟨v', t', rfl, ht', hown, hB3⟩
  have et : t' = t := ht'.one HT.out
  subst et
  rw [← U_append] at hown
  obtain ⟨hl3, g3, c3, rfl, _, _, _, hcell3⟩ := own_bytes hown (by omega)
  have hOw3 := hOw.below hB3 hOw.lt
  have hsame := same_any (Z ++ t') (N + t'.length) g3 c3 w1.heap.size c w3 hl3 (by omega) hcell3 (fun j c hj => hOw3.cell hj)
  have HS := hide hsame
  have hBfin : Below w.heap.size w w3 := (hB1.trans (hB2.mono hB1.size)).trans (hB3.mono (Nat.le_trans hB1.size hB2.size))
  clear hsame hcell3 hown hOw hOw3 hB1 hB2 hB3 HT ht' Hcl hl3
  go_wp2_with fail
  refine HS.out.mono ?_
  rintro e w4 ⟨rfl, nq, rfl⟩
  clear HS
  go_wp2
  go_ret
  exact ⟨rfl, below_drewN hBfin nq⟩

set_option maxRecDepth 100000 in
set_option maxHeartbeats 1000000 in
theorem law_out (a0 : Option Addr) (N cap : Nat) (units places : Int) (w : World) (hN : N ≤ 9223372036854775807) (h : 1048576 < N ∨ places < 0 ∨ 40 < places) :
    Calls Try.prog 3 #[.slice a0 N cap, .int .i64 units, .int .i32 places] w fun e w' => e = .returned (.bool true) ∧ Below w.heap.size w w' := by
  have h8 := bytes_any a0 N cap units places w (by omega)
  by_cases hb : N ≤ 1048576
  · rw [decide_eq_true hb] at h8
    have H8 := hide h8
    have hN' : ¬ ((1048576 : Int) < (N : Int)) := by omega
    clear h8
    by_cases hp : places < 0
    · have h1 : decide (places < 0) = true := by simpa using hp
      clear h
      go_enter Try.func3, Try.ntmps3
      go_wp2_with fail
      refine H8.out.mono ?_
      rintro e w' ⟨rfl, rfl⟩
      clear H8
      go_wp2
      go_ret
      exact ⟨rfl, Below.refl _ _⟩
    · have h1 : decide (places < 0) = false := by simp; omega
      have h2 : decide (40 < places) = true := by simp; omega
      clear h
      go_enter Try.func3, Try.ntmps3
      go_wp2_with fail
      refine H8.out.mono ?_
      rintro e w' ⟨rfl, rfl⟩
      clear H8
      go_wp2
      go_ret
      exact ⟨rfl, Below.refl _ _⟩
  · rw [decide_eq_false hb] at h8
    have H8 := hide h8
    clear h8 h
    go_enter Try.func3, Try.ntmps3
    go_wp2_with fail
    refine H8.out.mono ?_
    rintro e w' ⟨rfl, rfl⟩
    clear H8
    go_wp2
    go_ret
    exact ⟨rfl, Below.refl _ _⟩

end Go.Proofs.Qxb6604305a.Au
