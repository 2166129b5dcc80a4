import Derived.Test.Qxb6604305aAuRead
import Derived.Test.Qxb6604305aIpAuto
namespace Go.Proofs.Qxb6604305a.Wp
open Go.RowKit Au

theorem frac_bytes (k u : Nat) : ∀ c ∈ (frac k u).map (fun n => UInt8.ofNat n.toNat), Ip.dg c = true := by
  intro c hc
  obtain ⟨n, hn, rfl⟩ := List.mem_map.1 hc
  obtain ⟨r, hr, rfl⟩ := List.mem_iff_getElem.1 hn
  have hl := frac_length k u
  have hg := frac_get k u r (by omega)
  rw [List.getElem?_eq_getElem hr] at hg
  rw [Option.some.inj hg]
  generalize u / 10 ^ (k - 1 - r) = x
  have h10 : x % 10 < 10 := Nat.mod_lt _ (by omega)
  generalize x % 10 = y at h10
  have e : ((48 : Int) + (y : Int)).toNat = 48 + y := by omega
  rw [e]
  apply Ip.dg_yes
  · rw [UInt8.toNat_ofNat', Nat.mod_eq_of_lt (by omega)]; omega
  · rw [UInt8.toNat_ofNat', Nat.mod_eq_of_lt (by omega)]; omega

/-- The text that appendUnits writes is taken by the automaton. -/
theorem text_plain {units : Int} {p : Nat} {t : List Int} (h : IsText units p t) : Ip.auto 0 (t.map fun n => UInt8.ofNat n.toNat) = true := by
  obtain ⟨K, h1, h2, h3, h4, rfl⟩ := h
  have := Ip.auto_text (decide (units < 0)) ((frac K (units.natAbs / 10 ^ p)).map fun n => UInt8.ofNat n.toNat) ((frac p units.natAbs).map fun n => UInt8.ofNat n.toNat)
    (by intro e; have := congrArg List.length e; simp [frac_length] at this; omega) (frac_bytes _ _) (frac_bytes _ _)
  rw [← this]
  congr 1
  simp only [List.map_append]
  congr 1
  · unfold sgn; by_cases h : units < 0 <;> simp [h]
  · congr 1
    cases p with
    | zero => rfl
    | succ p => simp [pt, frac]

theorem text_len {units : Int} {p : Nat} {t : List Int} (h : IsText units p t) (hp : p ≤ 40) : 1 ≤ t.length ∧ t.length ≤ 62 := by
  obtain ⟨K, h1, h2, h3, h4, rfl⟩ := h
  have e1 : (sgn units).length ≤ 1 := by unfold sgn; split <;> simp
  have e2 : (pt p).length ≤ 1 := by unfold pt; split <;> simp
  simp [frac_length]; omega

set_option maxHeartbeats 400000 in
theorem plain_any (units : Int) (p : Nat) (w : World) (hu1 : -9223372036854775808 ≤ units) (hu2 : units ≤ 9223372036854775807) (hp : p ≤ 40) :
    Calls Try.prog 4 #[.int .i64 units, .int .i32 p] w fun e w' => e = .returned (.bool true) ∧ Below w.heap.size w w' := by
  have hp2 : decide ((40 : Int) < (p : Int)) = false := by simp; omega
  go_enter Try.func4, Try.ntmps4
  go_wp2_with fail
  refine (zz_any _ units p (.slice none 0 0) 0 [] _ hu1 hu2 hp (.inl (World.ownsRow_nil _ _ _ _)) (Nat.le_refl _) (by omega)).mono ?_
  rintro e w1 ⟨v', t, rfl, ht, hown, hbel⟩
  have hlen := text_len ht hp
  simp only [Nat.zero_add, List.nil_append] at hown
  obtain ⟨_, g, cap, rfl, hcap, hmax, hg, hcell⟩ := own_bytes hown (by omega)
  have hcv := run_convert_bytes_arg (P := Try.prog) w1 22 5 Try.underlying22 Try.underlying5 g 0 t.length cap t rfl (fun i hi => by
    rw [Nat.zero_add]; exact hcell i _ (by simp [List.getD, List.getElem?_eq_getElem hi])) 9 Try.underlying9
  have hsz : (strOfNums t).size ≤ 1048576 := by rw [strOfNums_size]; omega
  have hpl := Ip.zzplain_any (strOfNums t) w1 hsz
  rw [strOfNums_data, text_plain ht] at hpl
  have HP := hide hpl
  clear hpl hcell hcap hmax hown hlen ht
  go_wp2_with fail
  refine HP.out.mono ?_
  rintro e w' ⟨rfl, rfl⟩
  go_wp2
  go_ret
  exact ⟨rfl, hbel⟩

theorem outside (a0 a1 : Int) (w : World) (h : a1 < 0 ∨ 40 < a1) :
    Calls Try.prog 4 #[.int .i64 a0, .int .i32 a1] w fun e w' => e = .returned (.bool true) ∧ Below w.heap.size w w' := by
  rcases h with h | h
  · have h1 : decide (a1 < 0) = true := by simpa using h
    go_enter Try.func4, Try.ntmps4
    go_wp2
    go_ret
    exact ⟨rfl, Below.refl _ _⟩
  · have h1 : decide (a1 < 0) = false := by simp; omega
    have h2 : decide (40 < a1) = true := by simpa using h
    go_enter Try.func4, Try.ntmps4
    go_wp2
    go_ret
    exact ⟨rfl, Below.refl _ _⟩

end Go.Proofs.Qxb6604305a.Wp
