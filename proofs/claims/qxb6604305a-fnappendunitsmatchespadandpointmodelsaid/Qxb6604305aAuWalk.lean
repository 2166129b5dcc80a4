import Derived.Test.Qxb6604305aAuLaws
import Derived.Deep.DeepCutAuto
namespace Go.Proofs.Qxb6604305a.Au
open Go.RowKit

def sgn (units : Int) : List Int := if units < 0 then [45] else []
def pt (p : Nat) : List Int := if 0 < p then [46] else []

/-- What appendUnits appends: the sign, the K digits of the whole part (no zero ahead), the point, the digits behind it. -/
def IsText (units : Int) (p : Nat) (t : List Int) : Prop :=
  ∃ K, 1 ≤ K ∧ K ≤ 20 ∧ units.natAbs / 10 ^ p / 10 ^ K = 0 ∧ (K = 1 ∨ units.natAbs / 10 ^ p / 10 ^ (K - 1) ≠ 0) ∧
    t = sgn units ++ (frac K (units.natAbs / 10 ^ p) ++ (pt p ++ frac p units.natAbs))

theorem wrap_neg (units : Int) (h1 : -9223372036854775808 ≤ units) (h : units < 0) :
    -9223372036854775808 ≤ wrap64 (-units) ∧ wrap64 (-units) ≤ 9223372036854775807 ∧ IntKind.u64.wrap (wrap64 (-units)) = units.natAbs := by
  rw [IntKind.wrap_u64]; unfold wrap64; omega

theorem wrap_pos (units : Int) (h1 : units ≤ 9223372036854775807) (h : ¬ units < 0) : IntKind.u64.wrap units = units.natAbs := by
  rw [IntKind.wrap_u64]; omega

theorem fin {B : Nat} {units : Int} {k n n' a j q M : Nat} {xs xs' : List Value} {w wc w' : World} {o : Obj} {v' : Value}
    (hM : M = units.natAbs / 10 ^ k) (hqe : q = M / 10 ^ j) (hne : j = 0 ∨ q ≠ 0) (hq : q / 10 = M / 10 ^ (j + 1)) (h0 : q / 10 = 0) (hj : j ≤ 19)
    (hlen : (frac (j + 1) M ++ (pt k ++ frac k units.natAbs)).length = 61 - (a - j - 1)) (hxs : n' = n + (sgn units).length ∧ xs' = xs ++ U (sgn units))
    (hown : w'.ownsRow B 5 1 v' (n' + (61 - (a - j - 1))) (xs' ++ U (frac (j + 1) M ++ (pt k ++ frac k units.natAbs)))) (hbel : Below B w wc) (hB : B ≤ wc.heap.size) (hbel' : Below B (wc.alloc o) w') :
    ∃ v t, Ending.returned v' = Ending.returned v ∧ IsText units k t ∧ w'.ownsRow B 5 1 v (n + t.length) (xs ++ U t) ∧ Below B w w' := by
  obtain ⟨rfl, rfl⟩ := hxs
  refine ⟨v', sgn units ++ (frac (j + 1) M ++ (pt k ++ frac k units.natAbs)), rfl, ⟨j + 1, by omega, by omega, ?_, ?_, by rw [hM]⟩, ?_, (hbel.alloc hB o).trans hbel'⟩
  · rw [← hM, ← hq, h0]
  · rcases hne with h | h
    · exact .inl (by omega)
    · exact .inr (by rw [← hM, Nat.add_sub_cancel, ← hqe]; exact h)
  · have e1 : n + (sgn units ++ (frac (j + 1) M ++ (pt k ++ frac k units.natAbs))).length = n + (sgn units).length + (61 - (a - j - 1)) := by
      rw [List.length_append, hlen, Nat.add_assoc]
    rw [e1, U_append (sgn units), ← List.append_assoc xs]
    exact hown

set_option maxHeartbeats 400000 in
theorem au_any (B : Nat) (units : Int) (places : Nat) (v : Value) (n : Nat) (xs : List Value) (w : World) (hu1 : -9223372036854775808 ≤ units) (hu2 : units ≤ 9223372036854775807) (hp : places ≤ 40)
    (hcan : CanApp B w v n xs) (hB : B ≤ w.heap.size) (hn : n ≤ 140737488000000) :
    Calls Try.prog 20 #[v, .int .i64 units, .int .i32 places] w fun e w' => ∃ v' t, e = .returned v' ∧ IsText units places t ∧ w'.ownsRow B 5 1 v' (n + t.length) (xs ++ U t) ∧ Below B w w' := by
  go_enter Try.func20, Try.ntmps20
  go_upto_if 11 with fail
  go_cut [0, 1] (fun v1 u1 wc => ∃ (u : Int) (n' : Nat) (xs' : List Value), u1 = .int .i64 u ∧ -9223372036854775808 ≤ u ∧ u ≤ 9223372036854775807 ∧ Hid (IntKind.u64.wrap u = units.natAbs) ∧ CanApp B wc v1 n' xs' ∧ n' ≤ n + 1 ∧ Hid (n' = n + (sgn units).length ∧ xs' = xs ++ U (sgn units)) ∧ B ≤ wc.heap.size ∧ Below B w wc)
  case first =>
    by_cases h : units < 0
    · have hw := wrap_neg units hu1 h
      have HW := hide hw
      clear hw
      go_wp2_with (at_builtin; refine wpList_append_can rfl (.tmp 12) (.tmp 13) rfl B v n xs rfl (hcan.alloc _) ⟨w.heap.size, 0, none⟩ 1 1 [.int .u8 45] rfl rfl ?c1 ?c2 (by omega) (by omega) ?c3 ?next)
      case c1 => exact cell_one_new _ _ _
      case c2 => simp [Value.oneCell']
      case c3 => simp; omega
      intro v' w' hown hbel
      go_wp2
      go_meet
      case rel =>
        obtain ⟨e1, e2, e3⟩ := HW.out
        refine ⟨_, n + 1, _, rfl, e1, e2, e3, .inl hown, by omega, ⟨by simp [sgn, h], by simp [sgn, h, U]⟩, ?_, ?_⟩
        · have := hbel.size; simp at this; omega
        · exact ((Below.refl B w).alloc hB _).trans hbel
    · go_wp2
      go_meet
      case rel =>
        exact ⟨_, n, xs, rfl, hu1, hu2, wrap_pos units hu2 (by omega), hcan, by omega, ⟨by simp [sgn, h], by simp [sgn, h, U]⟩, hB, Below.refl B w⟩
  case rest =>
    obtain ⟨u, n', xs', rfl, hu1', hu2', hum, hcan', hn', hxs, hB', hbel⟩ := hcut
    clear hcan hu1 hu2
    go_wp2_with fail
    go_loopw [8, 9, 20] (fun at_ u i wr => ∃ k q : Nat, ∃ cur : Array Value, k ≤ places ∧ i = .int .i32 k ∧ at_ = .int .i64 ((61 : Int) - k) ∧ u = .int .u64 q ∧ q ≤ 18446744073709551615 ∧ Hid (q = units.natAbs / 10 ^ k) ∧ BufAt cur (61 - k) (frac k units.natAbs) ∧ wr = wc.alloc (.cells cur 36)) (fun _ _ i _ => places - (intOf i).toNat)
    case atStart =>
      refine ⟨0, units.natAbs, _, by omega, rfl, rfl, by rw [hum.out], ?_, ?_, ?_, rfl⟩
      · have := hum.out; rw [IntKind.wrap_u64] at this; omega
      · exact (Nat.div_one _).symm
      · exact ⟨rfl, by omega, rfl⟩
    case round =>
      obtain ⟨k, q, cur, hk, rfl, rfl, rfl, hq, hqe, hb, rfl⟩ := hrel
      by_cases hlt : k < places
      · obtain ⟨x, hx⟩ := hb.cell (61 - k - 1) (by omega)
        go_wp2
        go_roundw
        case rel =>
          exact ⟨k + 1, q / 10, _, by omega, by go_num, by go_num, by go_num, by omega, div_step _ _ _ hqe.out, by rw [frac_step _ _ _ hqe.out]; exact hb.step' (by omega) _, rfl⟩
        case measure => simp [intOf]; omega
      · obtain rfl : k = places := by omega
        go_upto_if 34 with fail
        go_cut [8] (fun at_ wd => ∃ (a : Nat) (cur : Array Value), at_ = .int .i64 a ∧ 20 ≤ a ∧ a ≤ 61 ∧ BufAt cur a (pt k ++ frac k units.natAbs) ∧ wd = wc.alloc (.cells cur 36))
        case first =>
          by_cases h : 0 < k
          · obtain ⟨x, hx⟩ := hb.cell (61 - k - 1) (by omega)
            go_wp2
            go_meet
            case rel => exact ⟨61 - k - 1, _, by go_num, by omega, by omega, by simp only [pt, h, if_true]; exact hb.step' (by omega) _, rfl⟩
          · go_wp2
            go_meet
            case rel => exact ⟨61 - k, _, by go_num, by omega, by omega, by simp only [pt, h, if_false]; exact hb, rfl⟩
        case rest =>
          clear hb hum hlt hk
          obtain ⟨a, cur, rfl, ha1, ha2, hb, rfl⟩ := hcut
          obtain ⟨M, hM⟩ : ∃ M, M = units.natAbs / 10 ^ k := ⟨_, rfl⟩
          have HM := hide hM
          have HM2 : Hid (q = M) := by rw [hM]; exact hqe
          clear hM hqe
          have hMle : M ≤ 18446744073709551615 := by rw [← HM2.out]; exact hq
          go_wp2_with fail
          go_loopw [8, 9] (fun at_ u wr => ∃ j q : Nat, ∃ cur : Array Value, j ≤ 19 ∧ at_ = .int .i64 ((a : Int) - j) ∧ u = .int .u64 q ∧ q ≤ 18446744073709551615 ∧ Hid (q = M / 10 ^ j) ∧ Hid (j = 0 ∨ q ≠ 0) ∧ BufAt cur (a - j) (frac j M ++ (pt k ++ frac k units.natAbs)) ∧ wr = wc.alloc (.cells cur 36)) (fun _ u _ => (intOf u).toNat)
          case atStart =>
            refine ⟨0, q, cur, by omega, by simp, rfl, by omega, ?_, ?_, hb, rfl⟩
            · rw [HM2.out]; exact (Nat.div_one _).symm
            · exact .inl rfl
          case round =>
            clear hb HM2
            obtain ⟨j, q, cur, hj, rfl, rfl, hq, hqe, hne, hb, rfl⟩ := hrel
            obtain ⟨x, hx⟩ := hb.cell (a - j - 1) (by omega)
            have hstep := hb.step' (by omega) (48 + (q : Int) % 10)
            have hfs := frac_step _ _ _ hqe.out
            have hds := div_step _ _ _ hqe.out
            have HS : Hid (BufAt (cur.setIfInBounds (a - j - 1) (.int .u8 (48 + (q : Int) % 10))) (a - j - 1) (frac (j + 1) M ++ (pt k ++ frac k units.natAbs)) ∧ q / 10 = M / 10 ^ (j + 1)) := by
              rw [hfs]; exact ⟨hstep, hds⟩
            clear hstep hfs hds
            by_cases h0 : q / 10 = 0
            · have h0' : ((q : Int) / 10 == 0) = true := by simp; omega
              have H0 := hide h0
              clear h0
              have hsl := slice_buf wc.heap.size (a - j - 1) ((a : Int) - j - 1) (by omega) (by omega)
              have hlen := hide HS.out.1.len
              go_wp2_with (at_builtin; refine wpList_append_can rfl (.tmp 51) (.tmp 53) rfl B u0 n' xs' rfl (hcan'.alloc _) ⟨wc.heap.size, a - j - 1, none⟩ (61 - (a - j - 1)) (61 - (a - j - 1)) (U (frac (j + 1) M ++ (pt k ++ frac k units.natAbs))) rfl ?d0 ?d1 ?d2 ?d3 ?d4 ?d5 ?nextB)
              case d0 => rw [U_length]; exact hlen.out
              case d1 => exact HS.out.1.cells _ _
              case d2 => exact U_oneCell _
              case d3 => omega
              case d4 => omega
              case d5 => simp; omega
              intro v' w' hown hbel'
              clear hsl
              go_wp2
              go_ret
              exact fin (k := k) HM.out hqe.out hne.out HS.out.2 H0.out hj hlen.out hxs.out hown hbel hB' hbel'
            · have h0' : ((q : Int) / 10 == 0) = false := by simp; omega
              have h0'' : 10 ≤ q := by omega
              have H0 := hide h0
              clear h0
              go_wp2
              go_roundw
              case rel =>
                exact ⟨j + 1, q / 10, _, few_digits M _ hMle (by rw [← HS.out.2]; exact H0.out), by go_num, by go_num, by omega, HS.out.2, .inr H0.out, HS.out.1, rfl⟩
              case measure => simp [intOf]; omega
end Go.Proofs.Qxb6604305a.Au
