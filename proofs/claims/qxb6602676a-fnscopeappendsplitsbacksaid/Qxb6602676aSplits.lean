import Derived.Test.Qxb6602676aSegs
import Derived.Test.Qxb6602676aAppend
namespace Go.Proofs.Qxb6602676a.Sc
open Go.RowKit

/-! ### Where the slashes stand: no Go in sight -/

/-- No byte of it is a slash. -/
def NoSlash (l : List Int) : Prop := ∀ c ∈ l, c ≠ 47

theorem NoSlash.at {l : List Int} (h : NoSlash l) {k : Nat} (hk : k < l.length) : ∃ c, l[k]? = some c ∧ c ≠ 47 := ⟨l[k], by simp [hk], h _ (List.getElem_mem hk)⟩

theorem seg_in {l rest : List Int} (h : NoSlash l) {k : Nat} (hk : k < l.length) : ∃ c, (l ++ rest)[k]? = some c ∧ c ≠ 47 := by
  rw [List.getElem?_append_left hk]; exact h.at hk
theorem seg_at {l rest : List Int} {k : Nat} (hk : k = l.length) : (l ++ 47 :: rest)[k]? = some 47 := by
  subst hk; rw [List.getElem?_append_right (Nat.le_refl _), Nat.sub_self]; rfl
theorem seg_on {l rest : List Int} (k : Nat) : (l ++ 47 :: rest)[l.length + 1 + k]? = rest[k]? := by
  rw [List.getElem?_append_right (by omega), show l.length + 1 + k - l.length = k + 1 from by omega, List.getElem?_cons_succ]

theorem term_noSlash : NoSlash (bs term) := by unfold NoSlash; decide

theorem scope_length (d r s : ByteArray) : (scope d r s).length = d.size + 1 + r.size + 1 + s.size + 1 + 12 := by
  have ht : (bs term).length = 12 := rfl
  simp [scope, bs_length, ht]; omega

/-- The parts of a scope, each in its place. -/
theorem scope_date (d r s : ByteArray) {j : Nat} {c : Int} (h : (bs d)[j]? = some c) : (scope d r s)[j]? = some c := by
  unfold scope
  rw [List.getElem?_append_left ((List.getElem?_eq_some_iff.1 h).1)]; exact h
theorem scope_region (d r s : ByteArray) {j : Nat} {c : Int} (h : (bs r)[j]? = some c) : (scope d r s)[d.size + 1 + j]? = some c := by
  unfold scope
  rw [← bs_length d, seg_on, List.getElem?_append_left ((List.getElem?_eq_some_iff.1 h).1)]; exact h
theorem scope_service (d r s : ByteArray) {j : Nat} {c : Int} (h : (bs s)[j]? = some c) : (scope d r s)[d.size + 1 + (r.size + 1 + j)]? = some c := by
  unfold scope
  rw [← bs_length d, seg_on, ← bs_length r, seg_on, List.getElem?_append_left ((List.getElem?_eq_some_iff.1 h).1)]; exact h
theorem scope_term (d r s : ByteArray) {j : Nat} {c : Int} (h : (bs term)[j]? = some c) : (scope d r s)[d.size + 1 + (r.size + 1 + (s.size + 1 + j))]? = some c := by
  unfold scope
  rw [← bs_length d, seg_on, ← bs_length r, seg_on, ← bs_length s, seg_on]; exact h

/-- The three slashes, and no other. -/
theorem scope_char (d r s : ByteArray) (hd : NoSlash (bs d)) (hr : NoSlash (bs r)) (hs : NoSlash (bs s)) (k : Nat) (hk : k < (scope d r s).length) :
    ∃ c, (scope d r s)[k]? = some c ∧ (c = 47 ↔ k = d.size ∨ k = d.size + 1 + r.size ∨ k = d.size + 1 + r.size + 1 + s.size) := by
  have hl := scope_length d r s
  by_cases h1 : k < d.size
  · obtain ⟨c, e, hc⟩ := seg_in (rest := 47 :: (bs r ++ (47 :: (bs s ++ (47 :: bs term))))) hd (k := k) (by rw [bs_length]; exact h1)
    exact ⟨c, e, by constructor <;> intro h <;> omega⟩
  by_cases h2 : k = d.size
  · exact ⟨47, seg_at (by rw [bs_length]; exact h2), by constructor <;> intro _ <;> omega⟩
  obtain ⟨k2, rfl⟩ : ∃ k2, k = d.size + 1 + k2 := ⟨k - (d.size + 1), by omega⟩
  have e1 : (scope d r s)[d.size + 1 + k2]? = (bs r ++ (47 :: (bs s ++ (47 :: bs term))))[k2]? := by rw [scope, ← bs_length d, seg_on]
  rw [e1]
  by_cases h3 : k2 < r.size
  · obtain ⟨c, e, hc⟩ := seg_in (rest := 47 :: (bs s ++ (47 :: bs term))) hr (k := k2) (by rw [bs_length]; exact h3)
    exact ⟨c, e, by constructor <;> intro h <;> omega⟩
  by_cases h4 : k2 = r.size
  · exact ⟨47, seg_at (by rw [bs_length]; exact h4), by constructor <;> intro _ <;> omega⟩
  obtain ⟨k3, rfl⟩ : ∃ k3, k2 = r.size + 1 + k3 := ⟨k2 - (r.size + 1), by omega⟩
  have e2 : (bs r ++ (47 :: (bs s ++ (47 :: bs term))))[r.size + 1 + k3]? = (bs s ++ (47 :: bs term))[k3]? := by rw [← bs_length r, seg_on]
  rw [e2]
  by_cases h5 : k3 < s.size
  · obtain ⟨c, e, hc⟩ := seg_in (rest := 47 :: bs term) hs (k := k3) (by rw [bs_length]; exact h5)
    exact ⟨c, e, by constructor <;> intro h <;> omega⟩
  by_cases h6 : k3 = s.size
  · exact ⟨47, seg_at (by rw [bs_length]; exact h6), by constructor <;> intro _ <;> omega⟩
  obtain ⟨k4, rfl⟩ : ∃ k4, k3 = s.size + 1 + k4 := ⟨k3 - (s.size + 1), by omega⟩
  have e3 : (bs s ++ (47 :: bs term))[s.size + 1 + k4]? = (bs term)[k4]? := by rw [← bs_length s, seg_on]
  rw [e3]
  obtain ⟨c, e, hc⟩ := term_noSlash.at (k := k4) (by have ht : (bs term).length = 12 := rfl; omega)
  exact ⟨c, e, by constructor <;> intro h <;> omega⟩

/-! ### The walk -/

set_option maxRecDepth 100000 in
set_option maxHeartbeats 4000000 in
theorem splits_any (B g L co N cp : Nat) (ap : Option Addr) (d r s : ByteArray) (Z : List Int) (w : World) (hL : N + (scope d r s).length = L) (hL6 : L ≤ 6000000) (hZ : Z.length = N) (hX : ∀ (j : Nat) (c : Int), (Z ++ scope d r s)[j]? = some c → w.cell? ⟨g, j, none⟩ = some (.int .u8 c)) (hp : Bytes B w ap Z)
    (hd : NoSlash (bs d)) (hr : NoSlash (bs r)) (hs : NoSlash (bs s)) :
    Calls Try.prog 8 #[.slice (some ⟨g, 0, none⟩) L co, .slice ap N cp, .string d, .string r, .string s] w fun e w' => e = .returned (.bool true) ∧ ∃ nq, w' = w.drewN nq := by
  obtain ⟨X, hXe⟩ : ∃ X, Z ++ scope d r s = X := ⟨_, rfl⟩
  rw [hXe] at hX
  have hsl := scope_length d r s
  obtain ⟨q1, hq1⟩ : ∃ q1, N + d.size = q1 := ⟨_, rfl⟩
  obtain ⟨q2, hq2⟩ : ∃ q2, q1 + 1 + r.size = q2 := ⟨_, rfl⟩
  obtain ⟨q3, hq3⟩ : ∃ q3, q2 + 1 + s.size = q3 := ⟨_, rfl⟩
  have i1 : N ≤ q1 := by omega
  have i2 : q1 < q2 := by omega
  have i3 : q2 < q3 := by omega
  have i4 : q3 < L := by omega
  have hshift : ∀ k : Nat, X[N + k]? = (scope d r s)[k]? := by
    intro k
    rw [← hXe, List.getElem?_append_right (by omega), hZ, Nat.add_sub_cancel_left]
  have HCH : Hid (∀ i, N ≤ i → i < L → ∃ c, X[i]? = some c ∧ (c = 47 ↔ i = q1 ∨ i = q2 ∨ i = q3)) := by
    intro i h1 h2
    obtain ⟨c, e, hc⟩ := scope_char d r s hd hr hs (i - N) (by omega)
    refine ⟨c, ?_, ?_⟩
    · rw [← e, ← hshift, show N + (i - N) = i from by omega]
    · rw [hc]; constructor <;> intro h <;> omega
  have hpre : ∀ (j : Nat) (c : Int), Z[j]? = some c → X[j]? = some c := by
    intro j c hj
    rw [← hXe, List.getElem?_append_left ((List.getElem?_eq_some_iff.1 hj).1)]; exact hj
  have HB := hide (bytesAt_any B g L co N cp ap X Z w hL6 (by omega) hZ hX hp hpre)
  have HS1 : Hid (∀ nq, Calls Try.prog 12 #[.slice (some ⟨g, 0, none⟩) L co, .int .i64 N, .int .i64 q1, .string d] (w.drewN nq) fun e w' => e = .returned (.bool true) ∧ ∃ m, w' = (w.drewN nq).drewN m) := fun nq =>
    segIs_any g L co N q1 d X (w.drewN nq) hL6 N rfl (by omega) (by omega) hX (fun j c hj => by rw [hshift]; exact scope_date d r s hj)
  have HS2 : Hid (∀ nq, Calls Try.prog 12 #[.slice (some ⟨g, 0, none⟩) L co, .int .i64 ((q1 : Int) + 1), .int .i64 q2, .string r] (w.drewN nq) fun e w' => e = .returned (.bool true) ∧ ∃ m, w' = (w.drewN nq).drewN m) := fun nq =>
    segIs_any g L co _ q2 r X (w.drewN nq) hL6 (q1 + 1) (by omega) (by omega) (by omega) hX (fun j c hj => by rw [show q1 + 1 + j = N + (d.size + 1 + j) from by omega, hshift]; exact scope_region d r s hj)
  have HS3 : Hid (∀ nq, Calls Try.prog 12 #[.slice (some ⟨g, 0, none⟩) L co, .int .i64 ((q2 : Int) + 1), .int .i64 q3, .string s] (w.drewN nq) fun e w' => e = .returned (.bool true) ∧ ∃ m, w' = (w.drewN nq).drewN m) := fun nq =>
    segIs_any g L co _ q3 s X (w.drewN nq) hL6 (q2 + 1) (by omega) (by omega) (by omega) hX (fun j c hj => by rw [show q2 + 1 + j = N + (d.size + 1 + (r.size + 1 + j)) from by omega, hshift]; exact scope_service d r s hj)
  have HS4 : Hid (∀ nq, Calls Try.prog 12 #[.slice (some ⟨g, 0, none⟩) L co, .int .i64 ((q3 : Int) + 1), .int .i64 L, .string term] (w.drewN nq) fun e w' => e = .returned (.bool true) ∧ ∃ m, w' = (w.drewN nq).drewN m) := fun nq =>
    segIs_any g L co _ L term X (w.drewN nq) hL6 (q3 + 1) (by omega) (by have : term.size = 12 := rfl; omega) (by have : term.size = 12 := rfl; omega) hX (fun j c hj => by rw [show q3 + 1 + j = N + (d.size + 1 + (r.size + 1 + (s.size + 1 + j))) from by omega, hshift]; exact scope_term d r s hj)
  have HX := hide hX
  have hLN : decide ((L : Int) < (N : Int)) = false := by simp; omega
  have hLN' : decide (L < N) = false := by simp; omega
  clear hX hp hd hr hs hshift hpre hsl hXe hL hq1 hq2 hq3 hZ
  go_enter Try.func8, Try.ntmps8
  go_wp2_with fail
  refine HB.out.mono ?_
  rintro e w1 ⟨rfl, n0, rfl⟩
  clear HB
  go_wp2_with fail
  go_loop [11, 12, 13, 14, 15] (fun nv a1 a2 a3 iv => ∃ i : Nat, iv = .int .i64 i ∧ (
      (N ≤ i ∧ i ≤ q1 ∧ nv = .int .i64 0 ∧ a1 = .int .i64 (-1) ∧ a2 = .int .i64 (-1) ∧ a3 = .int .i64 (-1)) ∨
      ((q1 + 1) ≤ i ∧ i ≤ q2 ∧ nv = .int .i64 1 ∧ a1 = .int .i64 q1 ∧ a2 = .int .i64 (-1) ∧ a3 = .int .i64 (-1)) ∨
      ((q2 + 1) ≤ i ∧ i ≤ q3 ∧ nv = .int .i64 2 ∧ a1 = .int .i64 q1 ∧ a2 = .int .i64 q2 ∧ a3 = .int .i64 (-1)) ∨
      ((q3 + 1) ≤ i ∧ i ≤ L ∧ nv = .int .i64 3 ∧ a1 = .int .i64 q1 ∧ a2 = .int .i64 q2 ∧ a3 = .int .i64 q3))) (fun _ _ _ _ iv => L - (intOf iv).toNat)
  case atStart => exact ⟨N, rfl, .inl ⟨Nat.le_refl _, i1, rfl, rfl, rfl, rfl⟩⟩
  case round =>
    obtain ⟨i, rfl, hph⟩ := hrel
    rcases hph with ⟨j1, j2, rfl, rfl, rfl, rfl⟩ | ⟨j1, j2, rfl, rfl, rfl, rfl⟩ | ⟨j1, j2, rfl, rfl, rfl, rfl⟩ | ⟨j1, j2, rfl, rfl, rfl, rfl⟩
    · have hLi : i < L := by omega
      obtain ⟨c, hc, hcc⟩ := HCH.out i (by omega) hLi
      have hcell := HX.out i c hc
      by_cases hq : i = q1
      · obtain rfl : c = 47 := hcc.2 (by omega)
        clear hcc hc
        have HQ := hide hq
        clear hq
        go_wp2
        go_round
        case rel => exact ⟨i + 1, by go_num, .inr (.inl ⟨by have := HQ.out; omega, by have := HQ.out; omega, rfl, by rw [HQ.out], rfl, rfl⟩)⟩
        case measure => simp [intOf]; omega
      · have hne : (c == 47) = false := by rw [beq_eq_false_iff_ne]; intro e; have := hcc.1 e; omega
        clear hcc hc
        go_wp2
        go_round
        case rel => exact ⟨i + 1, by go_num, .inl ⟨by omega, by omega, rfl, rfl, rfl, rfl⟩⟩
        case measure => simp [intOf]; omega
    · have hLi : i < L := by omega
      obtain ⟨c, hc, hcc⟩ := HCH.out i (by omega) hLi
      have hcell := HX.out i c hc
      by_cases hq : i = q2
      · obtain rfl : c = 47 := hcc.2 (by omega)
        clear hcc hc
        have HQ := hide hq
        clear hq
        go_wp2
        go_round
        case rel => exact ⟨i + 1, by go_num, .inr (.inr (.inl ⟨by have := HQ.out; omega, by have := HQ.out; omega, rfl, rfl, by rw [HQ.out], rfl⟩))⟩
        case measure => simp [intOf]; omega
      · have hne : (c == 47) = false := by rw [beq_eq_false_iff_ne]; intro e; have := hcc.1 e; omega
        clear hcc hc
        go_wp2
        go_round
        case rel => exact ⟨i + 1, by go_num, .inr (.inl ⟨by omega, by omega, rfl, rfl, rfl, rfl⟩)⟩
        case measure => simp [intOf]; omega
    · have hLi : i < L := by omega
      obtain ⟨c, hc, hcc⟩ := HCH.out i (by omega) hLi
      have hcell := HX.out i c hc
      by_cases hq : i = q3
      · obtain rfl : c = 47 := hcc.2 (by omega)
        clear hcc hc
        have HQ := hide hq
        clear hq
        go_wp2
        go_round
        case rel => exact ⟨i + 1, by go_num, .inr (.inr (.inr ⟨by have := HQ.out; omega, by have := HQ.out; omega, rfl, rfl, rfl, by rw [HQ.out]⟩))⟩
        case measure => simp [intOf]; omega
      · have hne : (c == 47) = false := by rw [beq_eq_false_iff_ne]; intro e; have := hcc.1 e; omega
        clear hcc hc
        go_wp2
        go_round
        case rel => exact ⟨i + 1, by go_num, .inr (.inr (.inl ⟨by omega, by omega, rfl, rfl, rfl, rfl⟩))⟩
        case measure => simp [intOf]; omega
    · by_cases hLi : i < L
      · obtain ⟨c, hc, hcc⟩ := HCH.out i (by omega) hLi
        have hcell := HX.out i c hc
        have hne : (c == 47) = false := by rw [beq_eq_false_iff_ne]; intro e; have := hcc.1 e; omega
        clear hcc hc
        go_wp2
        go_round
        case rel => exact ⟨i + 1, by go_num, .inr (.inr (.inr ⟨by omega, by omega, rfl, rfl, rfl, rfl⟩))⟩
        case measure => simp [intOf]; omega
      · go_wp2_with fail
        refine (HS1.out _).mono ?_
        rintro e w2 ⟨rfl, m1, rfl⟩
        simp only [World.drewN_drewN]
        go_wp2_with fail
        refine (HS2.out _).mono ?_
        rintro e w2 ⟨rfl, m2, rfl⟩
        simp only [World.drewN_drewN]
        go_wp2_with fail
        refine (HS3.out _).mono ?_
        rintro e w2 ⟨rfl, m3, rfl⟩
        simp only [World.drewN_drewN]
        go_wp2_with fail
        refine (HS4.out _).mono ?_
        rintro e w2 ⟨rfl, m4, rfl⟩
        simp only [World.drewN_drewN]
        go_wp2
        go_ret
        exact ⟨rfl, _, rfl⟩

end Go.Proofs.Qxb6602676a.Sc
