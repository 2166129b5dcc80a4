import Derived.Test.Qxb6602676aLaw
namespace Go.Proofs.Qxb6602676a.Sc
open Go.RowKit

theorem out_bytes {w : World} {B : Nat} {v : Value} {n : Nat} {t : List Int} (h : w.ownsRow B 5 1 v n (U t)) (hn : 0 < n) :
    ∃ g cap, v = .slice (some ⟨g, 0, none⟩) n cap ∧ ∀ (j : Nat) (c : Int), t[j]? = some c → w.cell? ⟨g, j, none⟩ = some (.int .u8 c) := by
  obtain ⟨hl, ao, cap, rfl, _, hb⟩ := own_bytes h
  rcases hb with ⟨_, h0⟩ | ⟨g, rfl, _, hc⟩
  · rw [h0] at hl; simp at hl; omega
  · exact ⟨g, cap, rfl, hc⟩

set_option maxRecDepth 100000 in
set_option maxHeartbeats 4000000 in
theorem law_in (d r s : ByteArray) (a3 : Option Addr) (N cap : Nat) (Z : List Int) (w : World) (hZ : Z.length = N) (h : d.size + r.size + s.size + N ≤ 1048576) (hc : Came w a3 N Z) :
    Calls Try.prog 3 #[.string d, .string r, .string s, .slice a3 N cap] w fun e w' => e = .returned (.bool true) ∧ Below w.heap.size w w' := by
  have H4 := hide (sum_in d r s a3 N cap w h)
  have HZ := hide hZ
  have HC := hide hc
  have H := hide h
  have l1 : d.size ≤ 1048576 := by omega
  have l2 : r.size ≤ 1048576 := by omega
  have l3 : s.size ≤ 1048576 := by omega
  have l4 : N ≤ 1048576 := by omega
  have HD := hide (slash_any d w l1)
  have HR := hide (slash_any r w l2)
  have HS := hide (slash_any s w l3)
  clear hZ hc
  cases e1 : slashB (bs d) with
  | true =>
    rw [e1] at HD
    clear e1 HR HS
    go_enter Try.func3, Try.ntmps3
    go_wp2_with fail
    refine H4.out.mono ?_
    rintro e w' ⟨rfl, rfl⟩
    clear H4
    go_wp2_with fail
    refine HD.out.mono ?_
    rintro e w' ⟨rfl, rfl⟩
    clear HD
    go_wp2
    go_ret
    exact ⟨rfl, Below.refl _ _⟩
  | false =>
    rw [e1] at HD
    have HNd := hide (slash_no e1)
    clear e1
    cases e2 : slashB (bs r) with
    | true =>
      rw [e2] at HR
      clear e2 HS
      go_enter Try.func3, Try.ntmps3
      go_wp2_with fail
      refine H4.out.mono ?_
      rintro e w' ⟨rfl, rfl⟩
      clear H4
      go_wp2_with fail
      refine HD.out.mono ?_
      rintro e w' ⟨rfl, rfl⟩
      clear HD
      go_wp2_with fail
      refine HR.out.mono ?_
      rintro e w' ⟨rfl, rfl⟩
      clear HR
      go_wp2
      go_ret
      exact ⟨rfl, Below.refl _ _⟩
    | false =>
      rw [e2] at HR
      have HNr := hide (slash_no e2)
      clear e2
      cases e3 : slashB (bs s) with
      | true =>
        rw [e3] at HS
        clear e3
        go_enter Try.func3, Try.ntmps3
        go_wp2_with fail
        refine H4.out.mono ?_
        rintro e w' ⟨rfl, rfl⟩
        clear H4
        go_wp2_with fail
        refine HD.out.mono ?_
        rintro e w' ⟨rfl, rfl⟩
        clear HD
        go_wp2_with fail
        refine HR.out.mono ?_
        rintro e w' ⟨rfl, rfl⟩
        clear HR
        go_wp2_with fail
        refine HS.out.mono ?_
        rintro e w' ⟨rfl, rfl⟩
        clear HS
        go_wp2
        go_ret
        exact ⟨rfl, Below.refl _ _⟩
      | false =>
        rw [e3] at HS
        have HNs := hide (slash_no e3)
        clear e3
        go_enter Try.func3, Try.ntmps3
        go_wp2_with fail
        refine H4.out.mono ?_
        rintro e w' ⟨rfl, rfl⟩
        clear H4
        go_wp2_with fail
        refine HD.out.mono ?_
        rintro e w' ⟨rfl, rfl⟩
        clear HD
        go_wp2_with fail
        refine HR.out.mono ?_
        rintro e w' ⟨rfl, rfl⟩
        clear HR
        go_wp2_with fail
        refine HS.out.mono ?_
        rintro e w' ⟨rfl, rfl⟩
        clear HS
        go_wp2_with fail
        -- b = zzb1Clone(b)
        refine (clone_any a3 N cap Z _ HZ.out l4 HC.out).mono ?_
        rintro e w1 ⟨v1, rfl, hO1, hB1⟩
        obtain ⟨_, ao, c1, rfl, _, hb1⟩ := own_bytes hO1
        clear hO1
        have Hb1 := hide hb1
        clear hb1 HC
        go_wp2_with fail
        -- tight := ZZScopeAppend(.., zzb1Clone(b))
        refine (clone_any ao N c1 Z _ HZ.out l4 (Hb1.out.came HZ.out)).mono ?_
        rintro e w2 ⟨v2, rfl, hO2, hB2⟩
        have HO2 := hide hO2
        clear hO2
        go_wp2_with fail
        refine (zz_any w1.heap.size d r s v2 N Z _ hB2.size HO2.out l1 l2 l3 l4 HZ.out).mono ?_
        rintro e w3 ⟨v3, rfl, hO3, hB3⟩
        obtain ⟨g3, c3, rfl, hx3⟩ := out_bytes hO3 (by rw [scope_length]; omega)
        clear hO3 HO2
        have hB13 := hB2.trans hB3
        have hb3 := Hb1.out.later hB13
        have hsp := splits_any w1.heap.size g3 _ c3 N c1 ao d r s Z w3 rfl (by rw [scope_length]; omega) HZ.out hx3 hb3 HNd.out HNr.out HNs.out
        have HSP := hide hsp
        have Hb3 := hide hb3
        clear hsp hx3 hb3 Hb1 hB2 hB3
        obtain ⟨L, hLe⟩ : ∃ L, N + (scope d r s).length = L := ⟨_, rfl⟩
        rw [hLe] at HSP ⊢
        clear hLe
        go_wp2_with fail
        refine HSP.out.mono ?_
        rintro e w4 ⟨rfl, n4, rfl⟩
        clear HSP
        have hb5 : Bytes w1.heap.size (w3.drewN n4) ao Z := Hb3.out.drewN n4
        have hB15 : Below w1.heap.size w1 (w3.drewN n4) := below_drewN hB13 n4
        generalize w3.drewN n4 = w5 at *
        have Hb5 := hide hb5
        clear hb5 Hb3 hB13
        go_wp2_with fail
        -- roomy := ZZScopeAppend(.., zzb1CloneRoom(b))
        refine (room_any ao N c1 Z _ HZ.out l4 ((Hb5.out.more hB15.size).came HZ.out)).mono ?_
        rintro e w6 ⟨v6, rfl, hO6, hB6⟩
        have HO6 := hide hO6
        clear hO6
        go_wp2_with fail
        refine (zz_any w5.heap.size d r s v6 N Z _ hB6.size HO6.out l1 l2 l3 l4 HZ.out).mono ?_
        rintro e w7 ⟨v7, rfl, hO7, hB7⟩
        obtain ⟨g7, c7, rfl, hx7⟩ := out_bytes hO7 (by rw [scope_length]; omega)
        clear hO7 HO6
        have hB57 := hB6.trans hB7
        have hb7 := (Hb5.out.more hB15.size).later hB57
        have hsp := splits_any w5.heap.size g7 _ c7 N c1 ao d r s Z w7 rfl (by rw [scope_length]; omega) HZ.out hx7 hb7 HNd.out HNr.out HNs.out
        have HSP := hide hsp
        have hfin : Below w.heap.size w w7 := (hB1.trans (hB15.mono hB1.size)).trans (hB57.mono (Nat.le_trans hB1.size hB15.size))
        clear hsp hx7 hb7 Hb5 hB6 hB7 hB57 hB15
        obtain ⟨L7, hLe⟩ : ∃ L, N + (scope d r s).length = L := ⟨_, rfl⟩
        rw [hLe] at HSP ⊢
        clear hLe
        go_wp2_with fail
        refine HSP.out.mono ?_
        rintro e w8 ⟨rfl, n8, rfl⟩
        clear HSP
        go_wp2
        go_ret
        exact ⟨rfl, below_drewN hfin n8⟩

set_option maxRecDepth 100000 in
set_option maxHeartbeats 1000000 in
theorem law_out (d r s : ByteArray) (a3 : Option Addr) (N cap : Nat) (w : World) (hd : d.size ≤ maxLen) (hr : r.size ≤ maxLen) (hs : s.size ≤ maxLen) (hN : N ≤ maxLen) (h : 1048576 < d.size + r.size + s.size + N) :
    Calls Try.prog 3 #[.string d, .string r, .string s, .slice a3 N cap] w fun e w' => e = .returned (.bool true) ∧ Below w.heap.size w w' := by
  have H4 := hide (sum_out d r s a3 N cap w hd hr hs hN h)
  clear h hd hr hs hN
  go_enter Try.func3, Try.ntmps3
  go_wp2_with fail
  refine H4.out.mono ?_
  rintro e w' ⟨rfl, rfl⟩
  clear H4
  go_wp2
  go_ret
  exact ⟨rfl, Below.refl _ _⟩

end Go.Proofs.Qxb6602676a.Sc
