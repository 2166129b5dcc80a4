import Derived.Test.Qxb6602676aSplits
import Derived.Test.Qxb6602676aClone
namespace Go.Proofs.Qxb6602676a.Sc
open Go.RowKit

/-- Does a slash stand among the bytes? -/
def slashB (l : List Int) : Bool := l.any fun c => c == 47

theorem slash_no {l : List Int} (h : slashB l = false) : NoSlash l := by
  intro c hc e
  unfold slashB at h
  rw [List.any_eq_false] at h
  have := h c hc
  rw [e] at this
  simp at this

theorem drop_bs (s : ByteArray) (k : Nat) (h : k < s.size) : (bs s).drop k = ((s[k].toNat : Nat) : Int) :: (bs s).drop (k + 1) := by
  have hk : k < (bs s).length := by rw [bs_length]; exact h
  rw [List.drop_eq_getElem_cons hk]
  have e := bs_get s k h
  rw [List.getElem?_eq_getElem hk] at e
  rw [Option.some.inj e]

set_option maxHeartbeats 400000 in
theorem slash_any (s : ByteArray) (w : World) (hs : s.size ≤ 1048576) : Calls Try.prog 5 #[.string s] w fun e w' => e = .returned (.bool (slashB (bs s))) ∧ w = w' := by
  obtain ⟨res, hres⟩ : ∃ res, res = slashB (bs s) := ⟨_, rfl⟩
  rw [← hres]
  have HR0 : Hid (res = slashB ((bs s).drop 0)) := by rw [List.drop_zero]; exact hres
  clear hres
  go_enter Try.func5, Try.ntmps5
  go_wp2_with fail
  go_loop [3] (fun iv => ∃ k : Nat, k ≤ s.size ∧ iv = .int .i64 k ∧ Hid (res = slashB ((bs s).drop k))) (fun iv => s.size - (intOf iv).toNat)
  case atStart => exact ⟨0, by omega, rfl, HR0⟩
  case round =>
    clear HR0
    obtain ⟨k, hk, rfl, HR⟩ := hrel
    by_cases hlt : k < s.size
    · have hdc := drop_bs s k hlt
      by_cases h47 : s[k].toNat = 47
      · obtain rfl : res = true := by rw [HR.out, hdc]; simp [slashB, h47]
        have hb : ((s[k].toNat : Int) == 47) = true := by rw [beq_iff_eq]; omega
        clear h47 hdc HR
        go_wp2
        go_ret
        exact ⟨rfl, rfl⟩
      · have hb : ((s[k].toNat : Int) == 47) = false := by rw [beq_eq_false_iff_ne]; omega
        have HR' : Hid (res = slashB ((bs s).drop (k + 1))) := by
          have e1 := HR.out
          rw [hdc] at e1
          have e2 : slashB (((s[k].toNat : Nat) : Int) :: (bs s).drop (k + 1)) = slashB ((bs s).drop (k + 1)) := by simp only [slashB, List.any_cons, hb, Bool.false_or]
          exact e1.trans e2
        clear h47 hdc HR
        go_wp2
        go_round
        case rel => exact ⟨k + 1, by omega, by go_num, HR'⟩
        case measure => simp [intOf]; omega
    · obtain rfl : res = false := by rw [HR.out, List.drop_of_length_le (by rw [bs_length]; omega)]; rfl
      clear HR
      go_wp2
      go_ret
      exact ⟨rfl, rfl⟩

set_option maxRecDepth 100000 in
set_option maxHeartbeats 1000000 in
theorem sum_in (d r s : ByteArray) (a3 : Option Addr) (N cap : Nat) (w : World) (h : d.size + r.size + s.size + N ≤ 1048576) :
    Calls Try.prog 4 #[.string d, .string r, .string s, .slice a3 N cap] w fun e w' => e = .returned (.bool true) ∧ w = w' := by
  go_enter Try.func4, Try.ntmps4
  go_wp2
  go_ret
  exact ⟨rfl, rfl⟩

set_option maxRecDepth 100000 in
set_option maxHeartbeats 1000000 in
theorem sum_out (d r s : ByteArray) (a3 : Option Addr) (N cap : Nat) (w : World) (hd : d.size ≤ maxLen) (hr : r.size ≤ maxLen) (hs : s.size ≤ maxLen) (hN : N ≤ maxLen) (h : 1048576 < d.size + r.size + s.size + N) :
    Calls Try.prog 4 #[.string d, .string r, .string s, .slice a3 N cap] w fun e w' => e = .returned (.bool false) ∧ w = w' := by
  unfold maxLen at hd hr hs hN
  by_cases h1 : 1048576 < d.size
  · clear h
    go_enter Try.func4, Try.ntmps4
    go_wp2
    go_ret
    exact ⟨rfl, rfl⟩
  by_cases h2 : 1048576 < r.size
  · clear h
    go_enter Try.func4, Try.ntmps4
    go_wp2
    go_ret
    exact ⟨rfl, rfl⟩
  by_cases h3 : 1048576 < d.size + r.size
  · clear h
    go_enter Try.func4, Try.ntmps4
    go_wp2
    go_ret
    exact ⟨rfl, rfl⟩
  by_cases h4 : 1048576 < s.size
  · clear h
    go_enter Try.func4, Try.ntmps4
    go_wp2
    go_ret
    exact ⟨rfl, rfl⟩
  by_cases h5 : 1048576 < d.size + r.size + s.size
  · clear h
    go_enter Try.func4, Try.ntmps4
    go_wp2
    go_ret
    exact ⟨rfl, rfl⟩
  by_cases h6 : 1048576 < N
  · clear h
    go_enter Try.func4, Try.ntmps4
    go_wp2
    go_ret
    exact ⟨rfl, rfl⟩
  go_enter Try.func4, Try.ntmps4
  go_wp2
  go_ret
  exact ⟨rfl, rfl⟩

end Go.Proofs.Qxb6602676a.Sc
