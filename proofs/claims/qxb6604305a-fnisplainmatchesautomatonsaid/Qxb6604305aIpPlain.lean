/-
  THE PLAIN SIDE OF isPlain AND OF THE AUTOMATON: no Go in sight. Own work on this program.
-/
namespace Go.Proofs.Qxb6604305a.Ip

def digB (c : Int) : Bool := decide (48 ≤ c) && decide (c ≤ 57)
def dg (c : UInt8) : Bool := digB (c.toNat : Int)

/-- One step of the automaton; none: refused. -/
def step (st : Nat) (c : UInt8) : Option Nat :=
  if st = 0 then (if c.toNat = 45 then some 1 else if dg c then some 2 else none)
  else if st = 1 then (if dg c then some 2 else none)
  else if st = 2 then (if c.toNat = 46 then some 3 else if dg c then some 2 else none)
  else if st = 3 then (if dg c then some 4 else none)
  else (if dg c then some st else none)

def auto : Nat → List UInt8 → Bool
  | st, [] => st == 2 || st == 4
  | st, c :: r => match step st c with
    | some st' => auto st' r
    | none => false

theorem auto_step {st st' : Nat} {c : UInt8} (h : step st c = some st') (r : List UInt8) : auto st (c :: r) = auto st' r := by
  simp [auto, h]
theorem auto_stop {st : Nat} {c : UInt8} (h : step st c = none) (r : List UInt8) : auto st (c :: r) = false := by
  simp [auto, h]

theorem dg_46 {c : UInt8} (h : dg c = true) : c.toNat ≠ 46 ∧ c.toNat ≠ 45 := by
  simp [dg, digB] at h; omega

theorem step0_sign {c : UInt8} (h : c.toNat = 45) : step 0 c = some 1 := by simp [step, h]
theorem step0_other {c : UInt8} (h : c.toNat ≠ 45) : step 0 c = step 1 c := by simp [step, h]
theorem step1_dig {c : UInt8} (h : dg c = true) : step 1 c = some 2 := by simp [step, h]
theorem step1_no {c : UInt8} (h : dg c = false) : step 1 c = none := by simp [step, h]
theorem step2_dig {c : UInt8} (h : dg c = true) : step 2 c = some 2 := by simp [step, h, (dg_46 h).1]
theorem step2_pt {c : UInt8} (h : c.toNat = 46) : step 2 c = some 3 := by simp [step, h]
theorem step2_no {c : UInt8} (h : dg c = false) (h' : c.toNat ≠ 46) : step 2 c = none := by simp [step, h, h']
theorem step3_dig {c : UInt8} (h : dg c = true) : step 3 c = some 4 := by simp [step, h]
theorem step3_no {c : UInt8} (h : dg c = false) : step 3 c = none := by simp [step, h]
theorem step4_dig {c : UInt8} (h : dg c = true) : step 4 c = some 4 := by simp [step, h]
theorem step4_no {c : UInt8} (h : dg c = false) : step 4 c = none := by simp [step, h]

theorem auto0_other {l : List UInt8} (h : ∀ c r, l = c :: r → c.toNat ≠ 45) : auto 0 l = auto 1 l := by
  cases l with
  | nil => rfl
  | cons c r => simp [auto, step0_other (h c r rfl)]

theorem drop_cons (s : ByteArray) (k : Nat) (h : k < s.size) : s.data.toList.drop k = s[k] :: s.data.toList.drop (k + 1) := by
  rw [List.drop_eq_getElem_cons (by simpa using h)]; rfl
theorem drop_end (s : ByteArray) (k : Nat) (h : s.size ≤ k) : s.data.toList.drop k = [] := by
  apply List.drop_eq_nil_of_le; simpa using h

/-- Digits ahead change nothing, once one has been read. -/
theorem auto2_digits (D r : List UInt8) (h : ∀ c ∈ D, dg c = true) : auto 2 (D ++ r) = auto 2 r := by
  induction D with
  | nil => rfl
  | cons c D ih =>
    rw [List.cons_append, auto_step (step2_dig (h c (by simp)))]
    exact ih fun c hc => h c (by simp [hc])
theorem auto4_digits (D : List UInt8) (h : ∀ c ∈ D, dg c = true) : auto 4 D = true := by
  induction D with
  | nil => rfl
  | cons c D ih =>
    rw [auto_step (step4_dig (h c (by simp)))]
    exact ih fun c hc => h c (by simp [hc])

/-- A sign or none, a digit or more, and a point with a digit or more, or neither: it is taken. -/
theorem auto_text (neg : Bool) (D F : List UInt8) (hD : D ≠ []) (h1 : ∀ c ∈ D, dg c = true) (h2 : ∀ c ∈ F, dg c = true) :
    auto 0 ((if neg then [45] else []) ++ (D ++ (if F = [] then [] else 46 :: F))) = true := by
  have body : auto 1 (D ++ (if F = [] then [] else 46 :: F)) = true := by
    cases D with
    | nil => exact absurd rfl hD
    | cons c D =>
      rw [List.cons_append, auto_step (step1_dig (h1 c (by simp))), auto2_digits D _ fun c hc => h1 c (by simp [hc])]
      cases F with
      | nil => rfl
      | cons f F =>
        rw [if_neg (by simp), auto_step (step2_pt rfl), auto_step (step3_dig (h2 f (by simp)))]
        exact auto4_digits F fun c hc => h2 c (by simp [hc])
  cases neg with
  | true =>
    simp only [if_true]
    rw [List.singleton_append, auto_step (step0_sign rfl)]
    exact body
  | false =>
    have e : (if false = true then [45] else ([] : List UInt8)) = [] := rfl
    rw [e, List.nil_append, auto0_other]
    · exact body
    · intro c r h
      cases D with
      | nil => exact absurd rfl hD
      | cons d D => simp only [List.cons_append, List.cons.injEq] at h; rw [← h.1]; exact (dg_46 (h1 d (by simp))).2

end Go.Proofs.Qxb6604305a.Ip
