/-
  JSON numbers over lists of bytes: no Go.
-/
import Derived.Test.Qxb6614489aFmtRows
namespace Go.Proofs.Qxb6614489aFmt

def isD (c : UInt8) : Bool := decide (48 ≤ (c.toNat : Int)) && decide ((c.toNat : Int) ≤ 57)
/-- What is left behind a run of digits. -/
def digs (l : List UInt8) : List UInt8 := l.dropWhile isD
/-- An integer part. -/
def sInt : List UInt8 → Option (List UInt8)
  | [] => none
  | c :: t => if c.toNat = 48 then some t else if isD c then some (digs t) else none
/-- A run of digits that is not empty. -/
def sDig : List UInt8 → Option (List UInt8)
  | [] => none
  | c :: t => if isD c then some (digs t) else none
def sFrac : List UInt8 → Option (List UInt8)
  | [] => some []
  | c :: t => if c.toNat = 46 then sDig t else some (c :: t)
def skipSign : List UInt8 → List UInt8
  | [] => []
  | c :: t => if c.toNat = 43 ∨ c.toNat = 45 then t else c :: t
def sExp : List UInt8 → Option (List UInt8)
  | [] => some []
  | c :: t => if c.toNat = 101 ∨ c.toNat = 69 then sDig (skipSign t) else some (c :: t)
def sNum (l : List UInt8) : Option (List UInt8) := ((sInt l).bind sFrac).bind sExp
def dropMinus : List UInt8 → List UInt8
  | [] => []
  | c :: t => if c.toNat = 45 then t else c :: t
def sSigned (l : List UInt8) : Option (List UInt8) := sNum (dropMinus l)
/-- isNumber's answer. -/
def isNum (l : List UInt8) : Bool := !l.isEmpty && (match sSigned l with | some [] => true | _ => false)

/-- Under a minus sign. -/
theorem isNum_minus (l : List UInt8) : isNum (45 :: l) = (isNum l && (match l with | [] => false | c :: _ => c.toNat != 45)) := by
  cases l with
  | nil => rfl
  | cons c t =>
    have h0 : dropMinus (45 :: c :: t) = c :: t := rfl
    by_cases h : c.toNat = 45
    · have hd : isD c = false := by simp [isD, h]
      have h1 : sNum (c :: t) = none := by simp [sNum, sInt, h, hd]
      simp [isNum, sSigned, h0, h1, h]
    · have h1 : dropMinus (c :: t) = c :: t := by simp [dropMinus, h]
      simp [isNum, sSigned, h0, h1, h]

theorem digs_all {l : List UInt8} (h : ∀ c ∈ l, isD c = true) : digs l = [] := by
  induction l with
  | nil => rfl
  | cons c t ih => simp [digs, h c (by simp)]; exact ih (fun x hx => h x (by simp [hx]))

/-- Plain digits are a number, and one under a minus sign. -/
theorem plain_num {c : UInt8} {t : List UInt8} (h : ∀ x ∈ c :: t, isD x = true) (h0 : c.toNat = 48 → t = []) : isNum (c :: t) = true ∧ c.toNat ≠ 45 := by
  have hc := h c (by simp)
  have hne : c.toNat ≠ 45 := by simp [isD] at hc; omega
  have ht : digs t = [] := digs_all (fun x hx => h x (by simp [hx]))
  refine ⟨?_, hne⟩
  have h1 : dropMinus (c :: t) = c :: t := by simp [dropMinus, hne]
  have h2 : sNum (c :: t) = some [] := by
    by_cases hz : c.toNat = 48
    · rw [h0 hz]; simp [sNum, sInt, hz, sFrac, sExp]
    · simp [sNum, sInt, hz, hc, ht, sFrac, sExp]
  simp [isNum, sSigned, h1, h2]

/-- Where a run of digits from i on ends. -/
def dEnd (l : List UInt8) (i : Nat) : Nat := l.length - (digs (l.drop i)).length
theorem digs_suffix (l : List UInt8) : ∃ k, k ≤ l.length ∧ digs l = l.drop k ∧ l.length - (digs l).length = k := by
  induction l with
  | nil => exact ⟨0, by simp, rfl, rfl⟩
  | cons c t ih =>
    by_cases h : isD c
    · obtain ⟨k, h1, h2, h3⟩ := ih
      have e : digs (c :: t) = digs t := by simp [digs, h]
      refine ⟨k + 1, by simp; omega, by rw [e, h2]; simp, ?_⟩
      rw [e, h2]; simp; omega
    · have e : digs (c :: t) = c :: t := by simp [digs, h]
      exact ⟨0, by simp, by rw [e]; simp, by rw [e]; simp⟩
theorem dEnd_drop (l : List UInt8) (i : Nat) (hi : i ≤ l.length) : l.drop (dEnd l i) = digs (l.drop i) ∧ i ≤ dEnd l i ∧ dEnd l i ≤ l.length := by
  obtain ⟨k, h1, h2, h3⟩ := digs_suffix (l.drop i)
  simp only [List.length_drop] at h1 h3
  have hl : (digs (l.drop i)).length = l.length - i - k := by rw [h2]; simp; omega
  have e : dEnd l i = i + k := by unfold dEnd; omega
  rw [e]
  exact ⟨by rw [h2, List.drop_drop], by omega, by omega⟩
theorem drop_cons {l : List UInt8} {i : Nat} (h : i < l.length) : l.drop i = l.getD i 0 :: l.drop (i + 1) := by
  rw [List.drop_eq_getElem_cons h]; simp [List.getD, h]
theorem digs_step {l : List UInt8} {i : Nat} (h : i < l.length) (hd : isD (l.getD i 0) = true) : digs (l.drop i) = digs (l.drop (i + 1)) := by
  rw [drop_cons h]
  generalize l.getD i 0 = c at hd
  simp [digs, hd]
theorem digs_stop {l : List UInt8} {i : Nat} (h : i < l.length) (hd : isD (l.getD i 0) = false) : digs (l.drop i) = l.drop i := by
  rw [drop_cons h]
  generalize l.getD i 0 = c at hd
  simp [digs, hd]
/-- The run ends at k. -/
theorem dEnd_of {l : List UInt8} {i k : Nat} (hk : k ≤ l.length) (he : digs (l.drop k) = digs (l.drop i)) (hs : k = l.length ∨ (k < l.length ∧ isD (l.getD k 0) = false)) : dEnd l i = k := by
  unfold dEnd
  rw [← he]
  rcases hs with rfl | ⟨h1, h2⟩
  · simp [digs]
  · rw [digs_stop h1 h2]; simp; omega
/-- sDig by places. -/
theorem sDig_at {l : List UInt8} {i : Nat} (hi : i ≤ l.length) : sDig (l.drop i) = if dEnd l i = i then none else some (l.drop (dEnd l i)) := by
  rcases Nat.lt_or_ge i l.length with h | h
  · rw [drop_cons h]
    cases hd : isD (l.getD i 0) with
    | true =>
      have hst := digs_step h hd
      have e1 : dEnd l i ≠ i := by
        have h2 := dEnd_drop l (i + 1) h
        have : dEnd l i = dEnd l (i + 1) := by unfold dEnd; rw [hst]
        omega
      rw [if_neg e1, (dEnd_drop l i hi).1, hst]
      generalize l.getD i 0 = c at hd
      simp [sDig, hd]
    | false =>
      have e1 : dEnd l i = i := dEnd_of hi rfl (.inr ⟨h, hd⟩)
      rw [if_pos e1]
      generalize l.getD i 0 = c at hd
      simp [sDig, hd]
  · have e : i = l.length := by omega
    subst e
    have e1 : dEnd l l.length = l.length := dEnd_of (Nat.le_refl _) rfl (.inl rfl)
    rw [if_pos e1]
    simp [sDig]

/-! The steps by places: c is the byte at i. -/
def sFE (r : List UInt8) : Option (List UInt8) := (sFrac r).bind sExp
theorem sNum_eq (r : List UInt8) : sNum r = (sInt r).bind sFE := by
  unfold sNum sFE; cases sInt r <;> rfl
theorem dEnd_zero {l : List UInt8} (i : Nat) (hi : i ≤ l.length) : l.drop (dEnd l i) = digs (l.drop i) := (dEnd_drop l i hi).1
theorem minus_yes {l : List UInt8} (h : 0 < l.length) (hc : (l.getD 0 0).toNat = 45) : sSigned l = sNum (l.drop 1) := by
  unfold sSigned
  have e : l = l.getD 0 0 :: l.drop 1 := by have := drop_cons h; simpa using this
  have : dropMinus l = l.drop 1 := by
    rw [e]
    generalize l.getD 0 0 = c at hc
    simp [dropMinus, hc]
  rw [this]
theorem minus_no {l : List UInt8} (h : 0 < l.length) (hc : (l.getD 0 0).toNat ≠ 45) : sSigned l = sNum (l.drop 0) := by
  unfold sSigned
  have e : l = l.getD 0 0 :: l.drop 1 := by have := drop_cons h; simpa using this
  have : dropMinus l = l := by
    rw [e]
    generalize l.getD 0 0 = c at hc
    simp [dropMinus, hc]
  rw [this]; rfl
theorem int_zero {l : List UInt8} {i : Nat} (h : i < l.length) (hc : (l.getD i 0).toNat = 48) : sNum (l.drop i) = sFE (l.drop (i + 1)) := by
  rw [sNum_eq, drop_cons h]
  generalize l.getD i 0 = c at hc
  simp [sInt, hc]
theorem int_other {l : List UInt8} {i : Nat} (hi : i ≤ l.length) (hc : i < l.length → (l.getD i 0).toNat ≠ 48) : sNum (l.drop i) = if dEnd l i = i then none else sFE (l.drop (dEnd l i)) := by
  have e : sInt (l.drop i) = sDig (l.drop i) := by
    rcases Nat.lt_or_ge i l.length with h | h
    · have hc' := hc h
      rw [drop_cons h]
      generalize l.getD i 0 = c at hc'
      simp [sInt, sDig, hc']
    · rw [List.drop_of_length_le h]; rfl
  rw [sNum_eq, e, sDig_at hi]
  split <;> rfl
theorem frac_dot {l : List UInt8} {i : Nat} (h : i < l.length) (hc : (l.getD i 0).toNat = 46) : sFE (l.drop i) = if dEnd l (i + 1) = i + 1 then none else sExp (l.drop (dEnd l (i + 1))) := by
  unfold sFE
  have e : sFrac (l.drop i) = sDig (l.drop (i + 1)) := by
    rw [drop_cons h]
    generalize l.getD i 0 = c at hc
    simp [sFrac, hc]
  rw [e, sDig_at h]
  split <;> rfl
theorem frac_none {l : List UInt8} {i : Nat} (hc : i < l.length → (l.getD i 0).toNat ≠ 46) : sFE (l.drop i) = sExp (l.drop i) := by
  unfold sFE
  have e : sFrac (l.drop i) = some (l.drop i) := by
    rcases Nat.lt_or_ge i l.length with h | h
    · have hc' := hc h
      rw [drop_cons h]
      generalize l.getD i 0 = c at hc'
      simp [sFrac, hc']
    · rw [List.drop_of_length_le h]; rfl
  rw [e]; rfl
theorem exp_none {l : List UInt8} {i : Nat} (hc : i < l.length → (l.getD i 0).toNat ≠ 101 ∧ (l.getD i 0).toNat ≠ 69) : sExp (l.drop i) = some (l.drop i) := by
  rcases Nat.lt_or_ge i l.length with h | h
  · have hc' := hc h
    rw [drop_cons h]
    generalize l.getD i 0 = c at hc'
    simp [sExp, hc'.1, hc'.2]
  · rw [List.drop_of_length_le h]; rfl
theorem exp_e {l : List UInt8} {i : Nat} (h : i < l.length) (hc : (l.getD i 0).toNat = 101 ∨ (l.getD i 0).toNat = 69) : sExp (l.drop i) = sDig (skipSign (l.drop (i + 1))) := by
  rw [drop_cons h]
  generalize l.getD i 0 = c at hc
  simp [sExp, hc]
theorem sign_yes {l : List UInt8} {i : Nat} (h : i < l.length) (hc : (l.getD i 0).toNat = 43 ∨ (l.getD i 0).toNat = 45) : skipSign (l.drop i) = l.drop (i + 1) := by
  rw [drop_cons h]
  generalize l.getD i 0 = c at hc
  simp [skipSign, hc]
theorem sign_no {l : List UInt8} {i : Nat} (hc : i < l.length → (l.getD i 0).toNat ≠ 43 ∧ (l.getD i 0).toNat ≠ 45) : skipSign (l.drop i) = l.drop i := by
  rcases Nat.lt_or_ge i l.length with h | h
  · have hc' := hc h
    rw [drop_cons h]
    generalize l.getD i 0 = c at hc'
    simp [skipSign, hc'.1, hc'.2]
  · rw [List.drop_of_length_le h]; rfl
end Go.Proofs.Qxb6614489aFmt
