/-
  Plain facts on setM, kf, valAt, keyAt: no Go.
-/
import Derived.Test.Qxb6613733aSet
namespace Go.Proofs.Qxb6613733a

abbrev dKV : KV := (ByteArray.empty, ByteArray.empty)
theorem keyAt_lt {ps : List KV} {i : Nat} (h : i < ps.length) : keyAt ps i = ps[i].1 := by simp [keyAt, List.getD, h]
theorem valAt_lt {ps : List KV} {i : Nat} (h : i < ps.length) : valAt ps i = ps[i].2 := by simp [valAt, List.getD, h]

/-- kf is the first place of that key. -/
theorem kf_spec {ps : List KV} {s : ByteArray} {k : Nat} (hk : k < ps.length) (he : keyAt ps k = s) (hb : ∀ i, i < k → keyAt ps i ≠ s) : kf ps s = k := by
  have hle : ∀ m, m ≤ k → m ≤ kf ps s := by
    intro m
    induction m with
    | zero => intro _; exact Nat.zero_le _
    | succ m ih =>
      intro hm
      refine kf_miss (ih (by omega)) (by omega) ?_
      have := hb m (by omega)
      cases hs : sameS (ps.getD m dKV).1 s with
      | false => rfl
      | true => exact absurd (sameS_iff.1 hs) this
  exact kf_hit (hle k (Nat.le_refl _)) hk (sameS_iff.2 he)
theorem kf_key {ps : List KV} {s : ByteArray} (h : kf ps s < ps.length) : keyAt ps (kf ps s) = s := by
  have hl : (ps.map Prod.fst).findIdx (fun t => sameS t s) < (ps.map Prod.fst).length := by simpa [kf, fi] using h
  have := List.findIdx_getElem (p := fun t => sameS t s) (xs := ps.map Prod.fst) (w := hl)
  have := sameS_iff.1 this
  rw [keyAt_lt h]
  simpa [kf, fi] using this
theorem kf_first {ps : List KV} {s : ByteArray} {i : Nat} (h : i < kf ps s) : keyAt ps i ≠ s := by
  intro e
  have hl : i < ps.length := Nat.lt_of_lt_of_le h (kf_le ps s)
  have hh : i < (ps.map Prod.fst).findIdx (fun t => sameS t s) := h
  have h1 := List.not_of_lt_findIdx (p := fun t => sameS t s) (xs := ps.map Prod.fst) hh
  rw [keyAt_lt hl] at e
  simp [e, (sameS_iff (a := s) (b := s)).2 rfl] at h1
/-- A key that is there is found, no later than there. -/
theorem kf_there {ps : List KV} {k : Nat} (_hk : k < ps.length) : kf ps (keyAt ps k) ≤ k := by
  rcases Nat.lt_or_ge k (kf ps (keyAt ps k)) with h | h
  · exact absurd rfl (kf_first h)
  · exact h
theorem kf_none {ps : List KV} {s : ByteArray} (h : ∀ i, i < ps.length → keyAt ps i ≠ s) : ps.length ≤ kf ps s := by
  rcases Nat.lt_or_ge (kf ps s) ps.length with h1 | h1
  · exact absurd (kf_key h1) (h _ h1)
  · exact h1

theorem first_hit {ps : List KV} {s : ByteArray} (h : kf ps s < ps.length) : first (ps.map Prod.fst) s = (kf ps s : Int) := by
  unfold first; rw [if_pos (by simpa [kf] using h)]; rfl
theorem first_miss {ps : List KV} {s : ByteArray} (h : ps.length ≤ kf ps s) : first (ps.map Prod.fst) s = -1 := by
  unfold first; rw [if_neg (by simpa [kf] using h)]

section
variable {ps : List KV} {key val : ByteArray}

theorem set_length_hit (h : kf ps key < ps.length) : (setM ps key val).length = ps.length := by rw [setM_hit rfl h]; simp
theorem set_length_miss (h : ps.length ≤ kf ps key) : (setM ps key val).length = ps.length + 1 := by rw [setM_miss h]; simp
theorem set_length_le : ps.length ≤ (setM ps key val).length := by
  rcases Nat.lt_or_ge (kf ps key) ps.length with h | h
  · rw [set_length_hit h]; exact Nat.le_refl _
  · rw [set_length_miss h]; omega
theorem set_length_le' : (setM ps key val).length ≤ ps.length + 1 := by
  rcases Nat.lt_or_ge (kf ps key) ps.length with h | h
  · rw [set_length_hit h]; omega
  · rw [set_length_miss h]; omega

theorem set_key {i : Nat} (hi : i < ps.length) : keyAt (setM ps key val) i = keyAt ps i := by
  rcases Nat.lt_or_ge (kf ps key) ps.length with h | h
  · have hl : i < (setM ps key val).length := by rw [set_length_hit h]; exact hi
    rw [keyAt_lt hl]
    simp only [setM_hit (val := val) rfl h]
    rw [List.getElem_set]
    split
    · rename_i e; subst e; rfl
    · rw [keyAt_lt hi]
  · have hl : i < (setM ps key val).length := by rw [set_length_miss h]; omega
    rw [keyAt_lt hl]
    simp only [setM_miss (val := val) h]
    rw [List.getElem_append_left hi, keyAt_lt hi]
theorem set_val_hit (h : kf ps key < ps.length) : valAt (setM ps key val) (kf ps key) = val := by
  have hl : kf ps key < (setM ps key val).length := by rw [set_length_hit h]; exact h
  rw [valAt_lt hl]
  simp only [setM_hit (val := val) rfl h]
  simp
theorem set_val_other {i : Nat} (hi : i < ps.length) (hne : i ≠ kf ps key) : valAt (setM ps key val) i = valAt ps i := by
  rcases Nat.lt_or_ge (kf ps key) ps.length with h | h
  · have hl : i < (setM ps key val).length := by rw [set_length_hit h]; exact hi
    rw [valAt_lt hl]
    simp only [setM_hit (val := val) rfl h]
    rw [List.getElem_set_ne (Ne.symm hne), valAt_lt hi]
  · have hl : i < (setM ps key val).length := by rw [set_length_miss h]; omega
    rw [valAt_lt hl]
    simp only [setM_miss (val := val) h]
    rw [List.getElem_append_left hi, valAt_lt hi]
theorem set_last_key (h : ps.length ≤ kf ps key) : keyAt (setM ps key val) ps.length = key := by
  have hl : ps.length < (setM ps key val).length := by rw [set_length_miss h]; omega
  rw [keyAt_lt hl]
  simp only [setM_miss (val := val) h]
  simp
theorem set_last_val (h : ps.length ≤ kf ps key) : valAt (setM ps key val) ps.length = val := by
  have hl : ps.length < (setM ps key val).length := by rw [set_length_miss h]; omega
  rw [valAt_lt hl]
  simp only [setM_miss (val := val) h]
  simp
/-- Behind set, the key is found, with the new value. -/
theorem set_get : kf (setM ps key val) key < (setM ps key val).length ∧ valAt (setM ps key val) (kf (setM ps key val) key) = val := by
  rcases Nat.lt_or_ge (kf ps key) ps.length with h | h
  · have e : kf (setM ps key val) key = kf ps key := by
      refine kf_spec (by rw [set_length_hit h]; exact h) (by rw [set_key h]; exact kf_key h) (fun i hi => ?_)
      rw [set_key (by omega)]; exact kf_first hi
    rw [e]
    exact ⟨by rw [set_length_hit h]; exact h, set_val_hit h⟩
  · have e : kf (setM ps key val) key = ps.length := by
      refine kf_spec (by rw [set_length_miss h]; omega) (set_last_key h) (fun i hi => ?_)
      rw [set_key hi]; exact kf_first (by omega)
    rw [e]
    exact ⟨by rw [set_length_miss h]; omega, set_last_val h⟩
/-- Another key is found where it was, with its old value. -/
theorem set_get_other {i : Nat} (hi : i < ps.length) (hne : keyAt ps i ≠ key) : kf (setM ps key val) (keyAt ps i) = kf ps (keyAt ps i) ∧ kf ps (keyAt ps i) < ps.length ∧ kf (setM ps key val) (keyAt ps i) < (setM ps key val).length ∧ valAt (setM ps key val) (kf (setM ps key val) (keyAt ps i)) = valAt ps (kf ps (keyAt ps i)) := by
  have h1 : kf ps (keyAt ps i) < ps.length := Nat.lt_of_le_of_lt (kf_there hi) hi
  have e : kf (setM ps key val) (keyAt ps i) = kf ps (keyAt ps i) := by
    refine kf_spec (Nat.lt_of_lt_of_le h1 set_length_le) (by rw [set_key h1]; exact kf_key h1) (fun j hj => ?_)
    rw [set_key (by omega)]; exact kf_first hj
  refine ⟨e, h1, by rw [e]; exact Nat.lt_of_lt_of_le h1 set_length_le, ?_⟩
  rw [e]
  refine set_val_other h1 (fun h => hne ?_)
  have := kf_key h1
  rw [h] at this
  rw [← this, kf_key (by omega)]
end
end Go.Proofs.Qxb6613733a
