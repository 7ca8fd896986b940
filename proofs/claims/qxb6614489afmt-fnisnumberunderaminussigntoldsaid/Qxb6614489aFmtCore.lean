/-
  FnIsNumberUnderAMinusSign: the walk.
-/
import Derived.Test.Qxb6614489aFmtIs
namespace Go.Proofs.Qxb6614489aFmt
open Go.RowKit

theorem txt_minus (s : ByteArray) : txtOf (⟨#[45]⟩ ++ s) = 45 :: txtOf s := by
  unfold txtOf
  rw [ByteArray.data_append]
  simp
theorem size_minus (s : ByteArray) : (⟨#[45]⟩ ++ s : ByteArray).size = s.size + 1 := by
  rw [← txtOf_length, txt_minus, List.length_cons, txtOf_length]

/-- What the law leaves. -/
structure CorePost (w : World) (e : Ending) (w' : World) : Prop where
  ret : e = .returned (.bool true)
  below : Below w.heap.size w w'

/-- The three cases. -/
theorem cases3 (s : ByteArray) : (isNum (txtOf s) = false ∧ isNum (45 :: txtOf s) = false) ∨ (∃ h : 0 < s.size, isNum (txtOf s) = true ∧ ((s[0].toNat : Int) = 45) ∧ isNum (45 :: txtOf s) = false) ∨
    (∃ h : 0 < s.size, isNum (txtOf s) = true ∧ ¬ ((s[0].toNat : Int) = 45) ∧ isNum (45 :: txtOf s) = true) := by
  rw [isNum_minus]
  rcases Bool.eq_false_or_eq_true (isNum (txtOf s)) with h | h
  · have hl := txtOf_length s
    have hz : ∀ hp : 0 < s.size, (txtOf s)[0]? = some s[0] := fun hp => by
      rw [List.getElem?_eq_getElem (by rw [hl]; exact hp)]
      rfl
    rw [h]
    generalize txtOf s = l at h hl hz
    cases l with
    | nil => cases h
    | cons c t =>
      have hp : 0 < s.size := by rw [← hl]; simp
      have hc : c = s[0] := by simpa using hz hp
      subst hc
      by_cases h5 : (s[0].toNat : Int) = 45
      · refine .inr (.inl ⟨hp, rfl, h5, ?_⟩)
        have : s[0].toNat = 45 := by omega
        simp [this]
      · refine .inr (.inr ⟨hp, rfl, h5, ?_⟩)
        have : s[0].toNat ≠ 45 := by omega
        simp [this]
  · rw [h]
    exact .inl ⟨rfl, rfl⟩

set_option maxRecDepth 100000 in
set_option maxHeartbeats 1000000 in
theorem core (s : ByteArray) (w : World) : Calls Tryf.prog 3 #[.string s] w (CorePost w) := by
  by_cases hs : s.size ≤ 1048576
  · have HA : Hid (Calls Tryf.prog 5 #[.string s] w (BoolPost (isNum (txtOf s)) w.heap.size w)) := zzIsNumber s (by omega) _ _ _ (Below.refl _ _) (Nat.le_refl _)
    have HM : Hid (∀ w1, Below w.heap.size w w1 → Calls Tryf.prog 5 #[.string (⟨#[45]⟩ ++ s)] w1 (BoolPost (isNum (45 :: txtOf s)) w.heap.size w)) := fun w1 hb => by
      have := zzIsNumber (⟨#[45]⟩ ++ s) (by rw [size_minus]; omega) w.heap.size w w1 hb (Nat.le_refl _)
      rw [txt_minus] at this
      exact this
    have HP : Hid (∀ w1, Calls Tryf.prog 6 #[.string s] w1 (PlainPost s w1)) := fun w1 => plainDigits s hs w1
    have hlen : Hid (decide (s.size ≤ 1048576) = true) := decide_eq_true hs
    have hs' : (s.size : Int) ≤ 1048576 := by omega
    rcases cases3 s with ⟨ha, hb⟩ | ⟨hp, ha, h5, hb⟩ | ⟨hp, ha, h5, hb⟩
    · rw [ha] at HA
      rw [hb] at HM
      have HP2 : Hid (∀ w1 e w', PlainPost s w1 e w' → w' = w1 ∧ e = .returned (.bool false)) := by
        intro w1 e w' h
        obtain ⟨b, rfl, hbb, rfl⟩ := h.ex
        refine ⟨rfl, ?_⟩
        cases b
        · rfl
        · have := (hbb rfl).1
          rw [ha] at this
          cases this
      clear ha hb
      go_enter Tryf.func3, Tryf.ntmps3
      go_wp2_with fail
      refine Calls.mono (zzBytes s w) ?_
      rintro e w1 ⟨hr, rfl⟩
      rw [hlen.out] at hr
      subst hr
      go_wp2_with fail
      refine Calls.mono HA.out ?_
      rintro e w2 ⟨hr, hb2⟩
      subst hr
      have HB2 : Hid (Below w1.heap.size w1 w2) := hb2
      clear hb2 HA
      go_wp2_with fail
      refine Calls.mono (HM.out w2 HB2.out) ?_
      rintro e w3 ⟨hr, hb3⟩
      subst hr
      have HB3 : Hid (Below w1.heap.size w1 w3) := hb3
      clear hb3 HM HB2
      go_wp2_with fail
      refine Calls.mono (HP.out w3) ?_
      intro e w4 h4
      have h44 := HP2.out _ _ _ h4
      clear h4 HP HP2
      obtain ⟨rfl, hr⟩ := h44
      subst hr
      go_wp2
      go_ret
      exact ⟨rfl, HB3.out⟩
    · rw [ha] at HA
      rw [hb] at HM
      have HP2 : Hid (∀ w1 e w', PlainPost s w1 e w' → w' = w1 ∧ e = .returned (.bool false)) := by
        intro w1 e w' h
        obtain ⟨b, rfl, hbb, rfl⟩ := h.ex
        refine ⟨rfl, ?_⟩
        cases b
        · rfl
        · have := (hbb rfl).2
          rw [hb] at this
          cases this
      clear ha hb
      go_enter Tryf.func3, Tryf.ntmps3
      go_wp2_with fail
      refine Calls.mono (zzBytes s w) ?_
      rintro e w1 ⟨hr, rfl⟩
      rw [hlen.out] at hr
      subst hr
      go_wp2_with fail
      refine Calls.mono HA.out ?_
      rintro e w2 ⟨hr, hb2⟩
      subst hr
      have HB2 : Hid (Below w1.heap.size w1 w2) := hb2
      clear hb2 HA
      go_wp2_with fail
      refine Calls.mono (HM.out w2 HB2.out) ?_
      rintro e w3 ⟨hr, hb3⟩
      subst hr
      have HB3 : Hid (Below w1.heap.size w1 w3) := hb3
      clear hb3 HM HB2
      go_wp2_with fail
      refine Calls.mono (HP.out w3) ?_
      intro e w4 h4
      have h44 := HP2.out _ _ _ h4
      clear h4 HP HP2
      obtain ⟨rfl, hr⟩ := h44
      subst hr
      go_wp2
      go_ret
      exact ⟨rfl, HB3.out⟩
    · rw [ha] at HA
      rw [hb] at HM
      have HP2 : Hid (∀ w1 e w', PlainPost s w1 e w' → w' = w1 ∧ (e = .returned (.bool true) ∨ e = .returned (.bool false))) := by
        intro w1 e w' h
        obtain ⟨b, rfl, hbb, rfl⟩ := h.ex
        refine ⟨rfl, ?_⟩
        cases b
        · exact .inr rfl
        · exact .inl rfl
      clear ha hb
      go_enter Tryf.func3, Tryf.ntmps3
      go_wp2_with fail
      refine Calls.mono (zzBytes s w) ?_
      rintro e w1 ⟨hr, rfl⟩
      rw [hlen.out] at hr
      subst hr
      go_wp2_with fail
      refine Calls.mono HA.out ?_
      rintro e w2 ⟨hr, hb2⟩
      subst hr
      have HB2 : Hid (Below w1.heap.size w1 w2) := hb2
      clear hb2 HA
      go_wp2_with fail
      refine Calls.mono (HM.out w2 HB2.out) ?_
      rintro e w3 ⟨hr, hb3⟩
      subst hr
      have HB3 : Hid (Below w1.heap.size w1 w3) := hb3
      clear hb3 HM HB2
      go_wp2_with fail
      refine Calls.mono (HP.out w3) ?_
      intro e w4 h4
      have h44 := HP2.out _ _ _ h4
      clear h4 HP HP2
      obtain ⟨rfl, hr⟩ := h44
      have hne : ((s[0].toNat : Int) != 45) = true := by simp [h5]
      rcases hr with rfl | rfl
      · go_wp2
        go_ret
        exact ⟨rfl, HB3.out⟩
      · go_wp2
        go_ret
        exact ⟨rfl, HB3.out⟩
  · have hlen : Hid (decide (s.size ≤ 1048576) = false) := decide_eq_false hs
    go_enter Tryf.func3, Tryf.ntmps3
    go_wp2_with fail
    refine Calls.mono (zzBytes s w) ?_
    rintro e w1 ⟨hr, rfl⟩
    rw [hlen.out] at hr
    subst hr
    go_wp2
    go_ret
    exact ⟨rfl, Below.refl _ _⟩
end Go.Proofs.Qxb6614489aFmt
