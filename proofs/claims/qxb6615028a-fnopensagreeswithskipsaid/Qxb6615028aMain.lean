/-
  FnOpensAgreesWithSkip: the walk.
-/
import Derived.Test.Qxb6615028aPos
namespace Go.Proofs.Qxb6615028a
open Go.RowKit

/-- What the law leaves. -/
structure MainPost (w : World) (e : Ending) (w' : World) : Prop where
  ret : e = .returned (.bool true)
  below : Below w.heap.size w w'

structure Same (b : Bool) (w : World) (e : Ending) (w' : World) : Prop where
  ret : e = .returned (.bool b)
  same : w' = w
/-- The three rows. -/
abbrev w3 (w : World) (k : Int) (t : ByteArray) (ln : Int) (x y z : TypeId) : World := ((w.alloc (.cells #[.int .i64 k, .int .i64 k] x)).alloc (.cells #[.string t, .string t] y)).alloc (.cells #[.int .i64 ln, .int .i64 ln] z)

theorem opB_eq (k : Int) (t : ByteArray) : opB k t = (decide (k = 5) && ((t.toList == [40]) || (t.toList == [91]))) := by
  unfold opB isOpB
  rw [show (⟨#[40]⟩ : ByteArray).toList = [40] from ByteArray.toList_mk [40], show (⟨#[91]⟩ : ByteArray).toList = [91] from ByteArray.toList_mk [91]]
  cases decide (k = 5) <;> rfl

theorem skipQ (k : Int) (t : ByteArray) (ln : Int) (b : Bool) (h : opB k t = b) (R T B : Nat) (w0 w1 : World) (hc : Cur w1 R T k t ln 0) (hb : Below B w0 w1) (h0 : B ≤ w0.heap.size) (hR : B ≤ R) :
    Calls Try.prog 24 #[.pointer (some ⟨R, 0, none⟩)] w1 (SkipPost R T k t ln (if b then 2 else 1) B w0) := by
  cases b
  · exact skip_not R T k t ln B w0 w1 h hc hb h0 hR
  · exact skip_yes R T k t ln B w0 w1 h hc hb h0 hR

/-- ZZskipPos at the three rows that the law builds. -/
theorem skipPos3 (k : Int) (t : ByteArray) (ln : Int) (b : Bool) (h : opB k t = b) (w : World) (x y z : TypeId) :
    Calls Try.prog 14 #[.slice (some ⟨w.heap.size, 0, none⟩) 2 2, .slice (some ⟨w.heap.size + 1, 0, none⟩) 2 2, .slice (some ⟨w.heap.size + 2, 0, none⟩) 2 2]
      (((w.alloc (.cells #[.int .i64 k, .int .i64 k] x)).alloc (.cells #[.string t, .string t] y)).alloc (.cells #[.int .i64 ln, .int .i64 ln] z))
      (IntPost (if b then 2 else 1) (((w.alloc (.cells #[.int .i64 k, .int .i64 k] x)).alloc (.cells #[.string t, .string t] y)).alloc (.cells #[.int .i64 ln, .int .i64 ln] z))) := by
  have := skipPos w.heap.size (w.heap.size + 1) (w.heap.size + 2) k t ln (if b then 2 else 1) (((w.alloc (.cells #[.int .i64 k, .int .i64 k] x)).alloc (.cells #[.string t, .string t] y)).alloc (.cells #[.int .i64 ln, .int .i64 ln] z))
    (skipQ k t ln b h) (by go_simp) (by go_simp) (by go_simp) (by go_simp) (by go_simp) (by go_simp)
  cases b <;> exact this

theorem below3 {w1 w2 w3 : World} (h : Below w1.heap.size w1 w2) (a b c : Obj) (hb : Below (((w2.alloc a).alloc b).alloc c).heap.size (((w2.alloc a).alloc b).alloc c) w3) : Below w1.heap.size w1 w3 := by
  have hz := h.size
  have hm : w1.heap.size ≤ (((w2.alloc a).alloc b).alloc c).heap.size := by simp; omega
  exact (((h.alloc hz a).alloc (by simp; omega) b).alloc (by simp; omega) c).trans (hb.mono hm)

set_option maxRecDepth 100000 in
set_option maxHeartbeats 2000000 in
theorem walk (k : Int) (t : ByteArray) (ln : Int) (w : World) : Calls Try.prog 4 #[.int .i64 k, .string t, .int .i64 ln] w (MainPost w) := by
  by_cases hs : t.size ≤ 1048576
  · have HZ : Hid (Calls Try.prog 12 #[.int .i64 k, .string t, .int .i64 ln] w (Same true w)) := Calls.mono (zzBytes k t ln w) (fun e w' h => ⟨by rw [h.1, decide_eq_true hs], h.2⟩)
    have hs' : (t.size : Int) ≤ 1048576 := by omega
    have HE : Hid (opB k t = (decide (k = 5) && ((t.toList == [40]) || (t.toList == [91])))) := opB_eq k t
    by_cases hk : k = 5
    · subst hk
      rcases Bool.eq_false_or_eq_true (t.toList == [40]) with h4 | h4
      · have HB : opB 5 t = true := by rw [HE.out]; simp [h4]
        have HQ : Hid (∀ w x y z, Calls Try.prog 14 #[.slice (some ⟨w.heap.size, 0, none⟩) 2 2, .slice (some ⟨w.heap.size + 1, 0, none⟩) 2 2, .slice (some ⟨w.heap.size + 2, 0, none⟩) 2 2] (w3 w 5 t ln x y z) (IntPost 2 (w3 w 5 t ln x y z))) := fun w x y z => skipPos3 5 t ln true HB w x y z
        have HO : Hid (Calls Try.prog 13 #[.int .i64 5, .string t, .int .i64 ln] w (BoolPost true w.heap.size w)) := by
          have := zzOpens 5 t ln w
          rw [HB] at this
          exact this
        clear HB HE
        go_enter Try.func4, Try.ntmps4
        go_wp2_with fail
        refine Calls.mono HZ.out ?_
        rintro e w1 ⟨hr, hw⟩
        subst hr hw
        go_wp2_with fail
        refine Calls.mono HO.out ?_
        rintro e w2 ⟨hr, hb⟩
        subst hr
        have HB2 : Hid (Below w1.heap.size w1 w2) := hb
        clear hb HO HZ
        go_wp2_with fail
        refine Calls.mono (HQ.out w2 _ _ _) ?_
        rintro e wz ⟨hr, hb⟩
        subst hr
        have HB3 : Hid (Below w1.heap.size w1 wz) := below3 HB2.out _ _ _ hb
        clear hb HB2 HQ
        go_wp2_with fail
        go_ret
        exact ⟨rfl, HB3.out⟩
      · rcases Bool.eq_false_or_eq_true (t.toList == [91]) with h9 | h9
        · have HB : opB 5 t = true := by rw [HE.out]; simp [h4, h9]
          have HQ : Hid (∀ w x y z, Calls Try.prog 14 #[.slice (some ⟨w.heap.size, 0, none⟩) 2 2, .slice (some ⟨w.heap.size + 1, 0, none⟩) 2 2, .slice (some ⟨w.heap.size + 2, 0, none⟩) 2 2] (w3 w 5 t ln x y z) (IntPost 2 (w3 w 5 t ln x y z))) := fun w x y z => skipPos3 5 t ln true HB w x y z
          have HO : Hid (Calls Try.prog 13 #[.int .i64 5, .string t, .int .i64 ln] w (BoolPost true w.heap.size w)) := by
            have := zzOpens 5 t ln w
            rw [HB] at this
            exact this
          clear HB HE
          go_enter Try.func4, Try.ntmps4
          go_wp2_with fail
          refine Calls.mono HZ.out ?_
          rintro e w1 ⟨hr, hw⟩
          subst hr hw
          go_wp2_with fail
          refine Calls.mono HO.out ?_
          rintro e w2 ⟨hr, hb⟩
          subst hr
          have HB2 : Hid (Below w1.heap.size w1 w2) := hb
          clear hb HO HZ
          go_wp2_with fail
          refine Calls.mono (HQ.out w2 _ _ _) ?_
          rintro e wz ⟨hr, hb⟩
          subst hr
          have HB3 : Hid (Below w1.heap.size w1 wz) := below3 HB2.out _ _ _ hb
          clear hb HB2 HQ
          go_wp2_with fail
          go_ret
          exact ⟨rfl, HB3.out⟩
        · have HB : opB 5 t = false := by rw [HE.out]; simp [h4, h9]
          have HQ : Hid (∀ w x y z, Calls Try.prog 14 #[.slice (some ⟨w.heap.size, 0, none⟩) 2 2, .slice (some ⟨w.heap.size + 1, 0, none⟩) 2 2, .slice (some ⟨w.heap.size + 2, 0, none⟩) 2 2] (w3 w 5 t ln x y z) (IntPost 1 (w3 w 5 t ln x y z))) := fun w x y z => skipPos3 5 t ln false HB w x y z
          have HO : Hid (Calls Try.prog 13 #[.int .i64 5, .string t, .int .i64 ln] w (BoolPost false w.heap.size w)) := by
            have := zzOpens 5 t ln w
            rw [HB] at this
            exact this
          clear HB HE
          go_enter Try.func4, Try.ntmps4
          go_wp2_with fail
          refine Calls.mono HZ.out ?_
          rintro e w1 ⟨hr, hw⟩
          subst hr hw
          go_wp2_with fail
          refine Calls.mono HO.out ?_
          rintro e w2 ⟨hr, hb⟩
          subst hr
          have HB2 : Hid (Below w1.heap.size w1 w2) := hb
          clear hb HO HZ
          go_wp2_with fail
          refine Calls.mono (HQ.out w2 _ _ _) ?_
          rintro e wz ⟨hr, hb⟩
          subst hr
          have HB3 : Hid (Below w1.heap.size w1 wz) := below3 HB2.out _ _ _ hb
          clear hb HB2 HQ
          go_wp2_with fail
          go_ret
          exact ⟨rfl, HB3.out⟩
    · have HB : opB k t = false := by rw [HE.out]; simp [hk]
      have HQ : Hid (∀ w x y z, Calls Try.prog 14 #[.slice (some ⟨w.heap.size, 0, none⟩) 2 2, .slice (some ⟨w.heap.size + 1, 0, none⟩) 2 2, .slice (some ⟨w.heap.size + 2, 0, none⟩) 2 2] (w3 w k t ln x y z) (IntPost 1 (w3 w k t ln x y z))) := fun w x y z => skipPos3 k t ln false HB w x y z
      have HO : Hid (Calls Try.prog 13 #[.int .i64 k, .string t, .int .i64 ln] w (BoolPost false w.heap.size w)) := by
        have := zzOpens k t ln w
        rw [HB] at this
        exact this
      clear HB HE
      go_enter Try.func4, Try.ntmps4
      go_wp2_with fail
      refine Calls.mono HZ.out ?_
      rintro e w1 ⟨hr, hw⟩
      subst hr hw
      go_wp2_with fail
      refine Calls.mono HO.out ?_
      rintro e w2 ⟨hr, hb⟩
      subst hr
      have HB2 : Hid (Below w1.heap.size w1 w2) := hb
      clear hb HO HZ
      go_wp2_with fail
      refine Calls.mono (HQ.out w2 _ _ _) ?_
      rintro e wz ⟨hr, hb⟩
      subst hr
      have HB3 : Hid (Below w1.heap.size w1 wz) := below3 HB2.out _ _ _ hb
      clear hb HB2 HQ
      go_wp2_with fail
      go_ret
      exact ⟨rfl, HB3.out⟩
  · have HZ : Hid (Calls Try.prog 12 #[.int .i64 k, .string t, .int .i64 ln] w (Same false w)) := Calls.mono (zzBytes k t ln w) (fun e w' h => ⟨by rw [h.1, decide_eq_false hs], h.2⟩)
    go_enter Try.func4, Try.ntmps4
    go_wp2_with fail
    refine Calls.mono HZ.out ?_
    rintro e w1 ⟨hr, hw⟩
    subst hr hw
    go_wp2_with fail
    go_ret
    exact ⟨rfl, Below.refl _ _⟩
end Go.Proofs.Qxb6615028a
