/-
  (*cursor).skip over two like tokens.
-/
import Derived.Test.Qxb6615028aTok
namespace Go.Proofs.Qxb6615028a
open Go.RowKit

/-- What skip leaves: the cursor at place q. -/
structure SkipPost (R T : Nat) (k : Int) (t : ByteArray) (ln : Int) (q B : Nat) (w0 : World) (e : Ending) (w' : World) : Prop where
  ret : ∃ v, e = .returned v
  cur : Cur w' R T k t ln q
  below : Below B w0 w'

set_option maxRecDepth 100000 in
set_option maxHeartbeats 1000000 in
theorem skip_not (R T : Nat) (k : Int) (t : ByteArray) (ln : Int) (B : Nat) (w0 w : World) (hop : opB k t = false) (hc : Cur w R T k t ln 0) (hB : Below B w0 w) (hB0 : B ≤ w0.heap.size) (hR : B ≤ R) :
    Calls Try.prog 24 #[.pointer (some ⟨R, 0, none⟩)] w (SkipPost R T k t ln 1 B w0) := by
  have HC : Hid (Cur w R T k t ln 0) := hc
  have HB : Hid (Below B w0 w) := hB
  have HB0 : Hid (B ≤ w.heap.size) := Nat.le_trans hB0 hB.size
  have HP : Hid (Calls Try.prog 26 #[.pointer (some ⟨R, 0, none⟩)] w (PeekPost k t ln w)) := peek0 R T k t ln w hc
  have HO : Hid (∀ w1, Below w.heap.size w w1 → Calls Try.prog 23 #[.agg #[.int .i64 k, .string t, .int .i64 ln]] w1 (BoolPost (opB k t) w.heap.size w)) := fun w1 h => opens k t ln _ _ w1 h (Nat.le_refl _)
  rw [hop] at HO
  clear hop hc hB hB0
  go_enter Try.func24, Try.ntmps24
  go_wp2_with fail
  refine Calls.mono HP.out ?_
  rintro e w1 ⟨hr, hb⟩
  subst hr
  have HB1 : Hid (Below w.heap.size w w1) := hb
  clear hb HP
  go_wp2_with fail
  refine Calls.mono (HO.out _ HB1.out) ?_
  rintro e w2 ⟨hr, hb⟩
  subst hr
  have HB2 : Hid (Below w.heap.size w w2) := hb
  have HC2 : Hid (Cur w2 R T k t ln 0) := HC.out.kept hb
  obtain ⟨c0, c1, fz⟩ := HC2.out.facts
  have c1' : w2.cell? ⟨R, 1, none⟩ = some (.int .i64 0) := c1
  clear hb HO c1
  go_wp2_with fail
  go_region
  go_wp2
  go_ret
  exact ⟨⟨_, rfl⟩, (HC2.out.set 1).kept (below_drewN _ 1), below_dn ((HB.out.trans (HB2.out.mono HB0.out)).setCell hR _) 1⟩

/-- The cursor at place p, and nothing below B has turned. -/
structure St (R T : Nat) (k : Int) (t : ByteArray) (ln : Int) (B : Nat) (w0 : World) (p : Nat) (w : World) : Prop where
  cur : Cur w R T k t ln p
  below : Below B w0 w
  ge : B ≤ w.heap.size
theorem St.kept {R T : Nat} {k : Int} {t : ByteArray} {ln : Int} {B : Nat} {w0 : World} {p : Nat} {w w' : World} (h : St R T k t ln B w0 p w) (hb : Below w.heap.size w w') : St R T k t ln B w0 p w' :=
  ⟨h.cur.kept hb, h.below.trans (hb.mono h.ge), Nat.le_trans h.ge hb.size⟩
theorem St.dn {R T : Nat} {k : Int} {t : ByteArray} {ln : Int} {B : Nat} {w0 : World} {p : Nat} {w : World} (h : St R T k t ln B w0 p w) (n : Nat) : St R T k t ln B w0 p (w.drewN n) := h.kept (below_drewN _ _)
theorem St.alloc {R T : Nat} {k : Int} {t : ByteArray} {ln : Int} {B : Nat} {w0 : World} {p : Nat} {w : World} (h : St R T k t ln B w0 p w) (b : Obj) : St R T k t ln B w0 p (w.alloc b) := h.kept ((Below.refl _ _).alloc (Nat.le_refl _) _)
theorem St.set {R T : Nat} {k : Int} {t : ByteArray} {ln : Int} {B : Nat} {w0 : World} {p : Nat} {w : World} (h : St R T k t ln B w0 p w) (hR : B ≤ R) (j : Nat) : St R T k t ln B w0 j (w.setCell ⟨R, 1, none⟩ (.int .i64 j)) :=
  ⟨h.cur.set j, h.below.setCell hR _, Nat.le_trans h.ge (by simp)⟩

set_option maxRecDepth 100000 in
set_option maxHeartbeats 2000000 in
theorem skip_yes (R T : Nat) (k : Int) (t : ByteArray) (ln : Int) (B : Nat) (w0 w : World) (hop : opB k t = true) (hc : Cur w R T k t ln 0) (hB : Below B w0 w) (hB0 : B ≤ w0.heap.size) (hR : B ≤ R) :
    Calls Try.prog 24 #[.pointer (some ⟨R, 0, none⟩)] w (SkipPost R T k t ln 2 B w0) := by
  have HC : Hid (Cur w R T k t ln 0) := hc
  have HB : Hid (Below B w0 w) := hB
  have HB0 : Hid (B ≤ w0.heap.size) := hB0
  have HP0 : Hid (∀ w1, Cur w1 R T k t ln 0 → Calls Try.prog 26 #[.pointer (some ⟨R, 0, none⟩)] w1 (PeekPost k t ln w1)) := fun w1 h => peek0 R T k t ln w1 h
  have HP1 : Hid (∀ w1, Cur w1 R T k t ln 1 → Calls Try.prog 26 #[.pointer (some ⟨R, 0, none⟩)] w1 (PeekPost k t ln w1)) := fun w1 h => peek1 R T k t ln w1 h
  have HO : Hid (∀ w1, Calls Try.prog 23 #[.agg #[.int .i64 k, .string t, .int .i64 ln]] w1 (BoolPost (opB k t) w1.heap.size w1)) := fun w1 => opens k t ln _ _ w1 (Below.refl _ _) (Nat.le_refl _)
  rw [hop] at HO
  have HS : Hid (St R T k t ln B w0 0 w) := ⟨hc, hB, Nat.le_trans hB0 hB.size⟩
  clear hop hc hB hB0 HC HB HB0
  go_enter Try.func24, Try.ntmps24
  go_wp2_with fail
  refine Calls.mono (HP0.out w HS.out.cur) ?_
  rintro e w1 ⟨hr, hb⟩
  subst hr
  have HS1 : Hid (St R T k t ln B w0 0 w1) := HS.out.kept hb
  clear hb HS
  go_wp2_with fail
  refine Calls.mono (HO.out w1) ?_
  rintro e w2 ⟨hr, hb⟩
  subst hr
  have HS2 : Hid (St R T k t ln B w0 0 w2) := HS1.out.kept hb
  obtain ⟨c0, c1, fz⟩ := HS2.out.cur.facts
  have c1' : w2.cell? ⟨R, 1, none⟩ = some (.int .i64 0) := c1
  clear hb c1 HS1
  go_wp2_with fail
  refine wp_loop_rounds 4 ?_
  rw [rounds_succ]
  go_wp2_with fail
  refine Calls.mono (done R T 0 _ c0 c1') ?_
  rintro e w3 ⟨hr, n, rfl⟩
  subst hr
  go_wp2_with fail
  refine Calls.mono (HP0.out _ (HS2.out.dn _).cur) ?_
  rintro e w3 ⟨hr, hb⟩
  subst hr
  have HS3 : Hid (St R T k t ln B w0 0 w3) := (HS2.out.dn _).kept hb
  clear hb HS2 c0 c1' fz
  go_wp2_with fail
  refine Calls.mono (HO.out _) ?_
  rintro e w4 ⟨hr, hb⟩
  subst hr
  have HS4 : Hid (St R T k t ln B w0 0 w4) := (HS3.out.alloc _).kept hb
  obtain ⟨c0, c1, fz⟩ := HS4.out.cur.facts
  have c1' : w4.cell? ⟨R, 1, none⟩ = some (.int .i64 0) := c1
  clear hb HS3 c1
  go_wp2_with fail
  rw [rounds_succ]
  have HS5 : Hid (St R T k t ln B w0 1 (w4.setCell ⟨R, 1, none⟩ (.int .i64 1))) := HS4.out.set hR 1
  generalize w4.setCell ⟨R, 1, none⟩ (.int .i64 1) = w5 at HS5 ⊢
  clear HS4 c0 c1' fz
  obtain ⟨c0, c1, fz⟩ := HS5.out.cur.facts
  have c1' : w5.cell? ⟨R, 1, none⟩ = some (.int .i64 1) := c1
  go_wp2_with fail
  refine Calls.mono (done R T 1 _ c0 c1') ?_
  rintro e w6 ⟨hr, n6, rfl⟩
  subst hr
  go_wp2_with fail
  refine Calls.mono (HP1.out _ (HS5.out.dn _).cur) ?_
  rintro e w7 ⟨hr, hb⟩
  subst hr
  have HS7 : Hid (St R T k t ln B w0 1 w7) := (HS5.out.dn _).kept hb
  clear hb HS5 c0 c1 c1' fz
  go_wp2_with fail
  refine Calls.mono (HO.out _) ?_
  rintro e w8 ⟨hr, hb⟩
  subst hr
  have HS8 : Hid (St R T k t ln B w0 1 w8) := (HS7.out.alloc _).kept hb
  obtain ⟨c0, c1, fz⟩ := HS8.out.cur.facts
  have c1' : w8.cell? ⟨R, 1, none⟩ = some (.int .i64 1) := c1
  clear hb HS7 c1
  go_wp2_with fail
  rw [rounds_succ]
  have HS9 : Hid (St R T k t ln B w0 2 (w8.setCell ⟨R, 1, none⟩ (.int .i64 2))) := HS8.out.set hR 2
  generalize w8.setCell ⟨R, 1, none⟩ (.int .i64 2) = w9 at HS9 ⊢
  clear HS8 c0 c1' fz
  obtain ⟨c0, c1, fz⟩ := HS9.out.cur.facts
  have c1' : w9.cell? ⟨R, 1, none⟩ = some (.int .i64 2) := c1
  go_wp2_with fail
  refine Calls.mono (done R T 2 _ c0 c1') ?_
  rintro e w10 ⟨hr, n10, rfl⟩
  subst hr
  go_wp2_with fail
  go_ret
  exact ⟨⟨_, rfl⟩, (HS9.out.dn _).cur, (HS9.out.dn _).below⟩
end Go.Proofs.Qxb6615028a
