/-
  token.isOp, opens, (*cursor).done, (*cursor).peek.
-/
import Derived.Test.Qxb6615028aRows
import Derived.WalkKit
import Derived.WalkSpells
import Derived.WalkLawsBesides
import Derived.BigQuiet
import Derived.Deep.QuietTactic
namespace Go.Proofs.Qxb6615028a
open Go.RowKit

/-- What a call that answers b leaves. -/
structure BoolPost (b : Bool) (B : Nat) (w0 : World) (e : Ending) (w' : World) : Prop where
  ret : e = .returned (.bool b)
  below : Below B w0 w'
theorem ret_bool {a b : Bool} (h : a = b) : Ending.returned (.bool a) = .returned (.bool b) := by rw [h]

def isOpB (k : Int) (t o : ByteArray) : Bool := decide (k = 5) && (t.toList == o.toList)

set_option maxRecDepth 100000 in
theorem isOp (k : Int) (t o : ByteArray) (ln : Int) (B : Nat) (w0 w : World) (hB : Below B w0 w) (hB0 : B ≤ w0.heap.size) :
    Calls Try.prog 33 #[.agg #[.int .i64 k, .string t, .int .i64 ln], .string o] w (BoolPost (isOpB k t o) B w0) := by
  have hsz := hB.size
  have HB : Hid (∀ b, Below B w0 (w.alloc b)) := fun b => hB.alloc (by omega) b
  clear hB hB0
  by_cases hk : k = 5
  · have HR : Hid (isOpB k t o = (t.toList == o.toList)) := by show _ = _; simp [isOpB, hk]
    go_enter Try.func33, Try.ntmps33
    go_wp2
    go_ret
    exact ⟨ret_bool HR.out.symm, HB.out _⟩
  · have HR : Hid (isOpB k t o = false) := by show _ = _; simp [isOpB, hk]
    go_enter Try.func33, Try.ntmps33
    go_wp2
    go_ret
    exact ⟨ret_bool HR.out.symm, HB.out _⟩

def opB (k : Int) (t : ByteArray) : Bool := isOpB k t ⟨#[40]⟩ || isOpB k t ⟨#[91]⟩

theorem below_get {B : Nat} {w0 w : World} (h : Below B w0 w) {R : Nat} (hR : R < B) : w.heap[R]? = w0.heap[R]? := h.block R hR

set_option maxRecDepth 100000 in
theorem opens (k : Int) (t : ByteArray) (ln : Int) (B : Nat) (w0 w : World) (hB : Below B w0 w) (hB0 : B ≤ w0.heap.size) :
    Calls Try.prog 23 #[.agg #[.int .i64 k, .string t, .int .i64 ln]] w (BoolPost (opB k t) B w0) := by
  have HB : Hid (Below B w0 w) := hB
  have HB0 : Hid (B ≤ w.heap.size) := Nat.le_trans hB0 hB.size
  have H1 : Hid (∀ o w1, Below (w.heap.size + 1) (w.alloc (.cells #[.int .i64 k, .string t, .int .i64 ln] 43)) w1 → Calls Try.prog 33 #[.agg #[.int .i64 k, .string t, .int .i64 ln], .string o] w1 (BoolPost (isOpB k t o) (w.heap.size + 1) (w.alloc (.cells #[.int .i64 k, .string t, .int .i64 ln] 43)))) := fun o w1 h => isOp k t o ln _ _ w1 h (by simp)
  have HF : Hid (∀ w1, Below (w.heap.size + 1) (w.alloc (.cells #[.int .i64 k, .string t, .int .i64 ln] 43)) w1 → Below B w0 w1) := fun w1 h =>
    (HB.out.alloc HB0.out _).trans (h.mono (by have := HB0.out; omega))
  have HC : Hid (∀ w1, Below (w.heap.size + 1) (w.alloc (.cells #[.int .i64 k, .string t, .int .i64 ln] 43)) w1 → w1.cell? ⟨w.heap.size, 0, none⟩ = some (.int .i64 k) ∧ w1.cell? ⟨w.heap.size, 1, none⟩ = some (.string t) ∧ w1.cell? ⟨w.heap.size, 2, none⟩ = some (.int .i64 ln)) := fun w1 h => by
    have hb := h.block w.heap.size (by omega)
    have ha : (w.alloc (.cells #[.int .i64 k, .string t, .int .i64 ln] 43)).heap[w.heap.size]? = some (.cells #[.int .i64 k, .string t, .int .i64 ln] 43) := by
      show (w.heap.push _)[w.heap.size]? = _
      rw [Array.getElem?_push]
      simp
    rw [ha] at hb
    simp [World.cell?, hb]
  clear hB hB0
  rcases Bool.eq_false_or_eq_true (isOpB k t ⟨#[40]⟩) with h4 | h4
  · have HR : Hid (opB k t = true) := by show _ = _; simp [opB, h4]
    go_enter Try.func23, Try.ntmps23
    go_wp2_with fail
    refine Calls.mono (H1.out _ _ (Below.refl _ _)) ?_
    rintro e w1 ⟨hr, hb⟩
    rw [h4] at hr
    subst hr
    have HB1 := HF.out _ hb
    have HB2 : Hid _ := HB1
    clear hb HB1
    go_wp2
    go_ret
    exact ⟨ret_bool HR.out.symm, HB2.out⟩
  · have HR : Hid (opB k t = isOpB k t ⟨#[91]⟩) := by show _ = _; simp [opB, h4]
    go_enter Try.func23, Try.ntmps23
    go_wp2_with fail
    refine Calls.mono (H1.out _ _ (Below.refl _ _)) ?_
    rintro e w1 ⟨hr, hb⟩
    rw [h4] at hr
    subst hr
    have HB1 : Hid _ := hb
    obtain ⟨c0, c1, c2⟩ := HC.out _ hb
    clear hb
    go_wp2_with fail
    refine Calls.mono (H1.out _ _ HB1.out) ?_
    rintro e w2 ⟨hr, hb⟩
    subst hr
    have HB2 : Hid _ := HF.out _ hb
    clear hb c0 c1 c2
    go_wp2
    go_ret
    exact ⟨ret_bool HR.out.symm, HB2.out⟩

/-- A cursor at block R over two like tokens at block T, at place p. -/
structure Cur (w : World) (R T : Nat) (k : Int) (t : ByteArray) (ln : Int) (p : Nat) : Prop where
  blk : w.heap[R]? = some (.cells #[.slice (some ⟨T, 0, none⟩) 2 2, .int .i64 p] 47)
  tok : w.heap[T]? = some (.cells #[.int .i64 k, .string t, .int .i64 ln, .int .i64 k, .string t, .int .i64 ln] 43)
  ne : T ≠ R
theorem Cur.lt {w : World} {R T : Nat} {k : Int} {t : ByteArray} {ln : Int} {p : Nat} (h : Cur w R T k t ln p) : R < w.heap.size ∧ T < w.heap.size :=
  ⟨(Array.getElem?_eq_some_iff.1 h.blk).1, (Array.getElem?_eq_some_iff.1 h.tok).1⟩
theorem Cur.facts {w : World} {R T : Nat} {k : Int} {t : ByteArray} {ln : Int} {p : Nat} (h : Cur w R T k t ln p) :
    w.cell? ⟨R, 0, none⟩ = some (.slice (some ⟨T, 0, none⟩) 2 2) ∧ w.cell? ⟨R, 1, none⟩ = some (.int .i64 p) ∧ w.frozen? ⟨R, 1, none⟩ = false := by
  simp [World.cell?, World.frozen?, h.blk]
theorem Cur.toks {w : World} {R T : Nat} {k : Int} {t : ByteArray} {ln : Int} {p : Nat} (h : Cur w R T k t ln p) :
    w.cell? ⟨T, 0, none⟩ = some (.int .i64 k) ∧ w.cell? ⟨T, 1, none⟩ = some (.string t) ∧ w.cell? ⟨T, 2, none⟩ = some (.int .i64 ln) ∧ w.cell? ⟨T, 3, none⟩ = some (.int .i64 k) ∧ w.cell? ⟨T, 4, none⟩ = some (.string t) ∧ w.cell? ⟨T, 5, none⟩ = some (.int .i64 ln) := by
  simp [World.cell?, h.tok]
theorem Cur.set {w : World} {R T : Nat} {k : Int} {t : ByteArray} {ln : Int} {p : Nat} (h : Cur w R T k t ln p) (j : Nat) : Cur (w.setCell ⟨R, 1, none⟩ (.int .i64 j)) R T k t ln j := by
  refine ⟨?_, ?_, h.ne⟩
  · simp only [World.setCell, Array.getElem?_modify, if_true]
    rw [h.blk]; rfl
  · rw [← h.tok]
    exact Below.heap_setCell _ _ _ _ h.ne
theorem Cur.kept {w w' : World} {R T : Nat} {k : Int} {t : ByteArray} {ln : Int} {p : Nat} (h : Cur w R T k t ln p) (hb : Below w.heap.size w w') : Cur w' R T k t ln p :=
  ⟨by rw [hb.block _ h.lt.1]; exact h.blk, by rw [hb.block _ h.lt.2]; exact h.tok, h.ne⟩
theorem below_drewN (w : World) (n : Nat) : Below w.heap.size w (w.drewN n) := ⟨rfl, rfl, rfl, Nat.le_refl _, fun _ _ => rfl⟩
theorem below_dn {B : Nat} {a w : World} (h : Below B a w) (n : Nat) : Below B a (w.drewN n) := ⟨h.os, h.tape, h.output, h.size, h.block⟩

/-- What done leaves. -/
structure DonePost (b : Bool) (w : World) (e : Ending) (w' : World) : Prop where
  ret : e = .returned (.bool b)
  same : ∃ n, w' = w.drewN n

set_option maxRecDepth 100000 in
theorem done (R T : Nat) (p : Nat) (w : World) (c0 : w.cell? ⟨R, 0, none⟩ = some (.slice (some ⟨T, 0, none⟩) 2 2)) (c1 : w.cell? ⟨R, 1, none⟩ = some (.int .i64 p)) :
    Calls Try.prog 25 #[.pointer (some ⟨R, 0, none⟩)] w (DonePost (decide (2 ≤ (p : Int))) w) := by
  go_enter Try.func25, Try.ntmps25
  go_wp2_with fail
  go_quiet (fail)
  go_wp2
  go_ret
  exact ⟨rfl, _, rfl⟩

/-- What peek leaves. -/
structure PeekPost (k : Int) (t : ByteArray) (ln : Int) (w : World) (e : Ending) (w' : World) : Prop where
  ret : e = .returned (.agg #[.int .i64 k, .string t, .int .i64 ln])
  below : Below w.heap.size w w'

set_option maxRecDepth 100000 in
set_option maxHeartbeats 1000000 in
theorem peek0 (R T : Nat) (k : Int) (t : ByteArray) (ln : Int) (w : World) (hc : Cur w R T k t ln 0) :
    Calls Try.prog 26 #[.pointer (some ⟨R, 0, none⟩)] w (PeekPost k t ln w) := by
  obtain ⟨hR, hT⟩ := hc.lt
  obtain ⟨c0, c1, _⟩ := hc.facts
  obtain ⟨t0, t1, t2, t3, t4, t5⟩ := hc.toks
  have c1' : w.cell? ⟨R, 1, none⟩ = some (.int .i64 0) := c1
  have HD : Hid (Calls Try.prog 25 #[.pointer (some ⟨R, 0, none⟩)] (w.alloc (.cells #[.int .i64 0, .string ⟨#[]⟩, .int .i64 0] 43)) (DonePost (decide (2 ≤ ((0 : Nat) : Int))) (w.alloc (.cells #[.int .i64 0, .string ⟨#[]⟩, .int .i64 0] 43)))) := done R T 0 _ (by go_simp) (by go_simp)
  clear hc c1
  go_enter Try.func26, Try.ntmps26
  go_wp2_with fail
  refine Calls.mono HD.out ?_
  rintro e w1 ⟨hr, n, rfl⟩
  subst hr
  clear HD
  go_wp2_with fail
  go_region
  go_wp2
  refine bodyPost_ret (v := .agg #[.int .i64 k, .string t, .int .i64 ln]) ?_ rfl ⟨rfl, ?_⟩
  · simp [results, Try.results26, go_sem]
  · exact (((below_dn ((Below.refl _ _).alloc (Nat.le_refl _) _) _).setCell (Nat.le_refl _) _).setCell (Nat.le_refl _) _).setCell (Nat.le_refl _) _

set_option maxRecDepth 100000 in
set_option maxHeartbeats 1000000 in
theorem peek1 (R T : Nat) (k : Int) (t : ByteArray) (ln : Int) (w : World) (hc : Cur w R T k t ln 1) :
    Calls Try.prog 26 #[.pointer (some ⟨R, 0, none⟩)] w (PeekPost k t ln w) := by
  obtain ⟨hR, hT⟩ := hc.lt
  obtain ⟨c0, c1, _⟩ := hc.facts
  obtain ⟨t0, t1, t2, t3, t4, t5⟩ := hc.toks
  have c1' : w.cell? ⟨R, 1, none⟩ = some (.int .i64 1) := c1
  have HD : Hid (Calls Try.prog 25 #[.pointer (some ⟨R, 0, none⟩)] (w.alloc (.cells #[.int .i64 0, .string ⟨#[]⟩, .int .i64 0] 43)) (DonePost (decide (2 ≤ ((1 : Nat) : Int))) (w.alloc (.cells #[.int .i64 0, .string ⟨#[]⟩, .int .i64 0] 43)))) := done R T 1 _ (by go_simp) (by go_simp)
  clear hc c1
  go_enter Try.func26, Try.ntmps26
  go_wp2_with fail
  refine Calls.mono HD.out ?_
  rintro e w1 ⟨hr, n, rfl⟩
  subst hr
  clear HD
  go_wp2_with fail
  go_region
  go_wp2
  refine bodyPost_ret (v := .agg #[.int .i64 k, .string t, .int .i64 ln]) ?_ rfl ⟨rfl, ?_⟩
  · simp [results, Try.results26, go_sem]
  · exact (((below_dn ((Below.refl _ _).alloc (Nat.le_refl _) _) _).setCell (Nat.le_refl _) _).setCell (Nat.le_refl _) _).setCell (Nat.le_refl _) _
end Go.Proofs.Qxb6615028a
