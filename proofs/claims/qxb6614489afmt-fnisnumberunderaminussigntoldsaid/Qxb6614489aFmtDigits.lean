/-
  (*jsonDecoder).digits.
-/
import Derived.Test.Qxb6614489aFmtPlain
import Derived.WalkKit
import Derived.WalkSpells
import Derived.WalkLawsBesides
import Derived.BigQuiet
import Derived.Deep.QuietTactic
import Derived.Laws.IdiomStrings
namespace Go.Proofs.Qxb6614489aFmt
open Go.RowKit

/-- The decoder at block R: its text, the bytes l, at block T; it stands at place i. -/
structure Dec (w : World) (R T cap : Nat) (l : List UInt8) (i : Nat) : Prop where
  blk : w.heap[R]? = some (.cells #[.slice (some ⟨T, 0, none⟩) l.length cap, .int .i64 i, .int .i64 0, .map none, .slice none 0 0, .slice none 0 0] 29)
  txt : ∀ k, k < l.length → w.cell? ⟨T, k, none⟩ = some (.int .u8 ((l.getD k 0).toNat : Int))
  ne : T ≠ R

theorem Dec.lt {w : World} {R T cap : Nat} {l : List UInt8} {i : Nat} (h : Dec w R T cap l i) : R < w.heap.size := (Array.getElem?_eq_some_iff.1 h.blk).1
theorem Dec.facts {w : World} {R T cap : Nat} {l : List UInt8} {i : Nat} (h : Dec w R T cap l i) :
    w.cell? ⟨R, 0, none⟩ = some (.slice (some ⟨T, 0, none⟩) l.length cap) ∧ w.cell? ⟨R, 1, none⟩ = some (.int .i64 i) ∧ w.frozen? ⟨R, 1, none⟩ = false := by
  simp [World.cell?, World.frozen?, h.blk]
theorem Dec.set {w : World} {R T cap : Nat} {l : List UInt8} {i : Nat} (h : Dec w R T cap l i) (j : Nat) : Dec (w.setCell ⟨R, 1, none⟩ (.int .i64 j)) R T cap l j := by
  refine ⟨?_, fun k hk => ?_, h.ne⟩
  · simp only [World.setCell, Array.getElem?_modify, if_true]
    rw [h.blk]; rfl
  · rw [← h.txt k hk]
    exact World.cell?_of_block (w := w) (Below.heap_setCell _ _ _ _ h.ne)
theorem Dec.inc {w : World} {R T cap : Nat} {l : List UInt8} {i : Nat} (h : Dec w R T cap l i) : Dec (w.setCell ⟨R, 1, none⟩ (.int .i64 ((i : Int) + 1))) R T cap l (i + 1) := h.set (i + 1)
theorem Dec.kept {w w' : World} {R T cap : Nat} {l : List UInt8} {i : Nat} (h : Dec w R T cap l i) (hb : Below w.heap.size w w') : Dec w' R T cap l i := by
  refine ⟨by rw [hb.block _ h.lt]; exact h.blk, fun k hk => ?_, h.ne⟩
  have hc := h.txt k hk
  rw [hb.cell (p := ⟨T, k, none⟩) (World.block_lt_of_cell? w _ hc)]; exact hc
theorem below_drewN (w : World) (n : Nat) : Below w.heap.size w (w.drewN n) := ⟨rfl, rfl, rfl, Nat.le_refl _, fun _ _ => rfl⟩
theorem below_dn {B : Nat} {a w : World} (h : Below B a w) (n : Nat) : Below B a (w.drewN n) := ⟨h.os, h.tape, h.output, h.size, h.block⟩
/-- Below block B nothing has turned, and R is from B on. -/
theorem below_set {B R : Nat} {a w : World} (h : Below B a w) (hR : B ≤ R) (o : Nat) (u : Value) : Below B a (w.setCell ⟨R, o, none⟩ u) := h.setCell hR u

/-- Where the decoder at R stands. -/
def posOf (R : Nat) (w : World) : Nat := match w.cell? ⟨R, 1, none⟩ with | some (.int _ q) => q.toNat | _ => 0
theorem Dec.pos {w : World} {R T cap : Nat} {l : List UInt8} {i : Nat} (h : Dec w R T cap l i) : posOf R w = i := by unfold posOf; rw [h.facts.2.1]; simp

theorem ret_int {a b : Int} (h : a = b) : Ending.returned (.int .i64 a) = .returned (.int .i64 b) := by rw [h]

/-- What digits leaves. -/
structure Digits (R T cap : Nat) (l : List UInt8) (i B : Nat) (w0 : World) (e : Ending) (w' : World) : Prop where
  ret : e = .returned (.int .i64 ((dEnd l i : Int) - i))
  dec : Dec w' R T cap l (dEnd l i)
  below : Below B w0 w'

set_option maxRecDepth 100000 in
set_option maxHeartbeats 1000000 in
theorem digits (R T cap : Nat) (l : List UInt8) (i B : Nat) (w0 w : World) (hd : Dec w R T cap l i) (hi : i ≤ l.length) (hn : l.length ≤ 2097152) (hB : Below B w0 w) (hR : B ≤ R) :
    Calls Tryf.prog 9 #[.pointer (some ⟨R, 0, none⟩)] w (Digits R T cap l i B w0) := by
  have HD : Hid (Dec w R T cap l i) := hd
  have HB : Hid (Below B w0 w) := hB
  obtain ⟨c0, c1, fz⟩ := hd.facts
  clear hd hB
  go_enter Tryf.func9, Tryf.ntmps9
  go_wp2
  go_loopw [8] (fun _ wr => ∃ k : Nat, i ≤ k ∧ k ≤ l.length ∧ digs (l.drop k) = digs (l.drop i) ∧ Dec wr R T cap l k ∧ Below B w0 wr) (fun _ wr => l.length - posOf R wr)
  case atStart => exact ⟨i, Nat.le_refl _, hi, rfl, HD.out, HB.out⟩
  case round =>
    clear c0 c1 fz
    obtain ⟨k, hk1, hk2, hdg, hdec, hbel⟩ := hrel
    have HDD : Hid (Dec wr R T cap l k) := hdec
    have HBB : Hid (Below B w0 wr) := hbel
    have HG : Hid (digs (l.drop k) = digs (l.drop i)) := hdg
    obtain ⟨c0, c1, fz⟩ := hdec.facts
    have hRl := hdec.lt
    clear hdec hbel hdg
    by_cases hlt : k < l.length
    · have ct := HDD.out.txt k hlt
      have HST : Hid (isD (l.getD k 0) = true → digs (l.drop (k + 1)) = digs (l.drop i)) := fun h => (digs_step hlt h).symm.trans HG.out
      have HEN : Hid (isD (l.getD k 0) = false → dEnd l i = k) := fun h => dEnd_of hk2 HG.out (.inr ⟨hlt, h⟩)
      generalize l.getD k 0 = c at ct HST HEN
      have hcl : (0 : Int) ≤ (c.toNat : Int) := by omega
      have hcu : (c.toNat : Int) ≤ 255 := by have := c.toNat_lt; omega
      by_cases h1 : (48 : Int) ≤ (c.toNat : Int)
      · by_cases h2 : (c.toNat : Int) ≤ 57
        · have HI : Hid (isD c = true) := by show _ = _; simp only [isD, decide_eq_true h1, decide_eq_true h2]; rfl
          go_wp2_with fail
          go_quiet (fail)
          go_wp2
          go_roundw
          case rel =>
            exact ⟨k + 1, by omega, by omega, HST.out HI.out, (HDD.out.kept (below_drewN _ _)).inc, below_set (below_dn HBB.out _) hR _ _⟩
          case measure =>
            rw [HDD.out.pos, ((HDD.out.kept (below_drewN _ _)).inc).pos]
            omega
        · have HI : Hid (isD c = false) := by show _ = _; simp only [isD, decide_eq_false h2]; simp
          have h2' : decide ((c.toNat : Int) ≤ 57) = false := decide_eq_false h2
          go_wp2_with fail
          go_quiet (fail)
          go_wp2
          go_ret
          refine ⟨ret_int (by rw [HEN.out HI.out]), ?_, ?_⟩
          · rw [HEN.out HI.out]; exact HDD.out.kept (below_drewN _ _)
          · exact below_dn HBB.out _
      · have HI : Hid (isD c = false) := by show _ = _; simp only [isD, decide_eq_false h1]; simp
        have h1' : decide ((48 : Int) ≤ (c.toNat : Int)) = false := decide_eq_false h1
        go_wp2_with fail
        go_quiet (fail)
        go_wp2
        go_ret
        refine ⟨ret_int (by rw [HEN.out HI.out]), ?_, ?_⟩
        · rw [HEN.out HI.out]; exact HDD.out.kept (below_drewN _ _)
        · exact below_dn HBB.out _
    · obtain rfl : k = l.length := by omega
      have HEN : Hid (dEnd l i = l.length) := dEnd_of (Nat.le_refl _) HG.out (.inl rfl)
      go_wp2_with fail
      go_quiet (fail)
      go_wp2
      go_ret
      refine ⟨ret_int (by rw [HEN.out]), ?_, ?_⟩
      · rw [HEN.out]; exact HDD.out.kept (below_drewN _ _)
      · exact below_dn HBB.out _
end Go.Proofs.Qxb6614489aFmt
