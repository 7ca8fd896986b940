/-
  ZZkeys, ZZvals, ZZtags: one string a member, in a new row.
-/
import Derived.Test.Qxb6613733aSet
namespace Go.Proofs.Qxb6613733a
open Go.RowKit

theorem make22 (n : Nat) (hn : n ≤ 65536) (w : World) : (Instr.makeSlice 22 (.int .i64 (n : Int)) (.int .i64 (n : Int))).run Try.prog w = .ok (.slice (some ⟨w.heap.size, 0, none⟩) n n) (w.alloc (.cells (madeCells #[.string ⟨#[]⟩] n) 9)) := by
  have h := run_make (P := Try.prog) w 22 9 Try.t9 _ Try.underlying22 info9 rfl .i64 .i64 (n : Int) (n : Int) (by omega) (by omega) (by show (16 : Int) * _ ≤ _; omega) (by omega)
  simp only [Int.toNat_natCast] at h
  have e : n * Try.t9.size = n := Nat.mul_one n
  rw [e] at h
  exact h

/-- A row of n strings of the call's own at block G, of which the first k are as f says. -/
structure Fill (w : World) (base G n k : Nat) (f : Nat → ByteArray) : Prop where
  ex : ∃ xs : List Value, w.ownsRow base 9 1 (.slice (some ⟨G, 0, none⟩) n n) n xs ∧ ∀ i, i < k → xs[i]? = some (.string (f i))

theorem Fill.start (w : World) (n base : Nat) (f : Nat → ByteArray) (hn : n ≤ 65536) (hb : base ≤ w.heap.size) : Fill (w.alloc (.cells (madeCells #[.string ⟨#[]⟩] n) 9)) base w.heap.size n 0 f :=
  ⟨⟨_, World.ownsRow_lit w _ n hb (by unfold maxLen; omega) (by rw [size_madeCells, Nat.mul_one]), fun i hi => by omega⟩⟩
theorem Fill.cell {w : World} {base G n k : Nat} {f : Nat → ByteArray} (h : Fill w base G n k f) (j : Nat) (hj : j < n) : (∃ y, w.cell? ⟨G, j, none⟩ = some y) ∧ w.frozen? ⟨G, j, none⟩ = false := by
  obtain ⟨xs, ho, _⟩ := h.ex
  refine ⟨?_, ho.frozenAt j⟩
  rw [ho.cellAt j (by omega)]
  have : j < xs.length := by rw [ho.1]; omega
  exact ⟨xs[j], by simp [this]⟩
theorem Fill.step {w : World} {base G n k : Nat} {f : Nat → ByteArray} (h : Fill w base G n k f) (hk : k < n) : Fill (w.setCell ⟨G, k, none⟩ (.string (f k))) base G n (k + 1) f := by
  obtain ⟨xs, ho, hx⟩ := h.ex
  refine ⟨⟨_, (ho.stored k (.string (f k))).1, fun i hi => ?_⟩⟩
  have hl : k < xs.length := by rw [ho.1]; omega
  by_cases e : i = k
  · subst e; simp [hl]
  · rw [List.getElem?_set_ne (Ne.symm e)]; exact hx i (by omega)
theorem Fill.kept {w w' : World} {base G n k : Nat} {f : Nat → ByteArray} (h : Fill w base G n k f) (hb : Below w.heap.size w w') : Fill w' base G n k f := by
  obtain ⟨xs, ho, hx⟩ := h.ex
  refine ⟨⟨xs, ho.kept (w' := w') (row := none) ⟨hb.os, hb.tape, hb.output, hb.size, fun k hk _ => hb.block k hk⟩ (by simp [Value.ownBlock]), hx⟩⟩
theorem Fill.full {w : World} {base G n : Nat} {f : Nat → ByteArray} {ss : List ByteArray} (h : Fill w base G n n f) (hl : ss.length = n) (hf : ∀ i, i < n → f i = ss.getD i ByteArray.empty) : Strs w base (.slice (some ⟨G, 0, none⟩) n n) ss := by
  obtain ⟨xs, ho, hx⟩ := h.ex
  have : xs = ss.map Value.string := by
    apply List.ext_getElem?
    intro i
    by_cases hi : i < n
    · rw [hx i hi, hf i hi]
      have : i < ss.length := by omega
      simp [this]
    · have h1 : xs.length ≤ i := by rw [ho.1]; omega
      rw [List.getElem?_eq_none h1, List.getElem?_eq_none (by simp; omega)]
  unfold Strs
  rw [← this, hl]
  exact ho

def emptyAt (_ : Nat) : ByteArray := ByteArray.empty

theorem as9b (v : Value) (w : World) : (Instr.typeAssert (.iface 9 v) 35 9 true).run Try.prog w = .ok (.tuple #[v, .bool true]) w := by kernel_rfl
attribute [local go_sem] as9b

/-- A new row of the strings ss comes back; what was there is as it was. -/
structure NewStrs (ss : List ByteArray) (w : World) (e : Ending) (w' : World) : Prop where
  ex : e = .returned (.slice (some ⟨w.heap.size, 0, none⟩) ss.length ss.length) ∧ Strs w' w.heap.size (.slice (some ⟨w.heap.size, 0, none⟩) ss.length ss.length) ss ∧ Below w.heap.size w w'

set_option maxHeartbeats 1000000 in
theorem zzkeys (base : Nat) (v : Value) (ps : List KV) (w : World) (hm : Mems w base v ps) (hn : ps.length ≤ 65536) :
    Calls Try.prog 11 #[v] w (NewStrs (ps.map Prod.fst) w) := by
  obtain ⟨g, cap, rfl, hbg, hg, hc, hf⟩ := hm.cases
  have HC : Hid _ := hc
  clear hc hf hm
  have hmk := make22 ps.length hn
  have hne : g ≠ w.heap.size := by omega
  go_enter Try.func11, Try.ntmps11
  go_wp2
  go_loopw [10] (fun i wr => ∃ k : Nat, k ≤ ps.length ∧ i = .int .i64 k ∧ Fill wr w.heap.size w.heap.size ps.length k (keyAt ps) ∧ Below w.heap.size w wr) (fun i _ => ps.length - (intOf i).toNat)
  case atStart => exact ⟨0, Nat.zero_le _, rfl, Fill.start w _ _ _ hn (Nat.le_refl _), (Below.refl _ _).alloc (Nat.le_refl _) _⟩
  case round =>
    obtain ⟨k, hk, rfl, hfl, hb⟩ := hrel
    have HF : Hid (Fill wr w.heap.size w.heap.size ps.length k (keyAt ps)) := hfl
    have HB : Hid (Below w.heap.size w wr) := hb
    clear hfl
    by_cases hlt : k < ps.length
    · obtain ⟨c1, c2, c3⟩ := HC.out k hlt
      rw [← hb.cell (p := ⟨g, k * 3, none⟩) hg] at c1
      rw [← hb.cell (p := ⟨g, k * 3 + 1, none⟩) hg] at c2
      rw [← hb.cell (p := ⟨g, k * 3 + 2, none⟩) hg] at c3
      have d1 : wr.cell? ⟨g, k * 3, none⟩ = some (.string (keyAt ps k)) := c1
      have d2 : wr.cell? ⟨g, k * 3 + 1, none⟩ = some (.iface 9 (.string (valAt ps k))) := c2
      have d3 : wr.cell? ⟨g, k * 3 + 2, none⟩ = some (.string (emptyAt k)) := c3
      clear c1 c2 c3
      obtain ⟨⟨y, hy⟩, hfz⟩ := HF.out.cell k hlt
      have HS : Hid (Fill (wr.setCell ⟨w.heap.size, k, none⟩ (.string ((keyAt ps) k))) w.heap.size w.heap.size ps.length (k + 1) (keyAt ps)) := HF.out.step hlt
      clear hb
      go_wp2
      go_roundw
      case rel => exact ⟨k + 1, by omega, by go_num, HS.out, HB.out.setCell (Nat.le_refl _) _⟩
      case measure => simp [intOf]; omega
    · obtain rfl : k = ps.length := by omega
      clear hb
      go_wp2
      go_ret
      have hs := HF.out.full (ss := ps.map Prod.fst) (by simp) (fun i _ => (getD_map1 ps i).symm)
      refine ⟨⟨by simp, by simpa using hs, HB.out⟩⟩

set_option maxHeartbeats 1000000 in
theorem zzvals (base : Nat) (v : Value) (ps : List KV) (w : World) (hm : Mems w base v ps) (hn : ps.length ≤ 65536) :
    Calls Try.prog 12 #[v] w (NewStrs (ps.map Prod.snd) w) := by
  obtain ⟨g, cap, rfl, hbg, hg, hc, hf⟩ := hm.cases
  have HC : Hid _ := hc
  clear hc hf hm
  have hmk := make22 ps.length hn
  have hne : g ≠ w.heap.size := by omega
  go_enter Try.func12, Try.ntmps12
  go_wp2
  go_loopw [12] (fun i wr => ∃ k : Nat, k ≤ ps.length ∧ i = .int .i64 k ∧ Fill wr w.heap.size w.heap.size ps.length k (valAt ps) ∧ Below w.heap.size w wr) (fun i _ => ps.length - (intOf i).toNat)
  case atStart => exact ⟨0, Nat.zero_le _, rfl, Fill.start w _ _ _ hn (Nat.le_refl _), (Below.refl _ _).alloc (Nat.le_refl _) _⟩
  case round =>
    obtain ⟨k, hk, rfl, hfl, hb⟩ := hrel
    have HF : Hid (Fill wr w.heap.size w.heap.size ps.length k (valAt ps)) := hfl
    have HB : Hid (Below w.heap.size w wr) := hb
    clear hfl
    by_cases hlt : k < ps.length
    · obtain ⟨c1, c2, c3⟩ := HC.out k hlt
      rw [← hb.cell (p := ⟨g, k * 3, none⟩) hg] at c1
      rw [← hb.cell (p := ⟨g, k * 3 + 1, none⟩) hg] at c2
      rw [← hb.cell (p := ⟨g, k * 3 + 2, none⟩) hg] at c3
      have d1 : wr.cell? ⟨g, k * 3, none⟩ = some (.string (keyAt ps k)) := c1
      have d2 : wr.cell? ⟨g, k * 3 + 1, none⟩ = some (.iface 9 (.string (valAt ps k))) := c2
      have d3 : wr.cell? ⟨g, k * 3 + 2, none⟩ = some (.string (emptyAt k)) := c3
      clear c1 c2 c3
      obtain ⟨⟨y, hy⟩, hfz⟩ := HF.out.cell k hlt
      have HS : Hid (Fill (wr.setCell ⟨w.heap.size, k, none⟩ (.string ((valAt ps) k))) w.heap.size w.heap.size ps.length (k + 1) (valAt ps)) := HF.out.step hlt
      clear hb
      go_wp2
      go_roundw
      case rel => exact ⟨k + 1, by omega, by go_num, HS.out, HB.out.setCell (Nat.le_refl _) _⟩
      case measure => simp [intOf]; omega
    · obtain rfl : k = ps.length := by omega
      clear hb
      go_wp2
      go_ret
      have hs := HF.out.full (ss := ps.map Prod.snd) (by simp) (fun i _ => (getD_map2 ps i).symm)
      refine ⟨⟨by simp, by simpa using hs, HB.out⟩⟩

set_option maxHeartbeats 1000000 in
theorem zztags (base : Nat) (v : Value) (ps : List KV) (w : World) (hm : Mems w base v ps) (hn : ps.length ≤ 65536) :
    Calls Try.prog 13 #[v] w (NewStrs (ps.map (fun _ => ByteArray.empty)) w) := by
  obtain ⟨g, cap, rfl, hbg, hg, hc, hf⟩ := hm.cases
  have HC : Hid _ := hc
  clear hc hf hm
  have hmk := make22 ps.length hn
  have hne : g ≠ w.heap.size := by omega
  go_enter Try.func13, Try.ntmps13
  go_wp2
  go_loopw [10] (fun i wr => ∃ k : Nat, k ≤ ps.length ∧ i = .int .i64 k ∧ Fill wr w.heap.size w.heap.size ps.length k emptyAt ∧ Below w.heap.size w wr) (fun i _ => ps.length - (intOf i).toNat)
  case atStart => exact ⟨0, Nat.zero_le _, rfl, Fill.start w _ _ _ hn (Nat.le_refl _), (Below.refl _ _).alloc (Nat.le_refl _) _⟩
  case round =>
    obtain ⟨k, hk, rfl, hfl, hb⟩ := hrel
    have HF : Hid (Fill wr w.heap.size w.heap.size ps.length k emptyAt) := hfl
    have HB : Hid (Below w.heap.size w wr) := hb
    clear hfl
    by_cases hlt : k < ps.length
    · obtain ⟨c1, c2, c3⟩ := HC.out k hlt
      rw [← hb.cell (p := ⟨g, k * 3, none⟩) hg] at c1
      rw [← hb.cell (p := ⟨g, k * 3 + 1, none⟩) hg] at c2
      rw [← hb.cell (p := ⟨g, k * 3 + 2, none⟩) hg] at c3
      have d1 : wr.cell? ⟨g, k * 3, none⟩ = some (.string (keyAt ps k)) := c1
      have d2 : wr.cell? ⟨g, k * 3 + 1, none⟩ = some (.iface 9 (.string (valAt ps k))) := c2
      have d3 : wr.cell? ⟨g, k * 3 + 2, none⟩ = some (.string (emptyAt k)) := c3
      clear c1 c2 c3
      obtain ⟨⟨y, hy⟩, hfz⟩ := HF.out.cell k hlt
      have HS : Hid (Fill (wr.setCell ⟨w.heap.size, k, none⟩ (.string (emptyAt k))) w.heap.size w.heap.size ps.length (k + 1) emptyAt) := HF.out.step hlt
      clear hb
      go_wp2
      go_roundw
      case rel => exact ⟨k + 1, by omega, by go_num, HS.out, HB.out.setCell (Nat.le_refl _) _⟩
      case measure => simp [intOf]; omega
    · obtain rfl : k = ps.length := by omega
      clear hb
      go_wp2
      go_ret
      have hs := HF.out.full (ss := ps.map (fun _ => ByteArray.empty)) (by simp) (fun i _ => by unfold emptyAt; simp only [List.getD, List.getElem?_map]; cases ps[i]? <;> rfl)
      refine ⟨⟨by simp, by simpa using hs, HB.out⟩⟩
end Go.Proofs.Qxb6613733a
