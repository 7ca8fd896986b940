/-
  Slices of strings that came in, opened.
-/
import Derived.Test.Qxb6613733aCopy
import Derived.ProofKit
import Derived.OpenShut
import Derived.ShutString
import Derived.ChangeOld
import Derived.SliceStrings
namespace Go.Proofs.Qxb6613733a
open Go.ChangeShapes Go.WideShapes Go.ChangeAt Go.RowKit

/-- What the walk is told of a slice of strings that came in. -/
structure InStrs (w : World) (a : Option Addr) (len cap : Nat) (ss : List ByteArray) : Prop where
  size : ss.length = len
  max : len ≤ maxLen
  nil : a = none → len = 0 ∧ cap = 0
  small : ∀ i, (ss.getD i ByteArray.empty).size ≤ maxLen
  cells : 0 < len → ∃ b off, a = some ⟨b, off, none⟩ ∧ b < w.heap.size ∧ ∀ i, i < len → w.cell? ⟨b, off + i, none⟩ = some (.string (ss.getD i ByteArray.empty))

theorem inStrs {H : Type} {enc : TypeId × Value → H} {W : World} {base : Nat} {spare : Nat → Bool} {held : Bool} {a : Option Addr} {len cap : Nat} {d : DataW H} {p : List MemPlace}
    (h : DataW.Trod enc Try.prog W base spare held 22 (.slice a len cap) d p) : ∃ ss, InStrs W a len cap ss := by
  obtain ⟨fuel, hf⟩ := h
  rcases open_strings Try.underlying22 Try.underlying9 (by kernel_rfl) hf with ⟨hcs, _⟩ | ⟨x, l, c, ss, hcs, _, hl, hm, hz, _, hcell, hws⟩
  · simp [Value.cells] at hcs
    obtain ⟨rfl, rfl, rfl⟩ := hcs
    exact ⟨[], rfl, Nat.zero_le _, fun _ => ⟨rfl, rfl⟩, fun i => by simp [List.getD], fun h => by omega⟩
  · simp [Value.cells] at hcs
    obtain ⟨rfl, rfl, rfl⟩ := hcs
    have hle : len ≤ ss.length := by rw [hz]; split <;> omega
    have hgd : ∀ i, i < len → (ss.take len).getD i ByteArray.empty = ss.getD i ByteArray.empty := by
      intro i hi
      simp only [List.getD, List.getElem?_take, if_pos hi]
    refine ⟨ss.take len, by simp; omega, by omega, (fun h => by cases h), ?_, ?_⟩
    · intro i
      by_cases hi : i < len
      · rw [hgd i hi, List.getD, List.getElem?_eq_getElem (by omega)]
        exact hws _ (List.getElem_mem _)
      · rw [List.getD, List.getElem?_eq_none (by simp; omega)]; exact Nat.zero_le _
    · intro h0
      obtain ⟨b, off, spot⟩ := x
      have hc := hcell 0 (by omega)
      have hspot : spot = none := by simpa [Addr.add] using World.cell?_spot hc
      subst hspot
      refine ⟨b, off, rfl, ?_, fun i hi => ?_⟩
      · have := World.block_lt_of_cell? W _ hc
        simpa [Addr.add] using this
      · have := hcell i (by omega)
        rw [hgd i hi]
        have ha : (⟨b, off, none⟩ : Addr).add i = ⟨b, off + i, none⟩ := by unfold Addr.add; split <;> simp_all
        rw [← ha]; exact this

theorem InStrs.strAt {w : World} {a : Option Addr} {len cap : Nat} {ss : List ByteArray} (h : InStrs w a len cap ss) : StrAt w (.slice a len cap) ss := by
  by_cases h0 : len = 0
  · subst h0
    exact .inl ⟨a, cap, rfl, List.eq_nil_of_length_eq_zero h.size⟩
  · obtain ⟨b, off, rfl, _, hc⟩ := h.cells (by omega)
    refine .inr ⟨b, off, cap, by rw [h.size], fun i hi => hc i (by rw [← h.size]; exact hi)⟩

theorem own : ownKnob Try.prog.godebug = none := by kernel_rfl
theorem laidOut : laidOutB Try.prog = true := by kernel_rfl

theorem opt (a : Option Addr) : a = none ∨ ∃ x, a = some x := by
  cases a
  · exact .inl rfl
  · exact .inr ⟨_, rfl⟩
end Go.Proofs.Qxb6613733a
