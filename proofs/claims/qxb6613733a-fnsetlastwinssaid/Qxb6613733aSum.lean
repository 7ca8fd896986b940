/-
  zzAddStrings, zzFirst, zzSameStrings over rows that the call itself owns.
-/
import Derived.Test.Qxb6613733aRows
import Derived.WalkKit
import Derived.WalkSpells
import Derived.WalkLawsBesides
import Derived.BigQuiet
import Derived.Deep.QuietTactic
namespace Go.Proofs.Qxb6613733a
open Go.RowKit

/-- A row of the call's own that holds the strings ss (or the nil slice). -/
def Strs (w : World) (base : Nat) (v : Value) (ss : List ByteArray) : Prop := w.ownsRow base 9 1 v ss.length (ss.map Value.string)

theorem Strs.cases {w : World} {base : Nat} {v : Value} {ss : List ByteArray} (h : Strs w base v ss) :
    (v = .slice none 0 0 ∧ ss = []) ∨ ∃ g cap, v = .slice (some ⟨g, 0, none⟩) ss.length cap ∧ base ≤ g ∧ g < w.heap.size ∧ ∀ i, i < ss.length → w.cell? ⟨g, i, none⟩ = some (.string (ss.getD i ByteArray.empty)) := by
  obtain ⟨h1, h2⟩ := h
  have h3 : w.ownsRow base 9 1 v ss.length (ss.map Value.string) := ⟨h1, h2⟩
  rcases h2 with ⟨rfl, h0⟩ | ⟨g, cap, cur, rfl, hb, hg, hn, hm, hc, ht⟩
  · exact .inl ⟨rfl, List.eq_nil_of_length_eq_zero h0⟩
  · refine .inr ⟨g, cap, rfl, hb, (Array.getElem?_eq_some_iff.1 hg).1, fun i hi => ?_⟩
    rw [h3.cellAt i (by omega)]
    simp [hi]

/-- An int comes back, the world as it was. -/
structure AnInt (w : World) (e : Ending) (w' : World) : Prop where
  ex : ∃ n, e = .returned (.int .i64 n) ∧ w' = w
theorem AnInt.mk' (n : Int) (w : World) : AnInt w (.returned (.int .i64 n)) w := ⟨⟨n, rfl, rfl⟩⟩

set_option maxHeartbeats 400000 in
theorem addStrings_nil (t : Int) (w : World) : Calls Try.prog 6 #[.int .i64 t, .slice none 0 0] w (AnInt w) := by
  go_enter Try.func6, Try.ntmps6
  go_wp2
  refine wp_loop_rounds 1 ?_
  rw [rounds_succ]
  go_wp2
  go_ret
  exact AnInt.mk' _ _

set_option maxHeartbeats 400000 in
theorem addStrings_some (t : Int) (g cap : Nat) (ss : List ByteArray) (w : World) (hn : ss.length ≤ 1048576) (hc : ∀ i, i < ss.length → w.cell? ⟨g, i, none⟩ = some (.string (ss.getD i ByteArray.empty))) :
    Calls Try.prog 6 #[.int .i64 t, .slice (some ⟨g, 0, none⟩) ss.length cap] w (AnInt w) := by
  have HC : Hid _ := hc
  clear hc
  go_enter Try.func6, Try.ntmps6
  go_wp2
  go_loop [0, 5] (fun z i => ∃ (k : Nat) (zn : Int), k ≤ ss.length ∧ i = .int .i64 k ∧ z = .int .i64 zn) (fun _ i => ss.length - (intOf i).toNat)
  case atStart => exact ⟨0, _, Nat.zero_le _, rfl, rfl⟩
  case round =>
    obtain ⟨k, zn, hk, rfl, rfl⟩ := hrel
    by_cases hlt : k < ss.length
    · have hcx := HC.out k hlt
      generalize ss.getD k ByteArray.empty = s at hcx
      go_wp2
      · go_ret
        exact AnInt.mk' _ _
      · go_round
        case rel => exact ⟨k + 1, _, by omega, by go_num, rfl⟩
        case measure => simp [intOf]; omega
    · go_wp2
      go_ret
      exact AnInt.mk' _ _

theorem addStrings (t : Int) (base : Nat) (v : Value) (ss : List ByteArray) (w : World) (h : Strs w base v ss) (hn : ss.length ≤ 1048576) : Calls Try.prog 6 #[.int .i64 t, v] w (AnInt w) := by
  rcases h.cases with ⟨rfl, rfl⟩ | ⟨g, cap, rfl, _, _, hc⟩
  · exact addStrings_nil t w
  · exact addStrings_some t g cap ss w hn hc

/-- Two strings are the same, as the model compares them. -/
def sameS (a b : ByteArray) : Bool := a.toList == b.toList
theorem sameS_iff {a b : ByteArray} : sameS a b = true ↔ a = b := by
  unfold sameS
  rw [← beq_toListBytes]
  constructor
  · intro h
    obtain ⟨⟨x⟩⟩ := a
    obtain ⟨⟨y⟩⟩ := b
    have h' : ((⟨x⟩ : Array UInt8) == ⟨y⟩) = true := h
    simp at h'
    rw [h']
  · rintro rfl
    obtain ⟨x⟩ := a
    show (x == x) = true
    simp

/-- The first place of s in ss; ss.length if there is none. -/
def fi (ss : List ByteArray) (s : ByteArray) : Nat := ss.findIdx (fun t => sameS t s)
theorem fi_le (ss : List ByteArray) (s : ByteArray) : fi ss s ≤ ss.length := List.findIdx_le_length
theorem getD_lt {ss : List ByteArray} {k : Nat} (h : k < ss.length) : ss.getD k ByteArray.empty = ss[k] := by simp [List.getD, h]
theorem fi_hit {ss : List ByteArray} {s : ByteArray} {k : Nat} (h : k ≤ fi ss s) (hk : k < ss.length) (he : sameS (ss.getD k ByteArray.empty) s = true) : fi ss s = k := by
  rw [getD_lt hk] at he
  rcases Nat.lt_or_ge k (fi ss s) with h1 | h1
  · have := List.not_of_lt_findIdx (p := fun t => sameS t s) (xs := ss) (i := k) h1
    rw [he] at this; cases this
  · omega
theorem fi_miss {ss : List ByteArray} {s : ByteArray} {k : Nat} (h : k ≤ fi ss s) (hk : k < ss.length) (he : sameS (ss.getD k ByteArray.empty) s = false) : k + 1 ≤ fi ss s := by
  rw [getD_lt hk] at he
  rcases Nat.lt_or_ge k (fi ss s) with h1 | h1
  · exact h1
  · have e : fi ss s = k := by omega
    have := List.findIdx_getElem (p := fun t => sameS t s) (xs := ss) (w := by unfold fi at e; omega)
    unfold fi at e
    simp only [e] at this
    rw [he] at this; cases this

/-- What zzFirst answers. -/
def first (ss : List ByteArray) (s : ByteArray) : Int := if fi ss s < ss.length then (fi ss s : Int) else -1

set_option maxHeartbeats 400000 in
theorem first_nil (s : ByteArray) (w : World) : Calls Try.prog 9 #[.slice none 0 0, .string s] w fun e w' => e = .returned (.int .i64 (-1)) ∧ w' = w := by
  go_enter Try.func9, Try.ntmps9
  go_wp2
  refine wp_loop_rounds 1 ?_
  rw [rounds_succ]
  go_wp2
  go_ret
  exact ⟨rfl, rfl⟩

theorem ret_int {a b : Int} (h : a = b) : Ending.returned (.int .i64 a) = .returned (.int .i64 b) := by rw [h]

set_option maxHeartbeats 400000 in
theorem first_some (g cap : Nat) (ss : List ByteArray) (s : ByteArray) (w : World) (hn : ss.length ≤ 1048576) (hc : ∀ i, i < ss.length → w.cell? ⟨g, i, none⟩ = some (.string (ss.getD i ByteArray.empty))) :
    Calls Try.prog 9 #[.slice (some ⟨g, 0, none⟩) ss.length cap, .string s] w fun e w' => e = .returned (.int .i64 (first ss s)) ∧ w' = w := by
  have HC : Hid _ := hc
  clear hc
  go_enter Try.func9, Try.ntmps9
  go_wp2
  go_loop [5] (fun i => ∃ (k : Nat), k ≤ ss.length ∧ i = .int .i64 k ∧ k ≤ fi ss s) (fun i => ss.length - (intOf i).toNat)
  case atStart => exact ⟨0, Nat.zero_le _, rfl, Nat.zero_le _⟩
  case round =>
    obtain ⟨k, hk, rfl, hnot⟩ := hrel
    have HN : Hid (k ≤ fi ss s) := hnot
    clear hnot
    by_cases hlt : k < ss.length
    · have hcx := HC.out k hlt
      have HH : Hid (sameS (ss.getD k ByteArray.empty) s = true → fi ss s = k) := fi_hit HN.out hlt
      have HM : Hid (sameS (ss.getD k ByteArray.empty) s = false → k + 1 ≤ fi ss s) := fi_miss HN.out hlt
      generalize ss.getD k ByteArray.empty = x at hcx HH HM
      by_cases he : (x.toList == s.toList) = true
      · go_wp2
        go_ret
        exact ⟨ret_int (by unfold first; rw [HH.out he, if_pos hlt]), rfl⟩
      · have he' : (x.toList == s.toList) = false := by simpa using he
        clear he
        go_wp2
        go_round
        case rel => exact ⟨k + 1, by omega, by go_num, HM.out he'⟩
        case measure => simp [intOf]; omega
    · have e : k = ss.length := by omega
      have HE : Hid (first ss s = -1) := by show _ = _; unfold first; rw [if_neg (by have := HN.out; omega)]
      go_wp2
      go_ret
      exact ⟨ret_int HE.out.symm, rfl⟩

theorem zzFirst (base : Nat) (v : Value) (ss : List ByteArray) (s : ByteArray) (w : World) (h : Strs w base v ss) (hn : ss.length ≤ 1048576) : Calls Try.prog 9 #[v, .string s] w fun e w' => e = .returned (.int .i64 (first ss s)) ∧ w' = w := by
  rcases h.cases with ⟨rfl, rfl⟩ | ⟨g, cap, rfl, _, _, hc⟩
  · exact first_nil s w
  · exact first_some g cap ss s w hn hc

end Go.Proofs.Qxb6613733a
