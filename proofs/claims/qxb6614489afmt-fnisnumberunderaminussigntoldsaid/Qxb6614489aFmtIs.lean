/-
  isNumber, ZZisNumber, zzBytes, zzPlainDigits.
-/
import Derived.Test.Qxb6614489aFmtNumber
import Derived.Laws.AppendOwn
namespace Go.Proofs.Qxb6614489aFmt
open Go.RowKit

/-- What a call that answers b leaves. -/
structure BoolPost (b : Bool) (B : Nat) (w0 : World) (e : Ending) (w' : World) : Prop where
  ret : e = .returned (.bool b)
  below : Below B w0 w'

theorem ret_bool {a b : Bool} (h : a = b) : Ending.returned (.bool a) = .returned (.bool b) := by rw [h]

/-- The text of a string. -/
def txtOf (s : ByteArray) : List UInt8 := s.data.toList
theorem txtOf_length (s : ByteArray) : (txtOf s).length = s.size := by
  show s.data.toList.length = s.data.size
  exact Array.length_toList
theorem isNum_fail {l : List UInt8} (h : sSigned l = none) : isNum l = false := by
  unfold isNum
  rw [h]
  cases l.isEmpty <;> rfl
theorem isNum_at {l : List UInt8} {i : Nat} (hl : 0 < l.length) (hi : i ≤ l.length) (h : sSigned l = some (l.drop i)) : isNum l = decide (((i : Nat) : Int) = (l.length : Int)) := by
  have he : l.isEmpty = false := by cases l; simp at hl; rfl
  unfold isNum
  rw [h, he]
  by_cases hx : i = l.length
  · subst hx
    rw [List.drop_length]
    simp
  · rw [drop_cons (by omega)]
    rw [decide_eq_false (by omega)]
    rfl

/-- The world behind '&jsonDecoder{text: []byte(s)}'. -/
def start (w : World) (s : ByteArray) : World :=
  (w.drew.alloc (.cells (bytesRow s (grownCap w s.size 0 5)) 5 ((bytesRow s (grownCap w s.size 0 5)).size, (bytesRow s (grownCap w s.size 0 5)).size + 1))).alloc
    (.cells #[.slice (some ⟨w.heap.size, 0, none⟩) s.size (grownCap w s.size 0 5), .int .i64 0, .int .i64 0, .map none, .slice none 0 0, .slice none 0 0] 29)
theorem start_below {B : Nat} {w0 w : World} (s : ByteArray) (h : Below B w0 w) (hB0 : B ≤ w0.heap.size) : Below B w0 (start w s) := by
  have := h.size
  exact ((below_dn h 1).alloc (by show B ≤ w.heap.size; omega) _).alloc (by simp; omega) _
theorem start_dec (w : World) (s : ByteArray) : Dec (start w s) (w.heap.size + 1) w.heap.size (grownCap w s.size 0 5) (txtOf s) 0 := by
  refine ⟨?_, fun k hk => ?_, by omega⟩
  · rw [txtOf_length]
    show ((w.heap.push _).push _)[w.heap.size + 1]? = _
    rw [Array.getElem?_push]
    simp
  · have hk' : k < s.data.size := by rw [txtOf_length] at hk; exact hk
    have hb : (start w s).heap[w.heap.size]? = some (.cells (bytesRow s (grownCap w s.size 0 5)) 5 ((bytesRow s (grownCap w s.size 0 5)).size, (bytesRow s (grownCap w s.size 0 5)).size + 1)) := by
      show ((w.heap.push _).push _)[w.heap.size]? = _
      rw [Array.getElem?_push, if_neg (by simp), Array.getElem?_push]
      simp
    unfold World.cell?
    simp only [hb]
    unfold bytesRow txtOf
    rw [Array.getElem?_append_left (by simpa using hk')]
    simp only [Array.getElem?_map, List.getD, Array.getElem?_toList, Array.getElem?_eq_getElem hk', Option.map_some, Option.getD_some]
    rfl

set_option maxRecDepth 100000 in
set_option maxHeartbeats 1000000 in
theorem isNumber (s : ByteArray) (hs : s.size ≤ 2097152) (B : Nat) (w0 w : World) (hB : Below B w0 w) (hB0 : B ≤ w0.heap.size) :
    Calls Tryf.prog 7 #[.string s] w (BoolPost (isNum (txtOf s)) B w0) := by
  have HS : Hid (Below B w0 (start w s)) := start_below s hB hB0
  have HD : Hid (Dec (start w s) (w.heap.size + 1) w.heap.size (grownCap w s.size 0 5) (txtOf s) 0) := start_dec w s
  have hRB : B ≤ w.heap.size + 1 := by have := hB.size; omega
  have HB0 : Hid (B ≤ w0.heap.size) := hB0
  have hcap : Hid (s.size ≤ grownCap w s.size 0 5) := grownCap_ge _ _ _ _
  have cv := run_bytes_of_string (P := Tryf.prog) w 9 24 5 s Tryf.underlying9 Tryf.underlying24 Tryf.underlying5
  clear hB hB0
  by_cases hz : s.size = 0
  · have he : s.toList.isEmpty = true := by rw [ByteArray.toList_eq, List.isEmpty_iff]; exact List.length_eq_zero_iff.1 (by rw [Array.length_toList]; exact hz)
    have HN : Hid (isNum (txtOf s) = false) := by
      have : txtOf s = [] := List.length_eq_zero_iff.1 (by rw [txtOf_length]; exact hz)
      show _ = _
      rw [this]; rfl
    clear hz
    go_enter Tryf.func7, Tryf.ntmps7
    go_wp2
    go_ret
    exact ⟨ret_bool HN.out.symm, HS.out⟩
  · have he : s.toList.isEmpty = false := by
      rw [ByteArray.toList_eq]
      cases h : s.data.toList with
      | nil => exact absurd (by have := congrArg List.length h; rw [Array.length_toList] at this; exact this) hz
      | cons _ _ => rfl
    have hpos : Hid (0 < (txtOf s).length) := by show _ < _; rw [txtOf_length]; omega
    clear hz
    go_enter Tryf.func7, Tryf.ntmps7
    go_wp2_with fail
    refine Calls.mono (number (w.heap.size + 1) w.heap.size (grownCap w s.size 0 5) (txtOf s) B w0 (start w s) HD.out hpos.out (by rw [txtOf_length]; exact hs) (by rw [txtOf_length]; exact hcap.out) HS.out HB0.out hRB) ?_
    rintro e w1 ⟨hbel, hex⟩
    have HB1 : Hid (Below B w0 w1) := hbel
    clear hbel cv
    rcases hex with ⟨hf, pp, hp⟩ | ⟨i, v, hi, hsv, hdec, hp⟩
    · subst hp
      have HF : Hid (isNum (txtOf s) = false) := isNum_fail hf
      clear hf
      go_wp2
      go_ret
      exact ⟨ret_bool HF.out.symm, HB1.out⟩
    · subst hp
      have HF : Hid (isNum (txtOf s) = decide (((i : Nat) : Int) = ((txtOf s).length : Int))) := isNum_at hpos.out hi hsv
      obtain ⟨c0, c1, fz⟩ := hdec.facts
      clear hsv hdec
      rw [txtOf_length] at HF
      go_wp2
      go_ret
      refine ⟨ret_bool ?_, HB1.out⟩
      rw [HF.out, Bool.beq_eq_decide_eq]

set_option maxRecDepth 100000 in
theorem zzIsNumber (s : ByteArray) (hs : s.size ≤ 2097152) (B : Nat) (w0 w : World) (hB : Below B w0 w) (hB0 : B ≤ w0.heap.size) :
    Calls Tryf.prog 5 #[.string s] w (BoolPost (isNum (txtOf s)) B w0) := by
  have HC : Hid (Calls Tryf.prog 7 #[.string s] w (BoolPost (isNum (txtOf s)) B w0)) := isNumber s hs B w0 w hB hB0
  clear hB hB0
  go_enter Tryf.func5, Tryf.ntmps5
  go_wp2_with fail
  refine Calls.mono HC.out ?_
  rintro e w1 ⟨hr, hbel⟩
  subst hr
  have HB1 : Hid (Below B w0 w1) := hbel
  clear hbel HC
  go_wp2
  go_ret
  exact ⟨rfl, HB1.out⟩

set_option maxRecDepth 100000 in
theorem zzBytes (s : ByteArray) (w : World) : Calls Tryf.prog 4 #[.string s] w fun e w' => e = .returned (.bool (decide (s.size ≤ 1048576))) ∧ w' = w := by
  by_cases h : s.size ≤ 1048576
  · rw [decide_eq_true h]
    go_enter Tryf.func4, Tryf.ntmps4
    go_wp2
    go_ret
    exact ⟨rfl, rfl⟩
  · rw [decide_eq_false h]
    go_enter Tryf.func4, Tryf.ntmps4
    go_wp2
    go_ret
    exact ⟨rfl, rfl⟩

/-- Decimal digits alone, with no nought ahead. -/
structure PlainPost (s : ByteArray) (w : World) (e : Ending) (w' : World) : Prop where
  ex : ∃ b, e = .returned (.bool b) ∧ (b = true → isNum (txtOf s) = true ∧ isNum (45 :: txtOf s) = true) ∧ w' = w

theorem plain_no {s : ByteArray} {w : World} : PlainPost s w (.returned (.bool false)) w := ⟨false, rfl, fun h => (by cases h), rfl⟩
/-- The bytes before k are digits. -/
structure Dg (s : ByteArray) (k : Nat) : Prop where
  all : ∀ j, j < k → ∀ h : j < s.size, isD s[j] = true
theorem Dg.step {s : ByteArray} {k : Nat} (h : Dg s k) (hk : k < s.size) (hd : isD s[k] = true) : Dg s (k + 1) := ⟨fun j hj hs => by
  rcases Nat.lt_or_ge j k with h1 | h1
  · exact h.all j h1 hs
  · obtain rfl : j = k := by omega
    exact hd⟩
theorem Dg.yes {s : ByteArray} {w : World} (h : Dg s s.size) (hp : 0 < s.size) (h0 : s[0].toNat = 48 → s.size = 1) : PlainPost s w (.returned (.bool true)) w := by
  refine ⟨true, rfl, fun _ => ?_, rfl⟩
  have hall : ∀ x ∈ txtOf s, isD x = true := by
    intro x hx
    obtain ⟨j, hj, rfl⟩ := List.getElem_of_mem hx
    have hj' : j < s.size := by rw [txtOf_length] at hj; exact hj
    exact h.all j hj' hj'
  have hl := txtOf_length s
  have hz : (txtOf s)[0]? = some s[0] := by
    rw [List.getElem?_eq_getElem (by rw [hl]; exact hp)]
    rfl
  generalize txtOf s = l at hall hl hz
  cases l with
  | nil => simp at hl; omega
  | cons c t =>
    have hc : c = s[0] := by simpa using hz
    have ht : c.toNat = 48 → t = [] := fun h4 => by
      have := h0 (by rw [← hc]; exact h4)
      rw [this] at hl
      exact List.length_eq_zero_iff.1 (by simpa using hl)
    have := plain_num hall ht
    refine ⟨this.1, ?_⟩
    rw [isNum_minus, this.1]
    simp [this.2]

set_option maxRecDepth 100000 in
set_option maxHeartbeats 1000000 in
theorem plainDigits (s : ByteArray) (hs : s.size ≤ 1048576) (w : World) : Calls Tryf.prog 6 #[.string s] w (PlainPost s w) := by
  by_cases hz : (s.size : Int) = 0
  · go_enter Tryf.func6, Tryf.ntmps6
    go_wp2
    go_ret
    exact plain_no
  · have hp : 0 < s.size := by omega
    by_cases h8 : (s[0].toNat : Int) = 48 ∧ 1 < (s.size : Int)
    · obtain ⟨h81, h82⟩ := h8
      go_enter Tryf.func6, Tryf.ntmps6
      go_wp2
      go_ret
      exact plain_no
    · have H0 : Hid (s[0].toNat = 48 → s.size = 1) := fun h => by omega
      go_enter Tryf.func6, Tryf.ntmps6
      go_wp2
      · go_loop [3] (fun i => ∃ k : Nat, k ≤ s.size ∧ i = .int .i64 k ∧ Dg s k) (fun i => s.size - (intOf i).toNat)
        case atStart => exact ⟨0, by omega, rfl, ⟨fun j hj => absurd hj (by omega)⟩⟩
        case round =>
          obtain ⟨k, hk, rfl, hdg⟩ := hrel
          have HG : Hid (Dg s k) := hdg
          clear hdg
          by_cases hlt : k < s.size
          · have HST : Hid (isD s[k] = true → Dg s (k + 1)) := fun h => HG.out.step hlt h
            by_cases h1 : (s[k].toNat : Int) < 48
            · go_wp2
              go_ret
              exact plain_no
            · by_cases h2 : (57 : Int) < (s[k].toNat : Int)
              · go_wp2
                go_ret
                exact plain_no
              · have HI : Hid (isD s[k] = true) := by show _ = _; simp only [isD, decide_eq_true (show (48 : Int) ≤ (s[k].toNat : Int) by omega), decide_eq_true (show (s[k].toNat : Int) ≤ 57 by omega)]; rfl
                go_wp2
                go_round
                case rel => exact ⟨k + 1, by omega, by go_num, HST.out HI.out⟩
                case measure => simp [intOf]; omega
          · obtain rfl : k = s.size := by omega
            go_wp2
            go_ret
            exact HG.out.yes hp H0.out
      · go_loop [3] (fun i => ∃ k : Nat, k ≤ s.size ∧ i = .int .i64 k ∧ Dg s k) (fun i => s.size - (intOf i).toNat)
        case atStart => exact ⟨0, by omega, rfl, ⟨fun j hj => absurd hj (by omega)⟩⟩
        case round =>
          obtain ⟨k, hk, rfl, hdg⟩ := hrel
          have HG : Hid (Dg s k) := hdg
          clear hdg
          by_cases hlt : k < s.size
          · have HST : Hid (isD s[k] = true → Dg s (k + 1)) := fun h => HG.out.step hlt h
            by_cases h1 : (s[k].toNat : Int) < 48
            · go_wp2
              go_ret
              exact plain_no
            · by_cases h2 : (57 : Int) < (s[k].toNat : Int)
              · go_wp2
                go_ret
                exact plain_no
              · have HI : Hid (isD s[k] = true) := by show _ = _; simp only [isD, decide_eq_true (show (48 : Int) ≤ (s[k].toNat : Int) by omega), decide_eq_true (show (s[k].toNat : Int) ≤ 57 by omega)]; rfl
                go_wp2
                go_round
                case rel => exact ⟨k + 1, by omega, by go_num, HST.out HI.out⟩
                case measure => simp [intOf]; omega
          · obtain rfl : k = s.size := by omega
            go_wp2
            go_ret
            exact HG.out.yes hp H0.out
end Go.Proofs.Qxb6614489aFmt
