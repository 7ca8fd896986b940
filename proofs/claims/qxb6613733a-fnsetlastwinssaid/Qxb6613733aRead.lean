/-
  zzBytes_FnSetThenGet, zzBytes_FnSetLastWins: they return, they write nothing; where they answer true every string is short.
-/
import Derived.Test.Qxb6613733aRows
import Derived.WalkKit
import Derived.WalkSpells
import Derived.WalkLawsBesides
namespace Go.Proofs.Qxb6613733a
open Go.RowKit

/-- v is a slice of the strings ss: empty, or somewhere in memory. -/
def StrAt (w : World) (v : Value) (ss : List ByteArray) : Prop :=
  (∃ a c, v = .slice a 0 c ∧ ss = []) ∨ ∃ b off cap, v = .slice (some ⟨b, off, none⟩) ss.length cap ∧ ∀ i, i < ss.length → w.cell? ⟨b, off + i, none⟩ = some (.string (ss.getD i ByteArray.empty))

def Short (ss : List ByteArray) (k : Nat) : Prop := ∀ i, i < k → (ss.getD i ByteArray.empty).size ≤ 1048576

theorem Short.succ {ss : List ByteArray} {k : Nat} (h : Short ss k) (hk : (ss.getD k ByteArray.empty).size ≤ 1048576) : Short ss (k + 1) := by
  intro i hi
  by_cases e : i = k
  · subst e; exact hk
  · exact h i (by omega)
theorem Short.zero (ss : List ByteArray) : Short ss 0 := fun i hi => by omega


/-- A bool comes back, the world as it was; true says P. -/
structure Answers (P : Prop) (w : World) (e : Ending) (w' : World) : Prop where
  ex : ∃ b, e = .returned (.bool b) ∧ w' = w ∧ (b = true → P)
theorem Answers.weaken {P Q : Prop} {w w' : World} {e : Ending} (h : Answers P w e w') (hpq : P → Q) : Answers Q w e w' := by
  obtain ⟨b, h1, h2, h3⟩ := h.ex
  exact ⟨⟨b, h1, h2, fun h => hpq (h3 h)⟩⟩
theorem Answers.no (P : Prop) (w : World) : Answers P w (.returned (.bool false)) w := ⟨⟨false, rfl, rfl, fun h => by cases h⟩⟩
theorem Answers.yes {P : Prop} (h : P) (w : World) : Answers P w (.returned (.bool true)) w := ⟨⟨true, rfl, rfl, fun _ => h⟩⟩


set_option maxRecDepth 100000 in
set_option maxHeartbeats 1000000 in
theorem bytes5_ss (b1 o1 c1 : Nat) (ks : List ByteArray) (b2 o2 c2 : Nat) (vs : List ByteArray) (key val : ByteArray) (w : World) (hk : ∀ i, i < ks.length → w.cell? ⟨b1, o1 + i, none⟩ = some (.string (ks.getD i ByteArray.empty))) (hn1 : ks.length ≤ maxLen) (hl3 : ∀ i, (ks.getD i ByteArray.empty).size ≤ maxLen) (hv : ∀ i, i < vs.length → w.cell? ⟨b2, o2 + i, none⟩ = some (.string (vs.getD i ByteArray.empty))) (hn2 : vs.length ≤ maxLen) (hl4 : ∀ i, (vs.getD i ByteArray.empty).size ≤ maxLen) (lkey : key.size ≤ maxLen) (lval : val.size ≤ maxLen) :
    Calls Try.prog 5 #[.slice (some ⟨b1, o1, none⟩) ks.length c1, .slice (some ⟨b2, o2, none⟩) vs.length c2, .string key, .string val] w (Answers (Short ks ks.length ∧ Short vs vs.length ∧ key.size ≤ 1048576 ∧ val.size ≤ 1048576) w) := by
  unfold maxLen at hn1 hl3 hn2 hl4 lkey lval
  have HK : Hid _ := hk
  have H3 : Hid _ := hl3
  clear hk hl3
  have HV : Hid _ := hv
  have H4 : Hid _ := hl4
  clear hv hl4
  by_cases h1 : 1048576 < ks.length
  · go_enter Try.func5, Try.ntmps5
    go_wp2
    go_ret
    exact Answers.no _ _
  go_enter Try.func5, Try.ntmps5
  go_wp2
  go_loop [9, 10] (fun z i => ∃ (k : Nat) (zn : Int), k ≤ ks.length ∧ i = .int .i64 k ∧ z = .int .i64 zn ∧ 0 ≤ zn ∧ zn ≤ 1048576 ∧ Short ks k) (fun _ i => ks.length - (intOf i).toNat)
  case atStart => exact ⟨0, ks.length, Nat.zero_le _, rfl, rfl, by omega, by omega, Short.zero _⟩
  case round =>
    obtain ⟨k, zn, hk, rfl, rfl, hz0, hz1, hsh⟩ := hrel
    have HS : Hid (Short ks k) := hsh
    clear hsh
    by_cases hlt : k < ks.length
    · have hcx := HK.out k hlt
      have hsz := H3.out k
      have HP : Hid ((ks.getD k ByteArray.empty).size ≤ 1048576 → Short ks (k + 1)) := fun h => HS.out.succ h
      generalize ks.getD k ByteArray.empty = s at hcx hsz HP
      go_wp2
      · go_ret
        exact Answers.no _ _
      · go_ret
        exact Answers.no _ _
      · go_round
        case rel => exact ⟨k + 1, _, by omega, by go_num, rfl, by omega, by omega, HP.out (by omega)⟩
        case measure => simp [intOf]; omega
    · obtain rfl : k = ks.length := by omega
      by_cases h2 : 1048576 < vs.length
      · go_wp2
        go_ret
        exact Answers.no _ _
      go_wp2
      · go_ret
        exact Answers.no _ _
      go_loop [9, 11] (fun z i => ∃ (k : Nat) (zn : Int), k ≤ vs.length ∧ i = .int .i64 k ∧ z = .int .i64 zn ∧ 0 ≤ zn ∧ zn ≤ 1048576 ∧ Short vs k) (fun _ i => vs.length - (intOf i).toNat)
      case atStart => exact ⟨0, _, Nat.zero_le _, rfl, rfl, by omega, by omega, Short.zero _⟩
      case round =>
        obtain ⟨k, zn, hk, rfl, rfl, hz0, hz1, hsh⟩ := hrel
        have HT : Hid (Short vs k) := hsh
        clear hsh
        by_cases hlt : k < vs.length
        · have hcx := HV.out k hlt
          have hsz := H4.out k
          have HP : Hid ((vs.getD k ByteArray.empty).size ≤ 1048576 → Short vs (k + 1)) := fun h => HT.out.succ h
          generalize vs.getD k ByteArray.empty = s at hcx hsz HP
          go_wp2
          · go_ret
            exact Answers.no _ _
          · go_ret
            exact Answers.no _ _
          · go_round
            case rel => exact ⟨k + 1, _, by omega, by go_num, rfl, by omega, by omega, HP.out (by omega)⟩
            case measure => simp [intOf]; omega
        · obtain rfl : k = vs.length := by omega
          go_wp2
          all_goals go_ret
          all_goals first | exact Answers.no _ _ | exact Answers.yes ⟨HS.out, HT.out, by omega, by omega⟩ _

set_option maxRecDepth 100000 in
set_option maxHeartbeats 1000000 in
theorem bytes5_sn (b1 o1 c1 : Nat) (ks : List ByteArray) (a2 : Option Addr) (c2 : Nat) (key val : ByteArray) (w : World) (hk : ∀ i, i < ks.length → w.cell? ⟨b1, o1 + i, none⟩ = some (.string (ks.getD i ByteArray.empty))) (hn1 : ks.length ≤ maxLen) (hl3 : ∀ i, (ks.getD i ByteArray.empty).size ≤ maxLen) (lkey : key.size ≤ maxLen) (lval : val.size ≤ maxLen) :
    Calls Try.prog 5 #[.slice (some ⟨b1, o1, none⟩) ks.length c1, .slice a2 0 c2, .string key, .string val] w (Answers (Short ks ks.length ∧ key.size ≤ 1048576 ∧ val.size ≤ 1048576) w) := by
  unfold maxLen at hn1 hl3 lkey lval
  have HK : Hid _ := hk
  have H3 : Hid _ := hl3
  clear hk hl3
  by_cases h1 : 1048576 < ks.length
  · go_enter Try.func5, Try.ntmps5
    go_wp2
    go_ret
    exact Answers.no _ _
  go_enter Try.func5, Try.ntmps5
  go_wp2
  go_loop [9, 10] (fun z i => ∃ (k : Nat) (zn : Int), k ≤ ks.length ∧ i = .int .i64 k ∧ z = .int .i64 zn ∧ 0 ≤ zn ∧ zn ≤ 1048576 ∧ Short ks k) (fun _ i => ks.length - (intOf i).toNat)
  case atStart => exact ⟨0, ks.length, Nat.zero_le _, rfl, rfl, by omega, by omega, Short.zero _⟩
  case round =>
    obtain ⟨k, zn, hk, rfl, rfl, hz0, hz1, hsh⟩ := hrel
    have HS : Hid (Short ks k) := hsh
    clear hsh
    by_cases hlt : k < ks.length
    · have hcx := HK.out k hlt
      have hsz := H3.out k
      have HP : Hid ((ks.getD k ByteArray.empty).size ≤ 1048576 → Short ks (k + 1)) := fun h => HS.out.succ h
      generalize ks.getD k ByteArray.empty = s at hcx hsz HP
      go_wp2
      · go_ret
        exact Answers.no _ _
      · go_ret
        exact Answers.no _ _
      · go_round
        case rel => exact ⟨k + 1, _, by omega, by go_num, rfl, by omega, by omega, HP.out (by omega)⟩
        case measure => simp [intOf]; omega
    · obtain rfl : k = ks.length := by omega
      go_wp2
      refine wp_loop_rounds 1 ?_
      rw [rounds_succ]
      go_wp2
      all_goals go_ret
      all_goals first | exact Answers.no _ _ | exact Answers.yes ⟨HS.out, by omega, by omega⟩ _

set_option maxRecDepth 100000 in
set_option maxHeartbeats 1000000 in
theorem bytes5_ns (a1 : Option Addr) (c1 : Nat) (b2 o2 c2 : Nat) (vs : List ByteArray) (key val : ByteArray) (w : World) (hv : ∀ i, i < vs.length → w.cell? ⟨b2, o2 + i, none⟩ = some (.string (vs.getD i ByteArray.empty))) (hn2 : vs.length ≤ maxLen) (hl4 : ∀ i, (vs.getD i ByteArray.empty).size ≤ maxLen) (lkey : key.size ≤ maxLen) (lval : val.size ≤ maxLen) :
    Calls Try.prog 5 #[.slice a1 0 c1, .slice (some ⟨b2, o2, none⟩) vs.length c2, .string key, .string val] w (Answers (Short vs vs.length ∧ key.size ≤ 1048576 ∧ val.size ≤ 1048576) w) := by
  unfold maxLen at hn2 hl4 lkey lval
  have HV : Hid _ := hv
  have H4 : Hid _ := hl4
  clear hv hl4
  go_enter Try.func5, Try.ntmps5
  go_wp2
  refine wp_loop_rounds 1 ?_
  rw [rounds_succ]
  by_cases h2 : 1048576 < vs.length
  · go_wp2
    go_ret
    exact Answers.no _ _
  go_wp2
  go_loop [9, 11] (fun z i => ∃ (k : Nat) (zn : Int), k ≤ vs.length ∧ i = .int .i64 k ∧ z = .int .i64 zn ∧ 0 ≤ zn ∧ zn ≤ 1048576 ∧ Short vs k) (fun _ i => vs.length - (intOf i).toNat)
  case atStart => exact ⟨0, _, Nat.zero_le _, rfl, rfl, by omega, by omega, Short.zero _⟩
  case round =>
    obtain ⟨k, zn, hk, rfl, rfl, hz0, hz1, hsh⟩ := hrel
    have HT : Hid (Short vs k) := hsh
    clear hsh
    by_cases hlt : k < vs.length
    · have hcx := HV.out k hlt
      have hsz := H4.out k
      have HP : Hid ((vs.getD k ByteArray.empty).size ≤ 1048576 → Short vs (k + 1)) := fun h => HT.out.succ h
      generalize vs.getD k ByteArray.empty = s at hcx hsz HP
      go_wp2
      · go_ret
        exact Answers.no _ _
      · go_ret
        exact Answers.no _ _
      · go_round
        case rel => exact ⟨k + 1, _, by omega, by go_num, rfl, by omega, by omega, HP.out (by omega)⟩
        case measure => simp [intOf]; omega
    · obtain rfl : k = vs.length := by omega
      go_wp2
      all_goals go_ret
      all_goals first | exact Answers.no _ _ | exact Answers.yes ⟨HT.out, by omega, by omega⟩ _

set_option maxRecDepth 100000 in
set_option maxHeartbeats 1000000 in
theorem bytes5_nn (a1 : Option Addr) (c1 : Nat) (a2 : Option Addr) (c2 : Nat) (key val : ByteArray) (w : World) (lkey : key.size ≤ maxLen) (lval : val.size ≤ maxLen) :
    Calls Try.prog 5 #[.slice a1 0 c1, .slice a2 0 c2, .string key, .string val] w (Answers (key.size ≤ 1048576 ∧ val.size ≤ 1048576) w) := by
  unfold maxLen at lkey lval
  go_enter Try.func5, Try.ntmps5
  go_wp2
  refine wp_loop_rounds 1 ?_
  rw [rounds_succ]
  go_wp2
  refine wp_loop_rounds 1 ?_
  rw [rounds_succ]
  go_wp2
  all_goals go_ret
  all_goals first | exact Answers.no _ _ | exact Answers.yes ⟨by omega, by omega⟩ _

set_option maxRecDepth 100000 in
set_option maxHeartbeats 1000000 in
theorem bytes14_ss (b1 o1 c1 : Nat) (ks : List ByteArray) (b2 o2 c2 : Nat) (vs : List ByteArray) (key a b : ByteArray) (w : World) (hk : ∀ i, i < ks.length → w.cell? ⟨b1, o1 + i, none⟩ = some (.string (ks.getD i ByteArray.empty))) (hn1 : ks.length ≤ maxLen) (hl3 : ∀ i, (ks.getD i ByteArray.empty).size ≤ maxLen) (hv : ∀ i, i < vs.length → w.cell? ⟨b2, o2 + i, none⟩ = some (.string (vs.getD i ByteArray.empty))) (hn2 : vs.length ≤ maxLen) (hl4 : ∀ i, (vs.getD i ByteArray.empty).size ≤ maxLen) (lkey : key.size ≤ maxLen) (la : a.size ≤ maxLen) (lb : b.size ≤ maxLen) :
    Calls Try.prog 14 #[.slice (some ⟨b1, o1, none⟩) ks.length c1, .slice (some ⟨b2, o2, none⟩) vs.length c2, .string key, .string a, .string b] w (Answers (Short ks ks.length ∧ Short vs vs.length ∧ key.size ≤ 1048576 ∧ a.size ≤ 1048576 ∧ b.size ≤ 1048576) w) := by
  unfold maxLen at hn1 hl3 hn2 hl4 lkey la lb
  have HK : Hid _ := hk
  have H3 : Hid _ := hl3
  clear hk hl3
  have HV : Hid _ := hv
  have H4 : Hid _ := hl4
  clear hv hl4
  by_cases h1 : 1048576 < ks.length
  · go_enter Try.func14, Try.ntmps14
    go_wp2
    go_ret
    exact Answers.no _ _
  go_enter Try.func14, Try.ntmps14
  go_wp2
  go_loop [11, 12] (fun z i => ∃ (k : Nat) (zn : Int), k ≤ ks.length ∧ i = .int .i64 k ∧ z = .int .i64 zn ∧ 0 ≤ zn ∧ zn ≤ 1048576 ∧ Short ks k) (fun _ i => ks.length - (intOf i).toNat)
  case atStart => exact ⟨0, ks.length, Nat.zero_le _, rfl, rfl, by omega, by omega, Short.zero _⟩
  case round =>
    obtain ⟨k, zn, hk, rfl, rfl, hz0, hz1, hsh⟩ := hrel
    have HS : Hid (Short ks k) := hsh
    clear hsh
    by_cases hlt : k < ks.length
    · have hcx := HK.out k hlt
      have hsz := H3.out k
      have HP : Hid ((ks.getD k ByteArray.empty).size ≤ 1048576 → Short ks (k + 1)) := fun h => HS.out.succ h
      generalize ks.getD k ByteArray.empty = s at hcx hsz HP
      go_wp2
      · go_ret
        exact Answers.no _ _
      · go_ret
        exact Answers.no _ _
      · go_round
        case rel => exact ⟨k + 1, _, by omega, by go_num, rfl, by omega, by omega, HP.out (by omega)⟩
        case measure => simp [intOf]; omega
    · obtain rfl : k = ks.length := by omega
      by_cases h2 : 1048576 < vs.length
      · go_wp2
        go_ret
        exact Answers.no _ _
      go_wp2
      · go_ret
        exact Answers.no _ _
      go_loop [11, 13] (fun z i => ∃ (k : Nat) (zn : Int), k ≤ vs.length ∧ i = .int .i64 k ∧ z = .int .i64 zn ∧ 0 ≤ zn ∧ zn ≤ 1048576 ∧ Short vs k) (fun _ i => vs.length - (intOf i).toNat)
      case atStart => exact ⟨0, _, Nat.zero_le _, rfl, rfl, by omega, by omega, Short.zero _⟩
      case round =>
        obtain ⟨k, zn, hk, rfl, rfl, hz0, hz1, hsh⟩ := hrel
        have HT : Hid (Short vs k) := hsh
        clear hsh
        by_cases hlt : k < vs.length
        · have hcx := HV.out k hlt
          have hsz := H4.out k
          have HP : Hid ((vs.getD k ByteArray.empty).size ≤ 1048576 → Short vs (k + 1)) := fun h => HT.out.succ h
          generalize vs.getD k ByteArray.empty = s at hcx hsz HP
          go_wp2
          · go_ret
            exact Answers.no _ _
          · go_ret
            exact Answers.no _ _
          · go_round
            case rel => exact ⟨k + 1, _, by omega, by go_num, rfl, by omega, by omega, HP.out (by omega)⟩
            case measure => simp [intOf]; omega
        · obtain rfl : k = vs.length := by omega
          go_wp2
          all_goals go_ret
          all_goals first | exact Answers.no _ _ | exact Answers.yes ⟨HS.out, HT.out, by omega, by omega, by omega⟩ _

set_option maxRecDepth 100000 in
set_option maxHeartbeats 1000000 in
theorem bytes14_sn (b1 o1 c1 : Nat) (ks : List ByteArray) (a2 : Option Addr) (c2 : Nat) (key a b : ByteArray) (w : World) (hk : ∀ i, i < ks.length → w.cell? ⟨b1, o1 + i, none⟩ = some (.string (ks.getD i ByteArray.empty))) (hn1 : ks.length ≤ maxLen) (hl3 : ∀ i, (ks.getD i ByteArray.empty).size ≤ maxLen) (lkey : key.size ≤ maxLen) (la : a.size ≤ maxLen) (lb : b.size ≤ maxLen) :
    Calls Try.prog 14 #[.slice (some ⟨b1, o1, none⟩) ks.length c1, .slice a2 0 c2, .string key, .string a, .string b] w (Answers (Short ks ks.length ∧ key.size ≤ 1048576 ∧ a.size ≤ 1048576 ∧ b.size ≤ 1048576) w) := by
  unfold maxLen at hn1 hl3 lkey la lb
  have HK : Hid _ := hk
  have H3 : Hid _ := hl3
  clear hk hl3
  by_cases h1 : 1048576 < ks.length
  · go_enter Try.func14, Try.ntmps14
    go_wp2
    go_ret
    exact Answers.no _ _
  go_enter Try.func14, Try.ntmps14
  go_wp2
  go_loop [11, 12] (fun z i => ∃ (k : Nat) (zn : Int), k ≤ ks.length ∧ i = .int .i64 k ∧ z = .int .i64 zn ∧ 0 ≤ zn ∧ zn ≤ 1048576 ∧ Short ks k) (fun _ i => ks.length - (intOf i).toNat)
  case atStart => exact ⟨0, ks.length, Nat.zero_le _, rfl, rfl, by omega, by omega, Short.zero _⟩
  case round =>
    obtain ⟨k, zn, hk, rfl, rfl, hz0, hz1, hsh⟩ := hrel
    have HS : Hid (Short ks k) := hsh
    clear hsh
    by_cases hlt : k < ks.length
    · have hcx := HK.out k hlt
      have hsz := H3.out k
      have HP : Hid ((ks.getD k ByteArray.empty).size ≤ 1048576 → Short ks (k + 1)) := fun h => HS.out.succ h
      generalize ks.getD k ByteArray.empty = s at hcx hsz HP
      go_wp2
      · go_ret
        exact Answers.no _ _
      · go_ret
        exact Answers.no _ _
      · go_round
        case rel => exact ⟨k + 1, _, by omega, by go_num, rfl, by omega, by omega, HP.out (by omega)⟩
        case measure => simp [intOf]; omega
    · obtain rfl : k = ks.length := by omega
      go_wp2
      refine wp_loop_rounds 1 ?_
      rw [rounds_succ]
      go_wp2
      all_goals go_ret
      all_goals first | exact Answers.no _ _ | exact Answers.yes ⟨HS.out, by omega, by omega, by omega⟩ _

set_option maxRecDepth 100000 in
set_option maxHeartbeats 1000000 in
theorem bytes14_ns (a1 : Option Addr) (c1 : Nat) (b2 o2 c2 : Nat) (vs : List ByteArray) (key a b : ByteArray) (w : World) (hv : ∀ i, i < vs.length → w.cell? ⟨b2, o2 + i, none⟩ = some (.string (vs.getD i ByteArray.empty))) (hn2 : vs.length ≤ maxLen) (hl4 : ∀ i, (vs.getD i ByteArray.empty).size ≤ maxLen) (lkey : key.size ≤ maxLen) (la : a.size ≤ maxLen) (lb : b.size ≤ maxLen) :
    Calls Try.prog 14 #[.slice a1 0 c1, .slice (some ⟨b2, o2, none⟩) vs.length c2, .string key, .string a, .string b] w (Answers (Short vs vs.length ∧ key.size ≤ 1048576 ∧ a.size ≤ 1048576 ∧ b.size ≤ 1048576) w) := by
  unfold maxLen at hn2 hl4 lkey la lb
  have HV : Hid _ := hv
  have H4 : Hid _ := hl4
  clear hv hl4
  go_enter Try.func14, Try.ntmps14
  go_wp2
  refine wp_loop_rounds 1 ?_
  rw [rounds_succ]
  by_cases h2 : 1048576 < vs.length
  · go_wp2
    go_ret
    exact Answers.no _ _
  go_wp2
  go_loop [11, 13] (fun z i => ∃ (k : Nat) (zn : Int), k ≤ vs.length ∧ i = .int .i64 k ∧ z = .int .i64 zn ∧ 0 ≤ zn ∧ zn ≤ 1048576 ∧ Short vs k) (fun _ i => vs.length - (intOf i).toNat)
  case atStart => exact ⟨0, _, Nat.zero_le _, rfl, rfl, by omega, by omega, Short.zero _⟩
  case round =>
    obtain ⟨k, zn, hk, rfl, rfl, hz0, hz1, hsh⟩ := hrel
    have HT : Hid (Short vs k) := hsh
    clear hsh
    by_cases hlt : k < vs.length
    · have hcx := HV.out k hlt
      have hsz := H4.out k
      have HP : Hid ((vs.getD k ByteArray.empty).size ≤ 1048576 → Short vs (k + 1)) := fun h => HT.out.succ h
      generalize vs.getD k ByteArray.empty = s at hcx hsz HP
      go_wp2
      · go_ret
        exact Answers.no _ _
      · go_ret
        exact Answers.no _ _
      · go_round
        case rel => exact ⟨k + 1, _, by omega, by go_num, rfl, by omega, by omega, HP.out (by omega)⟩
        case measure => simp [intOf]; omega
    · obtain rfl : k = vs.length := by omega
      go_wp2
      all_goals go_ret
      all_goals first | exact Answers.no _ _ | exact Answers.yes ⟨HT.out, by omega, by omega, by omega⟩ _

set_option maxRecDepth 100000 in
set_option maxHeartbeats 1000000 in
theorem bytes14_nn (a1 : Option Addr) (c1 : Nat) (a2 : Option Addr) (c2 : Nat) (key a b : ByteArray) (w : World) (lkey : key.size ≤ maxLen) (la : a.size ≤ maxLen) (lb : b.size ≤ maxLen) :
    Calls Try.prog 14 #[.slice a1 0 c1, .slice a2 0 c2, .string key, .string a, .string b] w (Answers (key.size ≤ 1048576 ∧ a.size ≤ 1048576 ∧ b.size ≤ 1048576) w) := by
  unfold maxLen at lkey la lb
  go_enter Try.func14, Try.ntmps14
  go_wp2
  refine wp_loop_rounds 1 ?_
  rw [rounds_succ]
  go_wp2
  refine wp_loop_rounds 1 ?_
  rw [rounds_succ]
  go_wp2
  all_goals go_ret
  all_goals first | exact Answers.no _ _ | exact Answers.yes ⟨by omega, by omega, by omega⟩ _

/-- The four shapes in one: F5. -/
theorem bytes5 (v1 v2 : Value) (ks vs : List ByteArray) (key val : ByteArray) (w : World) (h1 : StrAt w v1 ks) (h2 : StrAt w v2 vs) (hn1 : ks.length ≤ maxLen) (hn2 : vs.length ≤ maxLen)
    (hl3 : ∀ i, (ks.getD i ByteArray.empty).size ≤ maxLen) (hl4 : ∀ i, (vs.getD i ByteArray.empty).size ≤ maxLen) (lkey : key.size ≤ maxLen) (lval : val.size ≤ maxLen) :
    Calls Try.prog 5 #[v1, v2, .string key, .string val] w (Answers (Short ks ks.length ∧ Short vs vs.length ∧ key.size ≤ 1048576 ∧ val.size ≤ 1048576) w) := by
  rcases h1 with ⟨a1, c1, rfl, rfl⟩ | ⟨b1, o1, c1, rfl, hk⟩ <;> rcases h2 with ⟨a2, c2, rfl, rfl⟩ | ⟨b2, o2, c2, rfl, hv⟩
  · exact (bytes5_nn a1 c1 a2 c2 key val w lkey lval).mono fun e w' h => h.weaken fun h => ⟨Short.zero _, Short.zero _, h⟩
  · exact (bytes5_ns a1 c1 b2 o2 c2 vs key val w hv hn2 hl4 lkey lval).mono fun e w' h => h.weaken fun h => ⟨Short.zero _, h⟩
  · exact (bytes5_sn b1 o1 c1 ks a2 c2 key val w hk hn1 hl3 lkey lval).mono fun e w' h => h.weaken fun h => ⟨h.1, Short.zero _, h.2⟩
  · exact bytes5_ss b1 o1 c1 ks b2 o2 c2 vs key val w hk hn1 hl3 hv hn2 hl4 lkey lval
theorem bytes14 (v1 v2 : Value) (ks vs : List ByteArray) (key a b : ByteArray) (w : World) (h1 : StrAt w v1 ks) (h2 : StrAt w v2 vs) (hn1 : ks.length ≤ maxLen) (hn2 : vs.length ≤ maxLen)
    (hl3 : ∀ i, (ks.getD i ByteArray.empty).size ≤ maxLen) (hl4 : ∀ i, (vs.getD i ByteArray.empty).size ≤ maxLen) (lkey : key.size ≤ maxLen) (la : a.size ≤ maxLen) (lb : b.size ≤ maxLen) :
    Calls Try.prog 14 #[v1, v2, .string key, .string a, .string b] w (Answers (Short ks ks.length ∧ Short vs vs.length ∧ key.size ≤ 1048576 ∧ a.size ≤ 1048576 ∧ b.size ≤ 1048576) w) := by
  rcases h1 with ⟨a1, c1, rfl, rfl⟩ | ⟨b1, o1, c1, rfl, hk⟩ <;> rcases h2 with ⟨a2, c2, rfl, rfl⟩ | ⟨b2, o2, c2, rfl, hv⟩
  · exact (bytes14_nn a1 c1 a2 c2 key a b w lkey la lb).mono fun e w' h => h.weaken fun h => ⟨Short.zero _, Short.zero _, h⟩
  · exact (bytes14_ns a1 c1 b2 o2 c2 vs key a b w hv hn2 hl4 lkey la lb).mono fun e w' h => h.weaken fun h => ⟨Short.zero _, h⟩
  · exact (bytes14_sn b1 o1 c1 ks a2 c2 key a b w hk hn1 hl3 lkey la lb).mono fun e w' h => h.weaken fun h => ⟨h.1, Short.zero _, h.2⟩
  · exact bytes14_ss b1 o1 c1 ks b2 o2 c2 vs key a b w hk hn1 hl3 hv hn2 hl4 lkey la lb
end Go.Proofs.Qxb6613733a
