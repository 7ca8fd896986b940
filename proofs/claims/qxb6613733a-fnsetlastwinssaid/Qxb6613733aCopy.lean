/-
  A copy of a slice of strings into a row that 'make' has just laid; Strs over worlds; zzSameStrings at two rows that hold the same.
-/
import Derived.Test.Qxb6613733aCols
import Derived.Test.Qxb6613733aRead
import Derived.Laws.CopyOwn
namespace Go.Proofs.Qxb6613733a
open Go.RowKit

theorem one_strs (ss : List ByteArray) : ∀ u ∈ ss.map Value.string, u.oneCell' = true := by
  intro u hu
  obtain ⟨s, _, rfl⟩ := List.mem_map.1 hu
  rfl

theorem size9 : (Try.prog.info? 9).map (·.size) = some 1 := by kernel_rfl

/-- The copy runs to its end: the row at g then holds the strings; no other old block has turned. -/
theorem copy_run (w : World) (ks : List ByteArray) (g b off cap : Nat) (cur : Array Value) (hg : w.heap[g]? = some (.cells cur 9)) (hcur : cur.size = ks.length) (hm : ks.length ≤ maxLen)
    (hsrc : ∀ i, i < ks.length → w.cell? ⟨b, off + i, none⟩ = some (.string (ks.getD i ByteArray.empty))) :
    ∃ w', (Builtin.copy_ #[22, 22] 3 #[.slice (some ⟨g, 0, none⟩) ks.length ks.length, .slice (some ⟨b, off, none⟩) ks.length cap]).run Try.prog w = .ok (.int .i64 ks.length) w' ∧
      Strs w' g (.slice (some ⟨g, 0, none⟩) ks.length ks.length) ks ∧ w.grownBy w' (some g) := by
  have hl : (ks.map Value.string).length = ks.length := by simp
  have hrun := run_copy_row (P := Try.prog) w 22 22 3 9 g 0 ks.length ks.length ⟨b, off, none⟩ ks.length cap cur 9 (ks.map Value.string) Try.underlying22 size9 hg (by simp) ?_ (by simp; omega) (one_strs ks)
  · have e : (cur.toList.take 0 ++ ks.map Value.string ++ cur.toList.drop (0 + (ks.map Value.string).length)).toArray = (ks.map Value.string).toArray := by
      rw [List.drop_of_length_le (by simp; omega)]; simp
    rw [e] at hrun
    have hz : goInt (ks.map Value.string).length = .int .i64 ks.length := by rw [hl]; rfl
    rw [hz] at hrun
    exact ⟨_, hrun, ⟨by simp, .inr ⟨g, ks.length, _, rfl, Nat.le_refl _, setRow_heap w g cur _ 9 _ hg, Nat.le_refl _, hm, by simp, List.take_of_length_le (by simp)⟩⟩, ⟨rfl, rfl, rfl, by simp [World.setRow], fun k _ hk => setRow_other w g k _ (fun e => hk (by rw [e]))⟩⟩
  · intro j v hj
    have hjl : j < ks.length := by
      rcases Nat.lt_or_ge j ks.length with h | h
      · exact h
      · rw [List.getElem?_eq_none (by simpa using h)] at hj; cases hj
    have ha : (⟨b, off, none⟩ : Addr).add j = ⟨b, off + j, none⟩ := by unfold Addr.add; split <;> simp_all
    rw [ha, hsrc j hjl]
    rw [List.getElem?_map, List.getElem?_eq_getElem hjl] at hj
    simp only [Option.map_some, Option.some.injEq] at hj
    rw [← hj, getD_lt hjl]

/-- make and copy, one behind the other: a new row. -/
theorem made_copy (w : World) (ks : List ByteArray) (b off cap : Nat) (hn : ks.length ≤ 65536) (hb : b < w.heap.size) (hsrc : ∀ i, i < ks.length → w.cell? ⟨b, off + i, none⟩ = some (.string (ks.getD i ByteArray.empty))) :
    ∃ w', (Builtin.copy_ #[22, 22] 3 #[.slice (some ⟨w.heap.size, 0, none⟩) ks.length ks.length, .slice (some ⟨b, off, none⟩) ks.length cap]).run Try.prog (w.alloc (.cells (madeCells #[.string ⟨#[]⟩] ks.length) 9)) = .ok (.int .i64 ks.length) w' ∧
      Strs w' w.heap.size (.slice (some ⟨w.heap.size, 0, none⟩) ks.length ks.length) ks ∧ Below w.heap.size w w' := by
  have hbl : Below w.heap.size w (w.alloc (.cells (madeCells #[.string ⟨#[]⟩] ks.length) 9)) := (Below.refl _ _).alloc (Nat.le_refl _) _
  obtain ⟨w', hr, hs, hg⟩ := copy_run (w.alloc (.cells (madeCells #[.string ⟨#[]⟩] ks.length) 9)) ks w.heap.size b off cap _ (heap_alloc_new w _) (size_madeCells _ _) (by unfold maxLen; omega)
    (fun i hi => by rw [hbl.cell (p := ⟨b, off + i, none⟩) hb]; exact hsrc i hi)
  exact ⟨w', hr, hs, hbl.grown hg (by simp) (fun k hk => by cases hk; exact Nat.le_refl _)⟩

/-- make and copy of an empty slice, wherever it lies. -/
theorem made_copy0 (w : World) (a : Addr) (cap : Nat) :
    ∃ w', (Builtin.copy_ #[22, 22] 3 #[.slice (some ⟨w.heap.size, 0, none⟩) 0 0, .slice (some a) 0 cap]).run Try.prog (w.alloc (.cells (madeCells #[.string ⟨#[]⟩] 0) 9)) = .ok (.int .i64 0) w' ∧
      Strs w' w.heap.size (.slice (some ⟨w.heap.size, 0, none⟩) 0 0) [] ∧ Below w.heap.size w w' := by
  have hg : (w.alloc (.cells (madeCells #[.string ⟨#[]⟩] 0) 9)).heap[w.heap.size]? = some (.cells (madeCells #[.string ⟨#[]⟩] 0) 9) := heap_alloc_new w _
  have hrun := run_copy_row (P := Try.prog) (w.alloc (.cells (madeCells #[.string ⟨#[]⟩] 0) 9)) 22 22 3 9 w.heap.size 0 0 0 a 0 cap _ 9 [] Try.underlying22 size9 hg (by simp) (fun j v hj => by simp at hj) (by simp) (fun v hv => by cases hv)
  refine ⟨_, hrun, ⟨by simp, .inr ⟨w.heap.size, 0, _, rfl, Nat.le_refl _, setRow_heap _ _ _ _ 9 _ hg, Nat.le_refl _, Nat.zero_le _, by simp [size_madeCells], by simp⟩⟩, below_setRow ((Below.refl _ _).alloc (Nat.le_refl _) _) (Nat.le_refl _) _⟩

theorem Strs.kept {w w' : World} {base : Nat} {v : Value} {ss : List ByteArray} {row : Option Nat} (h : Strs w base v ss) (hg : w.grownBy w' row) (hne : v.ownBlock = none ∨ v.ownBlock ≠ row) : Strs w' base v ss :=
  World.ownsRow.kept h hg hne
theorem grown_of_below {w w' : World} (hb : Below w.heap.size w w') (row : Option Nat) : w.grownBy w' row := ⟨hb.os, hb.tape, hb.output, hb.size, fun k hk _ => hb.block k hk⟩
theorem Strs.below {w w' : World} {base : Nat} {v : Value} {ss : List ByteArray} (h : Strs w base v ss) (hb : Below w.heap.size w w') : Strs w' base v ss :=
  h.kept (grown_of_below hb none) (by cases hv : v.ownBlock <;> simp)
theorem Strs.alloc {w : World} {base : Nat} {v : Value} {ss : List ByteArray} (h : Strs w base v ss) (o : Obj) : Strs (w.alloc o) base v ss := h.below ((Below.refl _ _).alloc (Nat.le_refl _) _)
theorem Strs.mono {w : World} {b c : Nat} {v : Value} {ss : List ByteArray} (h : Strs w b v ss) (hc : c ≤ b) : Strs w c v ss := by
  refine ⟨h.1, ?_⟩
  rcases h.2 with h | ⟨g, cap, cur, e, hb, r⟩
  · exact .inl h
  · exact .inr ⟨g, cap, cur, e, Nat.le_trans hc hb, r⟩
theorem Mems.kept {w w' : World} {base : Nat} {v : Value} {ps : List KV} {row : Option Nat} (h : Mems w base v ps) (hg : w.grownBy w' row) (hne : v.ownBlock = none ∨ v.ownBlock ≠ row) : Mems w' base v ps :=
  ⟨h.some, World.ownsRow.kept h.own hg hne⟩
theorem Mems.below {w w' : World} {base : Nat} {v : Value} {ps : List KV} (h : Mems w base v ps) (hb : Below w.heap.size w w') : Mems w' base v ps :=
  h.kept (grown_of_below hb none) (by cases hv : v.ownBlock <;> simp)

set_option maxHeartbeats 400000 in
theorem same_any (g1 c1 g2 c2 : Nat) (ss : List ByteArray) (w : World) (hn : ss.length ≤ 65536) (h1 : ∀ i, i < ss.length → w.cell? ⟨g1, i, none⟩ = some (.string (ss.getD i ByteArray.empty))) (h2 : ∀ i, i < ss.length → w.cell? ⟨g2, i, none⟩ = some (.string (ss.getD i ByteArray.empty))) :
    Calls Try.prog 15 #[.slice (some ⟨g1, 0, none⟩) ss.length c1, .slice (some ⟨g2, 0, none⟩) ss.length c2] w fun e w' => e = .returned (.bool true) ∧ Below w.heap.size w w' := by
  have H1 : Hid _ := h1
  have H2 : Hid _ := h2
  clear h1 h2
  go_enter Try.func15, Try.ntmps15
  go_wp2
  go_loopw [5] (fun i wr => ∃ k : Nat, k ≤ ss.length ∧ i = .int .i64 k ∧ ∃ n, wr = w.drewN n) (fun i _ => ss.length - (intOf i).toNat)
  case atStart => exact ⟨0, Nat.zero_le _, rfl, 0, rfl⟩
  case round =>
    obtain ⟨k, hk, rfl, n, rfl⟩ := hrel
    by_cases hlt : k < ss.length
    · have c1 := H1.out k hlt
      have c2 := H2.out k hlt
      generalize ss.getD k ByteArray.empty = x at c1 c2
      go_wp2
      go_quiet (fail)
      go_wp2
      go_roundw
      case rel => exact ⟨k + 1, by omega, by go_num, _, rfl⟩
      case measure => simp [intOf]; omega
    · go_wp2
      go_ret
      exact ⟨rfl, ⟨rfl, rfl, rfl, Nat.le_refl _, fun _ _ => rfl⟩⟩
end Go.Proofs.Qxb6613733a
