/-
  What FnRepeatsPrefixIsAnotherValue lays ahead of the five calls, for mappings and for lists.
-/
import Derived.Test.Qxb6613733aFmtCalls
import Derived.Laws.MakeOwn
namespace Go.Proofs.Qxb6613733aFmt
open Go.RowKit Go.Extern.Stop Go.Stop Go.Extern

def rowM (k : Nat) : Obj := .cells (madeCells #[.string ⟨#[]⟩, .nilIface, .string ⟨#[]⟩] (k * 3)) 46
theorem make25 (k : Nat) (hk : k ≤ 65536) (w : World) : (Instr.makeSlice 25 (.int .i64 (k : Int)) (.int .i64 (k : Int))).run Tryf.prog w = .ok (.slice (some ⟨w.heap.size, 0, none⟩) k k) (w.alloc (rowM k)) := by
  have h := run_make (P := Tryf.prog) w 25 46 Tryf.t46 _ Tryf.underlying25 info46 rfl .i64 .i64 (k : Int) (k : Int) (by omega) (by omega) (by show (48 : Int) * _ ≤ _; omega) (by omega)
  simp only [Int.toNat_natCast] at h
  exact h


set_option maxHeartbeats 400000 in
theorem newRepeats (w : World) : Calls Tryf.prog 4 #[] w fun e w' => e = .returned (.pointer (some ⟨w.heap.size + 1, 0, none⟩)) ∧ w' = (w.alloc (.map #[] 0)).alloc (.cells #[.map (some w.heap.size), .int .i64 65536] 38) := by
  have hmm := @run_makeMap Tryf.prog
  go_enter Tryf.func4, Tryf.ntmps4
  go_wp2
  go_ret
  exact ⟨rfl, rfl⟩


theorem stepL_bd (ks : List (Addr × Nat)) (left : Int) (a : Addr) (len : Nat) (cost : Int) (hc : 0 ≤ cost) : left - cost ≤ stepL ks left a len cost ∧ stepL ks left a len cost ≤ left := by
  unfold stepL; split
  · omega
  · split <;> omega

theorem start_St (w : World) (t : Nat) (o : Obj) : St (((w.alloc (.map #[] 0)).alloc (.cells #[.map (some w.heap.size), .int .i64 65536] 38)).alloc o) (w.heap.size + 1) w.heap.size t 65536 [] := by
  refine St.alloc ⟨?_, #[], 0, ?_, rfl, fun p hp => by cases hp⟩ o
  · show ((w.heap.push _).push _)[w.heap.size + 1]? = _
    rw [Array.getElem?_push, if_pos (by simp)]
  · show ((w.heap.push _).push _)[w.heap.size]? = _
    rw [Array.getElem?_push, if_neg (by simp), Array.getElem?_push, if_pos rfl]

theorem plain_last (w : World) (c : Array Value) (e : Nat) (n off : Nat) (hn : n = w.heap.size) : Plain (w.alloc (.cells c e)) ⟨n, off, none⟩ := by
  subst hn
  exact ⟨c, e, by show (w.heap.push _)[w.heap.size]? = _; simp⟩

theorem Plain.kept {M R : Nat} {w w' : World} {a : Addr} (h : Plain w a) (hk : Kept M R w w') (h1 : a.block ≠ M) (h2 : a.block ≠ R) : Plain w' a := by
  obtain ⟨c, e, h⟩ := h
  exact ⟨c, e, by rw [hk.block _ (Array.getElem?_eq_some_iff.1 h).1 h1 h2]; exact h⟩



def rowL (k : Nat) : Obj := .cells (madeCells #[.nilIface] (k * 1)) 40
theorem make29 (k : Nat) (hk : k ≤ 65536) (w : World) : (Instr.makeSlice 29 (.int .i64 (k : Int)) (.int .i64 (k : Int))).run Tryf.prog w = .ok (.slice (some ⟨w.heap.size, 0, none⟩) k k) (w.alloc (rowL k)) := by
  have h := run_make (P := Tryf.prog) w 29 40 Tryf.t40 _ Tryf.underlying29 info40 rfl .i64 .i64 (k : Int) (k : Int) (by omega) (by omega) (by show (16 : Int) * _ ≤ _; omega) (by omega)
  simp only [Int.toNat_natCast] at h
  exact h

set_option maxHeartbeats 400000 in
theorem newList (k : Nat) (hk : k ≤ 65536) (w : World) : Calls Tryf.prog 6 #[.int .i64 k] w fun e w' => e = .returned (.agg #[.slice (some ⟨w.heap.size + 1, 0, none⟩) k k]) ∧ w' = (w.alloc (.cells #[.slice (some ⟨w.heap.size + 1, 0, none⟩) k k] 31)).alloc (rowL k) := by
  have hmk := make29 k hk
  go_enter Tryf.func6, Tryf.ntmps6
  go_wp2
  exact bodyPost_ret (v := .agg #[.slice (some ⟨w.heap.size + 1, 0, none⟩) k k]) (by simp [results, Tryf.results6, go_sem]) rfl ⟨rfl, rfl⟩

set_option maxHeartbeats 400000 in
theorem subList (b k lo hi : Nat) (hk : k ≤ 65536) (h1 : lo ≤ hi) (h2 : hi ≤ k) (h3 : lo < k) (w : World) : Calls Tryf.prog 7 #[.agg #[.slice (some ⟨b, 0, none⟩) k k], .int .i64 lo, .int .i64 hi] w fun e w' =>
    e = .returned (.agg #[.slice (some ⟨b, lo, none⟩) (hi - lo) (k - lo)]) ∧ w' = (w.alloc (.cells #[.slice (some ⟨b, 0, none⟩) k k] 31)).alloc (.cells #[.slice (some ⟨b, lo, none⟩) (hi - lo) (k - lo)] 31) := by
  go_enter Tryf.func7, Tryf.ntmps7
  go_wp2
  exact bodyPost_ret (v := .agg #[.slice (some ⟨b, lo, none⟩) (hi - lo) (k - lo)]) (by simp [results, Tryf.results7, go_sem]) rfl ⟨rfl, rfl⟩
set_option maxHeartbeats 400000 in
theorem subListEnd (b k : Nat) (_hk : k ≤ 65536) (w : World) : Calls Tryf.prog 7 #[.agg #[.slice (some ⟨b, 0, none⟩) k k], .int .i64 k, .int .i64 k] w fun e w' =>
    e = .returned (.agg #[.slice (some ⟨b, 0, none⟩) 0 0]) ∧ w' = (w.alloc (.cells #[.slice (some ⟨b, 0, none⟩) k k] 31)).alloc (.cells #[.slice (some ⟨b, 0, none⟩) 0 0] 31) := by
  go_enter Tryf.func7, Tryf.ntmps7
  go_wp2
  exact bodyPost_ret (v := .agg #[.slice (some ⟨b, 0, none⟩) 0 0]) (by simp [results, Tryf.results7, go_sem]) rfl ⟨rfl, rfl⟩

/-- The end: old memory as it was. -/
theorem ends {w w0 w' : World} {M R : Nat} (hb : Below w.heap.size w w0) (hM : w.heap.size ≤ M) (hR : w.heap.size ≤ R) (h : Kept M R w0 w') : Below w.heap.size w w' := h.below hb hM hR


theorem newList0 (w : World) : Calls Tryf.prog 6 #[.int .i64 0] w fun e w' => e = .returned (.agg #[.slice (some ⟨w.heap.size + 1, 0, none⟩) 0 0]) ∧ w' = (w.alloc (.cells #[.slice (some ⟨w.heap.size + 1, 0, none⟩) 0 0] 31)).alloc (rowL 0) := by
  simpa using newList 0 (by omega) w
theorem subList0 (b k hi : Nat) (hk : k ≤ 65536) (h2 : hi ≤ k) (h3 : 0 < k) (w : World) : Calls Tryf.prog 7 #[.agg #[.slice (some ⟨b, 0, none⟩) k k], .int .i64 0, .int .i64 hi] w fun e w' =>
    e = .returned (.agg #[.slice (some ⟨b, 0, none⟩) hi k]) ∧ w' = (w.alloc (.cells #[.slice (some ⟨b, 0, none⟩) k k] 31)).alloc (.cells #[.slice (some ⟨b, 0, none⟩) hi k] 31) := by
  simpa using subList b k 0 hi hk (by omega) h2 h3 w
theorem subList00 (b k : Nat) (hk : k ≤ 65536) (h3 : 0 < k) (w : World) : Calls Tryf.prog 7 #[.agg #[.slice (some ⟨b, 0, none⟩) k k], .int .i64 0, .int .i64 0] w fun e w' =>
    e = .returned (.agg #[.slice (some ⟨b, 0, none⟩) 0 k]) ∧ w' = (w.alloc (.cells #[.slice (some ⟨b, 0, none⟩) k k] 31)).alloc (.cells #[.slice (some ⟨b, 0, none⟩) 0 k] 31) := by
  simpa using subList0 b k 0 hk (by omega) h3 w
theorem subListNil (b : Nat) (w : World) : Calls Tryf.prog 7 #[.agg #[.slice (some ⟨b, 0, none⟩) 0 0], .int .i64 0, .int .i64 0] w fun e w' =>
    e = .returned (.agg #[.slice (some ⟨b, 0, none⟩) 0 0]) ∧ w' = (w.alloc (.cells #[.slice (some ⟨b, 0, none⟩) 0 0] 31)).alloc (.cells #[.slice (some ⟨b, 0, none⟩) 0 0] 31) := by
  simpa using subListEnd b 0 (by omega) w

/-- The world ahead of the first ZZenterMap. -/
def W0M (w : World) (k : Nat) : World := ((((w.alloc (.map #[] 0)).alloc (.cells #[.map (some w.heap.size), .int .i64 65536] 38)).alloc (rowM k)).alloc (rowM k))
/-- The world ahead of the first ZZenterList; the piece lies at offset o, of m items, capacity c. -/
def W0L (w : World) (k o m c : Nat) : World := (((((((((((w.alloc (.map #[] 0)).alloc (.cells #[.map (some w.heap.size), .int .i64 65536] 38)).alloc (.cells #[.slice (some ⟨w.heap.size + 1 + 1 + 1, 0, none⟩) k k] 31)).alloc (rowL k)).alloc (.cells #[.slice (some ⟨w.heap.size + 1 + 1 + 1, 0, none⟩) k k] 31)).alloc (.cells #[.slice (some ⟨w.heap.size + 1 + 1 + 1, 0, none⟩) k k] 31)).alloc (.cells #[.slice (some ⟨w.heap.size + 1 + 1 + 1, o, none⟩) m c] 31)).alloc (.cells #[.slice (some ⟨w.heap.size + 1 + 1 + 1, o, none⟩) m c] 31)).alloc (.cells #[.slice (some ⟨w.heap.size + 1 + 1 + 1 + 1 + 1 + 1 + 1 + 1 + 1, 0, none⟩) k k] 31)).alloc (rowL k)).alloc (.cells #[.slice (some ⟨w.heap.size + 1 + 1 + 1 + 1 + 1 + 1 + 1 + 1 + 1, 0, none⟩) k k] 31))

theorem startM (w : World) (k : Nat) : St (W0M w k) (w.heap.size + 1) w.heap.size 44 65536 [] := (start_St w 44 (rowM k)).alloc _
theorem startL (w : World) (k o m c : Nat) : St (W0L w k o m c) (w.heap.size + 1) w.heap.size 43 65536 [] :=
  ((((((((start_St w 43 _).alloc _).alloc _).alloc _).alloc _).alloc _).alloc _).alloc _).alloc _
theorem belowM (w : World) (k : Nat) : Below w.heap.size w (W0M w k) :=
  ((((Below.refl _ _).alloc (Nat.le_refl _) _).alloc (by simp) _).alloc (by simp; omega) _).alloc (by simp; omega) _
theorem belowL (w : World) (k o m c : Nat) : Below w.heap.size w (W0L w k o m c) :=
  ((((((((((((Below.refl _ _).alloc (Nat.le_refl _) _)).alloc (by simp <;> omega) _).alloc (by simp <;> omega) _).alloc (by simp <;> omega) _).alloc (by simp <;> omega) _).alloc (by simp <;> omega) _).alloc (by simp <;> omega) _).alloc (by simp <;> omega) _).alloc (by simp <;> omega) _).alloc (by simp <;> omega) _).alloc (by simp <;> omega) _
theorem plainMw (w : World) (k off : Nat) : Plain (W0M w k) ⟨w.heap.size + 1 + 1, off, none⟩ := plain_alloc (plain_last _ _ _ _ _ (by simp)) _
theorem plainMf (w : World) (k off : Nat) : Plain (W0M w k) ⟨w.heap.size + 1 + 1 + 1, off, none⟩ := plain_last _ _ _ _ _ (by simp)
theorem plainLw (w : World) (k o m c off : Nat) : Plain (W0L w k o m c) ⟨w.heap.size + 1 + 1 + 1, off, none⟩ :=
  plain_alloc (plain_alloc (plain_alloc (plain_alloc (plain_alloc (plain_alloc (plain_alloc (plain_last _ _ _ _ _ (by simp)) _) _) _) _) _) _) _
theorem plainLf (w : World) (k o m c off : Nat) : Plain (W0L w k o m c) ⟨w.heap.size + 1 + 1 + 1 + 1 + 1 + 1 + 1 + 1 + 1, off, none⟩ := plain_alloc (plain_last _ _ _ _ _ (by simp)) _

theorem cell_alloc {w : World} {p : Addr} {v : Value} (h : w.cell? p = some v) (o : Obj) : (w.alloc o).cell? p = some v := by
  unfold World.cell? at h ⊢
  cases hb : w.heap[p.block]? with
  | none => rw [hb] at h; cases h
  | some x => rw [at_alloc hb o]; rw [hb] at h; exact h
theorem cell_last (w : World) (v : Value) (e n : Nat) (hn : n = w.heap.size) : (w.alloc (.cells #[v] e)).cell? ⟨n, 0, none⟩ = some v := by
  subst hn
  unfold World.cell?
  rw [show (w.alloc (.cells #[v] e)).heap[w.heap.size]? = some (.cells #[v] e) from by show (w.heap.push _)[w.heap.size]? = _; simp]
  rfl
theorem Kept.cell {M R : Nat} {w w' : World} (h : Kept M R w w') {p : Addr} {v : Value} (hc : w.cell? p = some v) (h1 : p.block ≠ M) (h2 : p.block ≠ R) : w'.cell? p = some v := by
  unfold World.cell? at hc ⊢
  cases hb : w.heap[p.block]? with
  | none => rw [hb] at hc; cases hc
  | some x => rw [h.block _ (Array.getElem?_eq_some_iff.1 hb).1 h1 h2]; exact hc
theorem cellsL {w w' : World} {k o m c : Nat} (h : Kept w.heap.size (w.heap.size + 1) (W0L w k o m c) w') :
    w'.cell? ⟨w.heap.size + 1 + 1 + 1 + 1, 0, none⟩ = some (.slice (some ⟨w.heap.size + 1 + 1 + 1, 0, none⟩) k k) ∧ w'.cell? ⟨w.heap.size + 1 + 1 + 1 + 1 + 1 + 1 + 1, 0, none⟩ = some (.slice (some ⟨w.heap.size + 1 + 1 + 1, o, none⟩) m c) ∧ w'.cell? ⟨w.heap.size + 1 + 1 + 1 + 1 + 1 + 1 + 1 + 1 + 1 + 1, 0, none⟩ = some (.slice (some ⟨w.heap.size + 1 + 1 + 1 + 1 + 1 + 1 + 1 + 1 + 1, 0, none⟩) k k) := by
  refine ⟨h.cell ?_ (by simp; omega) (by simp; omega), h.cell ?_ (by simp; omega) (by simp; omega), h.cell ?_ (by simp; omega) (by simp; omega)⟩
  · exact cell_alloc (cell_alloc (cell_alloc (cell_alloc (cell_alloc (cell_alloc (cell_last _ _ _ _ (by simp)) _) _) _) _) _) _
  · exact cell_alloc (cell_alloc (cell_alloc (cell_last _ _ _ _ (by simp)) _) _) _
  · exact cell_last _ _ _ _ (by simp)
theorem ret_bool {a : Bool} (h : a = true) : Ending.returned (.bool a) = .returned (.bool true) := by rw [h]
end Go.Proofs.Qxb6613733aFmt
