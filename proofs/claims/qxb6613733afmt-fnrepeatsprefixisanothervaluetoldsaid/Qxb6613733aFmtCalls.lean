/-
  Enter in one contract over a plain step; the two callers ZZenterMap, ZZenterList.
-/
import Derived.Test.Qxb6613733aFmtEnter
namespace Go.Proofs.Qxb6613733aFmt
open Go.RowKit Go.Extern.Stop Go.Stop Go.Extern

/-- What Enter makes of the keys and of what is left. -/
def stepK (ks : List (Addr × Nat)) (a : Addr) (len : Nat) : List (Addr × Nat) := if len = 0 then ks else if (a, len) ∈ ks then ks else ks ++ [(a, len)]
def stepL (ks : List (Addr × Nat)) (left : Int) (a : Addr) (len : Nat) (cost : Int) : Int := if len = 0 then left else if (a, len) ∈ ks then left - cost else left
/-- Does Enter answer an error? -/
def flag (ks : List (Addr × Nat)) (left : Int) (a : Addr) (len : Nat) (cost : Int) : Bool := decide (len ≠ 0 ∧ (a, len) ∈ ks ∧ left - cost < 0)
def errV : Bool → Addr → Value
  | true, p => .iface 51 (.pointer (some p))
  | false, _ => .nilIface

theorem enter_any (T t : Nat) (hT : Kinds T t) (R M S off len cap : Nat) (left cost : Int) (w : World) (ks : List (Addr × Nat)) (hst : St w R M t left ks)
    (hle : len ≤ 65536) (hS : Plain w ⟨S, off, none⟩)
    (hb1 : -4611686018427387904 ≤ left) (hb2 : left ≤ 65536) (hb3 : 0 ≤ cost) (hb4 : cost ≤ 1152921504606846976) (b : Bool) (hf : flag ks left ⟨S, off, none⟩ len cost = b) :
    Calls Tryf.prog 9 #[.pointer (some ⟨R, 0, none⟩), .iface T (.slice (some ⟨S, off, none⟩) len cap), .int .i64 cost] w fun e w' =>
      ∃ p, e = .returned (errV b p) ∧ St w' R M t (stepL ks left ⟨S, off, none⟩ len cost) (stepK ks ⟨S, off, none⟩ len) ∧ Kept M R w w' := by
  unfold flag at hf
  unfold stepL stepK
  by_cases h0 : len = 0
  · subst h0
    obtain rfl : b = false := by simpa using hf.symm
    refine (enter_none T t hT R M _ cap left cost w ks hst).mono ?_
    rintro e w' ⟨rfl, h1, h2⟩
    exact ⟨⟨0, 0, none⟩, rfl, by simpa using h1, h2⟩
  · by_cases hin : (⟨S, off, none⟩, len) ∈ ks
    · by_cases hn : left - cost < 0
      · obtain rfl : b = true := by rw [← hf]; simp [h0, hin, hn]
        refine (enter_err T t hT R M S off len cap left cost w ks hst (by omega) hle hS hin hb1 hb2 hb3 hb4 hn).mono ?_
        rintro e w' ⟨p, rfl, h1, h2⟩
        exact ⟨p, rfl, by simpa [h0, hin] using h1, h2⟩
      · obtain rfl : b = false := by rw [← hf]; simp [hn]
        refine (enter_ok T t hT R M S off len cap left cost w ks hst (by omega) hle hS hin hb1 hb2 hb3 hb4 (by omega)).mono ?_
        rintro e w' ⟨rfl, h1, h2⟩
        exact ⟨⟨0, 0, none⟩, rfl, by simpa [h0, hin] using h1, h2⟩
    · obtain rfl : b = false := by rw [← hf]; simp [hin]
      refine (enter_new T t hT R M S off len cap left cost w ks hst (by omega) hle hS hin).mono ?_
      rintro e w' ⟨rfl, h1, h2⟩
      exact ⟨⟨0, 0, none⟩, rfl, by simpa [h0, hin] using h1, h2⟩

set_option maxHeartbeats 400000 in
theorem enterMap (R M S off len cap : Nat) (left cost : Int) (w : World) (ks : List (Addr × Nat)) (hst : St w R M 44 left ks)
    (hle : len ≤ 65536) (hS : Plain w ⟨S, off, none⟩)
    (hb1 : -4611686018427387904 ≤ left) (hb2 : left ≤ 65536) (hb3 : 0 ≤ cost) (hb4 : cost ≤ 1152921504606846976) (b : Bool) (hf : flag ks left ⟨S, off, none⟩ len cost = b) :
    Calls Tryf.prog 5 #[.pointer (some ⟨R, 0, none⟩), .slice (some ⟨S, off, none⟩) len cap, .int .i64 cost] w fun e w' =>
      ∃ p, e = .returned (errV b p) ∧ St w' R M 44 (stepL ks left ⟨S, off, none⟩ len cost) (stepK ks ⟨S, off, none⟩ len) ∧ Kept M R w w' := by
  have H := enter_any 25 44 (.inl ⟨rfl, rfl⟩) R M S off len cap left cost w ks hst hle hS hb1 hb2 hb3 hb4 b hf
  have HH : Hid _ := H
  clear H hf hst hS
  go_enter Tryf.func5, Tryf.ntmps5
  go_wp2_with fail
  refine Calls.mono HH.out ?_
  rintro e w' ⟨p, rfl, h1, h2⟩
  have h1' : Hid _ := h1
  clear h1
  go_wp2
  go_ret
  exact ⟨p, rfl, h1'.out, h2⟩

set_option maxHeartbeats 400000 in
theorem enterList (R M S off len cap : Nat) (left cost : Int) (w : World) (ks : List (Addr × Nat)) (hst : St w R M 43 left ks)
    (hle : len ≤ 65536) (hS : Plain w ⟨S, off, none⟩)
    (hb1 : -4611686018427387904 ≤ left) (hb2 : left ≤ 65536) (hb3 : 0 ≤ cost) (hb4 : cost ≤ 1152921504606846976) (b : Bool) (hf : flag ks left ⟨S, off, none⟩ len cost = b) :
    Calls Tryf.prog 8 #[.pointer (some ⟨R, 0, none⟩), .agg #[.slice (some ⟨S, off, none⟩) len cap], .int .i64 cost] w fun e w' =>
      ∃ p, e = .returned (errV b p) ∧ St w' R M 43 (stepL ks left ⟨S, off, none⟩ len cost) (stepK ks ⟨S, off, none⟩ len) ∧ Kept M R w w' := by
  have H := enter_any 29 43 (.inr ⟨rfl, rfl⟩) R M S off len cap left cost (w.alloc (.cells #[.slice (some ⟨S, off, none⟩) len cap] 31)) ks (hst.alloc _) hle (plain_alloc hS _) hb1 hb2 hb3 hb4 b hf
  have HH : Hid _ := H
  clear H hf hst hS
  go_enter Tryf.func8, Tryf.ntmps8
  go_wp2_with fail
  refine Calls.mono HH.out ?_
  rintro e w' ⟨p, rfl, h1, h2⟩
  have h1' : Hid _ := h1
  clear h1
  go_wp2
  go_ret
  exact ⟨p, rfl, h1'.out, ((Kept.refl _ _ _).alloc _).trans h2⟩

theorem enterMap_none (R M S off len cap : Nat) (left cost : Int) (w : World) (ks : List (Addr × Nat)) (hst : St w R M 44 left ks) (hle : len ≤ 65536) (hS : Plain w ⟨S, off, none⟩) (hb1 : -4611686018427387904 ≤ left) (hb2 : left ≤ 65536) (hb3 : 0 ≤ cost) (hb4 : cost ≤ 1152921504606846976) (h0 : len = 0) :
    Calls Tryf.prog 5 #[.pointer (some ⟨R, 0, none⟩), .slice (some ⟨S, off, none⟩) len cap, .int .i64 cost] w fun e w' => e = .returned .nilIface ∧ St w' R M 44 left ks ∧ Kept M R w w' := by
  refine (enterMap R M S off len cap left cost w ks hst hle hS hb1 hb2 hb3 hb4 false (by simp [flag, h0])).mono ?_
  rintro e w' ⟨p, rfl, h1, h2⟩
  exact ⟨rfl, by simpa [stepL, stepK, h0] using h1, h2⟩
theorem enterMap_new (R M S off len cap : Nat) (left cost : Int) (w : World) (ks : List (Addr × Nat)) (hst : St w R M 44 left ks) (hle : len ≤ 65536) (hS : Plain w ⟨S, off, none⟩) (hb1 : -4611686018427387904 ≤ left) (hb2 : left ≤ 65536) (hb3 : 0 ≤ cost) (hb4 : cost ≤ 1152921504606846976) (h0 : 0 < len) (hin : (⟨S, off, none⟩, len) ∉ ks) :
    Calls Tryf.prog 5 #[.pointer (some ⟨R, 0, none⟩), .slice (some ⟨S, off, none⟩) len cap, .int .i64 cost] w fun e w' => e = .returned .nilIface ∧ St w' R M 44 left (ks ++ [(⟨S, off, none⟩, len)]) ∧ Kept M R w w' := by
  have h0' : len ≠ 0 := by omega
  refine (enterMap R M S off len cap left cost w ks hst hle hS hb1 hb2 hb3 hb4 false (by simp [flag, hin])).mono ?_
  rintro e w' ⟨p, rfl, h1, h2⟩
  exact ⟨rfl, by simpa [stepL, stepK, h0', hin] using h1, h2⟩
theorem enterMap_ok (R M S off len cap : Nat) (left cost : Int) (w : World) (ks : List (Addr × Nat)) (hst : St w R M 44 left ks) (hle : len ≤ 65536) (hS : Plain w ⟨S, off, none⟩) (hb1 : -4611686018427387904 ≤ left) (hb2 : left ≤ 65536) (hb3 : 0 ≤ cost) (hb4 : cost ≤ 1152921504606846976) (h0 : 0 < len) (hin : (⟨S, off, none⟩, len) ∈ ks) (hok : 0 ≤ left - cost) :
    Calls Tryf.prog 5 #[.pointer (some ⟨R, 0, none⟩), .slice (some ⟨S, off, none⟩) len cap, .int .i64 cost] w fun e w' => e = .returned .nilIface ∧ St w' R M 44 (left - cost) ks ∧ Kept M R w w' := by
  have h0' : len ≠ 0 := by omega
  have hok' : ¬ left - cost < 0 := by omega
  refine (enterMap R M S off len cap left cost w ks hst hle hS hb1 hb2 hb3 hb4 false (by simp [flag, hok'])).mono ?_
  rintro e w' ⟨p, rfl, h1, h2⟩
  exact ⟨rfl, by simpa [stepL, stepK, h0', hin] using h1, h2⟩
theorem enterMap_err (R M S off len cap : Nat) (left cost : Int) (w : World) (ks : List (Addr × Nat)) (hst : St w R M 44 left ks) (hle : len ≤ 65536) (hS : Plain w ⟨S, off, none⟩) (hb1 : -4611686018427387904 ≤ left) (hb2 : left ≤ 65536) (hb3 : 0 ≤ cost) (hb4 : cost ≤ 1152921504606846976) (h0 : 0 < len) (hin : (⟨S, off, none⟩, len) ∈ ks) (hok : left - cost < 0) :
    Calls Tryf.prog 5 #[.pointer (some ⟨R, 0, none⟩), .slice (some ⟨S, off, none⟩) len cap, .int .i64 cost] w fun e w' => ∃ p, e = .returned (.iface 51 (.pointer (some p))) ∧ St w' R M 44 (left - cost) ks ∧ Kept M R w w' := by
  have h0' : len ≠ 0 := by omega
  refine (enterMap R M S off len cap left cost w ks hst hle hS hb1 hb2 hb3 hb4 true (by simp [flag, hok, h0', hin])).mono ?_
  rintro e w' ⟨p, rfl, h1, h2⟩
  exact ⟨p, rfl, by simpa [stepL, stepK, h0', hin] using h1, h2⟩

theorem enterList_none (R M S off len cap : Nat) (left cost : Int) (w : World) (ks : List (Addr × Nat)) (hst : St w R M 43 left ks) (hle : len ≤ 65536) (hS : Plain w ⟨S, off, none⟩) (hb1 : -4611686018427387904 ≤ left) (hb2 : left ≤ 65536) (hb3 : 0 ≤ cost) (hb4 : cost ≤ 1152921504606846976) (h0 : len = 0) :
    Calls Tryf.prog 8 #[.pointer (some ⟨R, 0, none⟩), .agg #[.slice (some ⟨S, off, none⟩) len cap], .int .i64 cost] w fun e w' => e = .returned .nilIface ∧ St w' R M 43 left ks ∧ Kept M R w w' := by
  refine (enterList R M S off len cap left cost w ks hst hle hS hb1 hb2 hb3 hb4 false (by simp [flag, h0])).mono ?_
  rintro e w' ⟨p, rfl, h1, h2⟩
  exact ⟨rfl, by simpa [stepL, stepK, h0] using h1, h2⟩
theorem enterList_new (R M S off len cap : Nat) (left cost : Int) (w : World) (ks : List (Addr × Nat)) (hst : St w R M 43 left ks) (hle : len ≤ 65536) (hS : Plain w ⟨S, off, none⟩) (hb1 : -4611686018427387904 ≤ left) (hb2 : left ≤ 65536) (hb3 : 0 ≤ cost) (hb4 : cost ≤ 1152921504606846976) (h0 : 0 < len) (hin : (⟨S, off, none⟩, len) ∉ ks) :
    Calls Tryf.prog 8 #[.pointer (some ⟨R, 0, none⟩), .agg #[.slice (some ⟨S, off, none⟩) len cap], .int .i64 cost] w fun e w' => e = .returned .nilIface ∧ St w' R M 43 left (ks ++ [(⟨S, off, none⟩, len)]) ∧ Kept M R w w' := by
  have h0' : len ≠ 0 := by omega
  refine (enterList R M S off len cap left cost w ks hst hle hS hb1 hb2 hb3 hb4 false (by simp [flag, hin])).mono ?_
  rintro e w' ⟨p, rfl, h1, h2⟩
  exact ⟨rfl, by simpa [stepL, stepK, h0', hin] using h1, h2⟩
theorem enterList_ok (R M S off len cap : Nat) (left cost : Int) (w : World) (ks : List (Addr × Nat)) (hst : St w R M 43 left ks) (hle : len ≤ 65536) (hS : Plain w ⟨S, off, none⟩) (hb1 : -4611686018427387904 ≤ left) (hb2 : left ≤ 65536) (hb3 : 0 ≤ cost) (hb4 : cost ≤ 1152921504606846976) (h0 : 0 < len) (hin : (⟨S, off, none⟩, len) ∈ ks) (hok : 0 ≤ left - cost) :
    Calls Tryf.prog 8 #[.pointer (some ⟨R, 0, none⟩), .agg #[.slice (some ⟨S, off, none⟩) len cap], .int .i64 cost] w fun e w' => e = .returned .nilIface ∧ St w' R M 43 (left - cost) ks ∧ Kept M R w w' := by
  have h0' : len ≠ 0 := by omega
  have hok' : ¬ left - cost < 0 := by omega
  refine (enterList R M S off len cap left cost w ks hst hle hS hb1 hb2 hb3 hb4 false (by simp [flag, hok'])).mono ?_
  rintro e w' ⟨p, rfl, h1, h2⟩
  exact ⟨rfl, by simpa [stepL, stepK, h0', hin] using h1, h2⟩
theorem enterList_err (R M S off len cap : Nat) (left cost : Int) (w : World) (ks : List (Addr × Nat)) (hst : St w R M 43 left ks) (hle : len ≤ 65536) (hS : Plain w ⟨S, off, none⟩) (hb1 : -4611686018427387904 ≤ left) (hb2 : left ≤ 65536) (hb3 : 0 ≤ cost) (hb4 : cost ≤ 1152921504606846976) (h0 : 0 < len) (hin : (⟨S, off, none⟩, len) ∈ ks) (hok : left - cost < 0) :
    Calls Tryf.prog 8 #[.pointer (some ⟨R, 0, none⟩), .agg #[.slice (some ⟨S, off, none⟩) len cap], .int .i64 cost] w fun e w' => ∃ p, e = .returned (.iface 51 (.pointer (some p))) ∧ St w' R M 43 (left - cost) ks ∧ Kept M R w w' := by
  have h0' : len ≠ 0 := by omega
  refine (enterList R M S off len cap left cost w ks hst hle hS hb1 hb2 hb3 hb4 true (by simp [flag, hok, h0', hin])).mono ?_
  rintro e w' ⟨p, rfl, h1, h2⟩
  exact ⟨p, rfl, by simpa [stepL, stepK, h0', hin] using h1, h2⟩
end Go.Proofs.Qxb6613733aFmt
