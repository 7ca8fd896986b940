/-
  FnSetThenGet: the other ways: a list too long, lengths that differ, no element at all with a nil slice among the two.
-/
import Derived.Test.Qxb6613733aMain
namespace Go.Proofs.Qxb6613733a
open Go.RowKit

theorem neq22' (a : Option Addr) (n c : Nat) (w : World) : (binOp .neq 22 (.slice a n c) (.slice none 0 0)).run Try.prog w = .ok (.bool (!a.isNone)) w := run_neq_slice_nil_any w 22 9 a n c 0 0 Try.underlying22
attribute [local go_sem] neq22'

set_option maxRecDepth 100000 in
set_option maxHeartbeats 1000000 in
theorem long_any (P : Prop) (a1 a2 : Option Addr) (n1 c1 n2 c2 : Nat) (key val : ByteArray) (w : World) (hm1 : n1 ≤ maxLen) (hm2 : n2 ≤ maxLen) (h : 4096 < n1 ∨ (n1 ≤ 4096 ∧ 4096 < n2))
    (hb5 : Calls Try.prog 5 #[.slice a1 n1 c1, .slice a2 n2 c2, .string key, .string val] w (Answers P w)) :
    Calls Try.prog 3 #[.slice a1 n1 c1, .slice a2 n2 c2, .string key, .string val] w (Yes w) := by
  unfold maxLen at hm1 hm2
  have H5 : Hid _ := hb5
  clear hb5
  rcases h with h | ⟨h0, h⟩
  all_goals
    go_enter Try.func3, Try.ntmps3
    go_wp2_with fail
    refine Calls.mono H5.out ?_
    rintro e w1 ⟨b, rfl, hw1, hb⟩
    obtain rfl : w = w1 := hw1.symm
    clear hb
    cases b with
    | false =>
      go_wp2
      go_ret
      exact ⟨rfl, Below.refl _ _⟩
    | true =>
      go_wp2
      go_ret
      exact ⟨rfl, Below.refl _ _⟩

set_option maxRecDepth 100000 in
set_option maxHeartbeats 2000000 in
theorem differ_ns (P : Prop) (b2 o2 c2 : Nat) (vs : List ByteArray) (key val : ByteArray) (w : World) (hg2 : b2 < w.heap.size) (hn2 : vs.length ≤ 4096) (hk2 : ∀ i, i < vs.length → w.cell? ⟨b2, o2 + i, none⟩ = some (.string (vs.getD i ByteArray.empty))) (hd : ¬ 0 = vs.length) (hp : P → key.size ≤ 1048576 ∧ val.size ≤ 1048576)
    (hb5 : Calls Try.prog 5 #[.slice none 0 0, .slice (some ⟨b2, o2, none⟩) vs.length c2, .string key, .string val] w (Answers P w)) :
    Calls Try.prog 3 #[.slice none 0 0, .slice (some ⟨b2, o2, none⟩) vs.length c2, .string key, .string val] w (Yes w) := by
  have hB : Below w.heap.size w w := Below.refl _ _
  have S1 : Strs w w.heap.size (.slice none 0 0) [] := World.ownsRow_nil _ _ _ _
  obtain ⟨wa, hcp2, hs2, hb2⟩ := made_copy w vs b2 o2 c2 (by omega) (Nat.lt_of_lt_of_le hg2 hB.size) (fun i hi => by rw [hB.cell (p := ⟨b2, o2 + i, none⟩) hg2]; exact hk2 i hi)
  have S2 : Strs wa w.heap.size (.slice (some ⟨w.heap.size, 0, none⟩) vs.length vs.length) vs := hs2.mono hB.size
  have S1 := S1.below hb2
  have hB := hB.trans (hb2.mono hB.size)
  have hmk2 := make22 vs.length (by omega)
  have HS1 : Hid _ := S1
  have HS2 : Hid _ := S2
  have HB : Hid _ := hB
  have H5 : Hid _ := hb5
  have HP : Hid _ := hp
  clear S1 S2 hB hb5 hp hs2 hb2 hk2
  go_enter Try.func3, Try.ntmps3
  go_wp2_with fail
  refine Calls.mono H5.out ?_
  rintro e w1 ⟨b, rfl, hw1, hb⟩
  obtain rfl : w = w1 := hw1.symm
  cases b with
  | false =>
    clear hb hcp2
    go_wp2
    go_ret
    exact ⟨rfl, Below.refl _ _⟩
  | true =>
    obtain ⟨hz1, hz2⟩ := HP.out (hb rfl)
    clear hb
    go_wp2_with fail
    refine (addStrings _ w.heap.size _ [] wa HS1.out (by simp)).mono ?_
    rintro e w2 ⟨t1, rfl, hw2⟩
    obtain rfl : wa = w2 := hw2.symm
    clear hcp2
    go_wp2_with fail
    refine (addStrings _ w.heap.size _ vs wa HS2.out (by omega)).mono ?_
    rintro e w2 ⟨t2, rfl, hw2⟩
    obtain rfl : wa = w2 := hw2.symm
    go_wp2
    all_goals
      go_ret
      exact ⟨rfl, HB.out⟩

set_option maxRecDepth 100000 in
set_option maxHeartbeats 2000000 in
theorem differ_zs (P : Prop) (a1 : Addr) (c1 : Nat) (b2 o2 c2 : Nat) (vs : List ByteArray) (key val : ByteArray) (w : World) (hg2 : b2 < w.heap.size) (hn2 : vs.length ≤ 4096) (hk2 : ∀ i, i < vs.length → w.cell? ⟨b2, o2 + i, none⟩ = some (.string (vs.getD i ByteArray.empty))) (hd : ¬ 0 = vs.length) (hp : P → key.size ≤ 1048576 ∧ val.size ≤ 1048576)
    (hb5 : Calls Try.prog 5 #[.slice (some a1) 0 c1, .slice (some ⟨b2, o2, none⟩) vs.length c2, .string key, .string val] w (Answers P w)) :
    Calls Try.prog 3 #[.slice (some a1) 0 c1, .slice (some ⟨b2, o2, none⟩) vs.length c2, .string key, .string val] w (Yes w) := by
  have hB : Below w.heap.size w w := Below.refl _ _
  obtain ⟨wa, hcp1, hs1, hb1⟩ := made_copy0 w a1 c1
  have S1 : Strs wa w.heap.size (.slice (some ⟨w.heap.size, 0, none⟩) 0 0) [] := hs1.mono hB.size
  have hB := hB.trans (hb1.mono hB.size)
  obtain ⟨wb, hcp2, hs2, hb2⟩ := made_copy wa vs b2 o2 c2 (by omega) (Nat.lt_of_lt_of_le hg2 hB.size) (fun i hi => by rw [hB.cell (p := ⟨b2, o2 + i, none⟩) hg2]; exact hk2 i hi)
  have S2 : Strs wb w.heap.size (.slice (some ⟨wa.heap.size, 0, none⟩) vs.length vs.length) vs := hs2.mono hB.size
  have S1 := S1.below hb2
  have hB := hB.trans (hb2.mono hB.size)
  have hmk := make22 0 (by omega)
  simp only [Int.natCast_zero] at hmk
  have hmk2 := make22 vs.length (by omega)
  have HS1 : Hid _ := S1
  have HS2 : Hid _ := S2
  have HB : Hid _ := hB
  have H5 : Hid _ := hb5
  have HP : Hid _ := hp
  clear S1 S2 hB hb5 hp hs1 hb1 hs2 hb2 hk2
  go_enter Try.func3, Try.ntmps3
  go_wp2_with fail
  refine Calls.mono H5.out ?_
  rintro e w1 ⟨b, rfl, hw1, hb⟩
  obtain rfl : w = w1 := hw1.symm
  cases b with
  | false =>
    clear hb hcp1 hcp2
    go_wp2
    go_ret
    exact ⟨rfl, Below.refl _ _⟩
  | true =>
    obtain ⟨hz1, hz2⟩ := HP.out (hb rfl)
    clear hb
    go_wp2_with fail
    refine (addStrings _ w.heap.size _ [] wb HS1.out (by simp)).mono ?_
    rintro e w2 ⟨t1, rfl, hw2⟩
    obtain rfl : wb = w2 := hw2.symm
    clear hcp1 hcp2
    go_wp2_with fail
    refine (addStrings _ w.heap.size _ vs wb HS2.out (by omega)).mono ?_
    rintro e w2 ⟨t2, rfl, hw2⟩
    obtain rfl : wb = w2 := hw2.symm
    go_wp2
    all_goals
      go_ret
      exact ⟨rfl, HB.out⟩

set_option maxRecDepth 100000 in
set_option maxHeartbeats 2000000 in
theorem differ_sn (P : Prop) (b1 o1 c1 : Nat) (ks : List ByteArray) (key val : ByteArray) (w : World) (hg1 : b1 < w.heap.size) (hn1 : ks.length ≤ 4096) (hk1 : ∀ i, i < ks.length → w.cell? ⟨b1, o1 + i, none⟩ = some (.string (ks.getD i ByteArray.empty))) (hd : ¬ ks.length = 0) (hp : P → key.size ≤ 1048576 ∧ val.size ≤ 1048576)
    (hb5 : Calls Try.prog 5 #[.slice (some ⟨b1, o1, none⟩) ks.length c1, .slice none 0 0, .string key, .string val] w (Answers P w)) :
    Calls Try.prog 3 #[.slice (some ⟨b1, o1, none⟩) ks.length c1, .slice none 0 0, .string key, .string val] w (Yes w) := by
  have hB : Below w.heap.size w w := Below.refl _ _
  obtain ⟨wa, hcp1, hs1, hb1⟩ := made_copy w ks b1 o1 c1 (by omega) (Nat.lt_of_lt_of_le hg1 hB.size) (fun i hi => by rw [hB.cell (p := ⟨b1, o1 + i, none⟩) hg1]; exact hk1 i hi)
  have S1 : Strs wa w.heap.size (.slice (some ⟨w.heap.size, 0, none⟩) ks.length ks.length) ks := hs1.mono hB.size
  have hB := hB.trans (hb1.mono hB.size)
  have S2 : Strs wa w.heap.size (.slice none 0 0) [] := World.ownsRow_nil _ _ _ _
  have hmk1 := make22 ks.length (by omega)
  have HS1 : Hid _ := S1
  have HS2 : Hid _ := S2
  have HB : Hid _ := hB
  have H5 : Hid _ := hb5
  have HP : Hid _ := hp
  clear S1 S2 hB hb5 hp hs1 hb1 hk1
  go_enter Try.func3, Try.ntmps3
  go_wp2_with fail
  refine Calls.mono H5.out ?_
  rintro e w1 ⟨b, rfl, hw1, hb⟩
  obtain rfl : w = w1 := hw1.symm
  cases b with
  | false =>
    clear hb hcp1
    go_wp2
    go_ret
    exact ⟨rfl, Below.refl _ _⟩
  | true =>
    obtain ⟨hz1, hz2⟩ := HP.out (hb rfl)
    clear hb
    go_wp2_with fail
    refine (addStrings _ w.heap.size _ ks wa HS1.out (by omega)).mono ?_
    rintro e w2 ⟨t1, rfl, hw2⟩
    obtain rfl : wa = w2 := hw2.symm
    clear hcp1
    go_wp2_with fail
    refine (addStrings _ w.heap.size _ [] wa HS2.out (by simp)).mono ?_
    rintro e w2 ⟨t2, rfl, hw2⟩
    obtain rfl : wa = w2 := hw2.symm
    go_wp2
    all_goals
      go_ret
      exact ⟨rfl, HB.out⟩

set_option maxRecDepth 100000 in
set_option maxHeartbeats 2000000 in
theorem differ_sz (P : Prop) (b1 o1 c1 : Nat) (ks : List ByteArray) (a2 : Addr) (c2 : Nat) (key val : ByteArray) (w : World) (hg1 : b1 < w.heap.size) (hn1 : ks.length ≤ 4096) (hk1 : ∀ i, i < ks.length → w.cell? ⟨b1, o1 + i, none⟩ = some (.string (ks.getD i ByteArray.empty))) (hd : ¬ ks.length = 0) (hp : P → key.size ≤ 1048576 ∧ val.size ≤ 1048576)
    (hb5 : Calls Try.prog 5 #[.slice (some ⟨b1, o1, none⟩) ks.length c1, .slice (some a2) 0 c2, .string key, .string val] w (Answers P w)) :
    Calls Try.prog 3 #[.slice (some ⟨b1, o1, none⟩) ks.length c1, .slice (some a2) 0 c2, .string key, .string val] w (Yes w) := by
  have hB : Below w.heap.size w w := Below.refl _ _
  obtain ⟨wa, hcp1, hs1, hb1⟩ := made_copy w ks b1 o1 c1 (by omega) (Nat.lt_of_lt_of_le hg1 hB.size) (fun i hi => by rw [hB.cell (p := ⟨b1, o1 + i, none⟩) hg1]; exact hk1 i hi)
  have S1 : Strs wa w.heap.size (.slice (some ⟨w.heap.size, 0, none⟩) ks.length ks.length) ks := hs1.mono hB.size
  have hB := hB.trans (hb1.mono hB.size)
  obtain ⟨wb, hcp2, hs2, hb2⟩ := made_copy0 wa a2 c2
  have S2 : Strs wb w.heap.size (.slice (some ⟨wa.heap.size, 0, none⟩) 0 0) [] := hs2.mono hB.size
  have S1 := S1.below hb2
  have hB := hB.trans (hb2.mono hB.size)
  have hmk := make22 0 (by omega)
  simp only [Int.natCast_zero] at hmk
  have hmk1 := make22 ks.length (by omega)
  have HS1 : Hid _ := S1
  have HS2 : Hid _ := S2
  have HB : Hid _ := hB
  have H5 : Hid _ := hb5
  have HP : Hid _ := hp
  clear S1 S2 hB hb5 hp hs1 hb1 hk1 hs2 hb2
  go_enter Try.func3, Try.ntmps3
  go_wp2_with fail
  refine Calls.mono H5.out ?_
  rintro e w1 ⟨b, rfl, hw1, hb⟩
  obtain rfl : w = w1 := hw1.symm
  cases b with
  | false =>
    clear hb hcp1 hcp2
    go_wp2
    go_ret
    exact ⟨rfl, Below.refl _ _⟩
  | true =>
    obtain ⟨hz1, hz2⟩ := HP.out (hb rfl)
    clear hb
    go_wp2_with fail
    refine (addStrings _ w.heap.size _ ks wb HS1.out (by omega)).mono ?_
    rintro e w2 ⟨t1, rfl, hw2⟩
    obtain rfl : wb = w2 := hw2.symm
    clear hcp1 hcp2
    go_wp2_with fail
    refine (addStrings _ w.heap.size _ [] wb HS2.out (by simp)).mono ?_
    rintro e w2 ⟨t2, rfl, hw2⟩
    obtain rfl : wb = w2 := hw2.symm
    go_wp2
    all_goals
      go_ret
      exact ⟨rfl, HB.out⟩

set_option maxRecDepth 100000 in
set_option maxHeartbeats 2000000 in
theorem differ_ss (P : Prop) (b1 o1 c1 : Nat) (ks : List ByteArray) (b2 o2 c2 : Nat) (vs : List ByteArray) (key val : ByteArray) (w : World) (hg1 : b1 < w.heap.size) (hn1 : ks.length ≤ 4096) (hk1 : ∀ i, i < ks.length → w.cell? ⟨b1, o1 + i, none⟩ = some (.string (ks.getD i ByteArray.empty))) (hg2 : b2 < w.heap.size) (hn2 : vs.length ≤ 4096) (hk2 : ∀ i, i < vs.length → w.cell? ⟨b2, o2 + i, none⟩ = some (.string (vs.getD i ByteArray.empty))) (hd : ¬ ks.length = vs.length) (hp : P → key.size ≤ 1048576 ∧ val.size ≤ 1048576)
    (hb5 : Calls Try.prog 5 #[.slice (some ⟨b1, o1, none⟩) ks.length c1, .slice (some ⟨b2, o2, none⟩) vs.length c2, .string key, .string val] w (Answers P w)) :
    Calls Try.prog 3 #[.slice (some ⟨b1, o1, none⟩) ks.length c1, .slice (some ⟨b2, o2, none⟩) vs.length c2, .string key, .string val] w (Yes w) := by
  have hB : Below w.heap.size w w := Below.refl _ _
  obtain ⟨wa, hcp1, hs1, hb1⟩ := made_copy w ks b1 o1 c1 (by omega) (Nat.lt_of_lt_of_le hg1 hB.size) (fun i hi => by rw [hB.cell (p := ⟨b1, o1 + i, none⟩) hg1]; exact hk1 i hi)
  have S1 : Strs wa w.heap.size (.slice (some ⟨w.heap.size, 0, none⟩) ks.length ks.length) ks := hs1.mono hB.size
  have hB := hB.trans (hb1.mono hB.size)
  obtain ⟨wb, hcp2, hs2, hb2⟩ := made_copy wa vs b2 o2 c2 (by omega) (Nat.lt_of_lt_of_le hg2 hB.size) (fun i hi => by rw [hB.cell (p := ⟨b2, o2 + i, none⟩) hg2]; exact hk2 i hi)
  have S2 : Strs wb w.heap.size (.slice (some ⟨wa.heap.size, 0, none⟩) vs.length vs.length) vs := hs2.mono hB.size
  have S1 := S1.below hb2
  have hB := hB.trans (hb2.mono hB.size)
  have hmk1 := make22 ks.length (by omega)
  have hmk2 := make22 vs.length (by omega)
  have HS1 : Hid _ := S1
  have HS2 : Hid _ := S2
  have HB : Hid _ := hB
  have H5 : Hid _ := hb5
  have HP : Hid _ := hp
  clear S1 S2 hB hb5 hp hs1 hb1 hk1 hs2 hb2 hk2
  go_enter Try.func3, Try.ntmps3
  go_wp2_with fail
  refine Calls.mono H5.out ?_
  rintro e w1 ⟨b, rfl, hw1, hb⟩
  obtain rfl : w = w1 := hw1.symm
  cases b with
  | false =>
    clear hb hcp1 hcp2
    go_wp2
    go_ret
    exact ⟨rfl, Below.refl _ _⟩
  | true =>
    obtain ⟨hz1, hz2⟩ := HP.out (hb rfl)
    clear hb
    go_wp2_with fail
    refine (addStrings _ w.heap.size _ ks wb HS1.out (by omega)).mono ?_
    rintro e w2 ⟨t1, rfl, hw2⟩
    obtain rfl : wb = w2 := hw2.symm
    clear hcp1 hcp2
    go_wp2_with fail
    refine (addStrings _ w.heap.size _ vs wb HS2.out (by omega)).mono ?_
    rintro e w2 ⟨t2, rfl, hw2⟩
    obtain rfl : wb = w2 := hw2.symm
    go_wp2
    all_goals
      go_ret
      exact ⟨rfl, HB.out⟩

set_option maxRecDepth 100000 in
set_option maxHeartbeats 2000000 in
theorem zero_nn (P : Prop)  (key val : ByteArray) (w : World)   (hp : P → key.size ≤ 1048576 ∧ val.size ≤ 1048576)
    (hb5 : Calls Try.prog 5 #[.slice none 0 0, .slice none 0 0, .string key, .string val] w (Answers P w)) :
    Calls Try.prog 3 #[.slice none 0 0, .slice none 0 0, .string key, .string val] w (Yes w) := by
  have hB : Below w.heap.size w w := Below.refl _ _
  have S1 : Strs w w.heap.size (.slice none 0 0) [] := World.ownsRow_nil _ _ _ _
  have S2 : Strs w w.heap.size (.slice none 0 0) [] := World.ownsRow_nil _ _ _ _
  have hmk := make22 0 (by omega)
  simp only [Int.natCast_zero] at hmk
  have HS1 : Hid _ := S1
  have HS2 : Hid _ := S2
  have HB : Hid _ := hB
  have H5 : Hid _ := hb5
  have HP : Hid _ := hp
  clear S1 S2 hB hb5 hp 
  go_enter Try.func3, Try.ntmps3
  go_wp2_with fail
  refine Calls.mono H5.out ?_
  rintro e w1 ⟨b, rfl, hw1, hb⟩
  obtain rfl : w = w1 := hw1.symm
  cases b with
  | false =>
    clear hb 
    go_wp2
    go_ret
    exact ⟨rfl, Below.refl _ _⟩
  | true =>
    obtain ⟨hz1, hz2⟩ := HP.out (hb rfl)
    clear hb
    go_wp2_with fail
    refine (addStrings _ w.heap.size _ [] w HS1.out (by simp)).mono ?_
    rintro e w2 ⟨t1, rfl, hw2⟩
    obtain rfl : w = w2 := hw2.symm
    skip
    go_wp2_with fail
    refine (addStrings _ w.heap.size _ [] w HS2.out (by simp)).mono ?_
    rintro e w2 ⟨t2, rfl, hw2⟩
    obtain rfl : w = w2 := hw2.symm
    by_cases ht : 1048576 < t2
    · go_wp2
      go_ret
      exact ⟨rfl, HB.out⟩
    go_wp2_with fail
    refine (zzbuild w.heap.size _ _ [] w (by simp) HS1.out HS2.out).mono ?_
    rintro e w2 ⟨m, rfl, hm, hbm⟩
    obtain ⟨g, cap, rfl, hgb, hgl, _⟩ := hm.cases
    have HM : Hid (Mems (w2.alloc (.cells (madeCells #[.string ⟨#[]⟩] 0) 9)) w.heap.size (.slice (some ⟨g, 0, none⟩) 0 cap) []) := (hm.mono HB.out.size).below ((Below.refl _ _).alloc (Nat.le_refl _) _)
    have HK : Hid (Strs (w2.alloc (.cells (madeCells #[.string ⟨#[]⟩] 0) 9)) w.heap.size (.slice none 0 0) []) := Strs.below (Strs.below HS1.out hbm) ((Below.refl _ _).alloc (Nat.le_refl _) _)
    have HB2 : Hid (Below w.heap.size w (w2.alloc (.cells (madeCells #[.string ⟨#[]⟩] 0) 9))) := (HB.out.trans (hbm.mono HB.out.size)).alloc (Nat.le_trans HB.out.size hbm.size) _
    have hgw : w.heap.size ≤ g := Nat.le_trans HB.out.size hgb
    clear hm hbm HS1 HS2 HB H5 HP
    simp only [List.length_nil]
    go_wp2_with fail
    refine wp_loop_rounds 1 ?_
    rw [rounds_succ]
    go_wp2_with fail
    refine (zzFirst w.heap.size _ [] key _ HK.out (by simp)).mono ?_
    rintro e w5 ⟨rfl, hw5⟩
    subst hw5
    rw [show first [] key = -1 from rfl]
    go_wp2_with fail
    refine (zzset w.heap.size _ [] key val _ HM.out (by simp) HB2.out.size).mono ?_
    rintro e w6 ⟨m2, rfl, hm2, hgr⟩
    rw [show setM [] key val = [(key, val)] from rfl] at hm2
    obtain ⟨g2, cap2, rfl, _⟩ := hm2.cases
    have HM6 : Hid (Mems w6 w.heap.size (.slice (some ⟨g2, 0, none⟩) 1 cap2) [(key, val)]) := hm2
    have HB6 : Hid (Below w.heap.size w w6) := HB2.out.grown hgr HB2.out.size (fun k hk => by simp [Value.ownBlock] at hk; omega)
    clear hm2 hgr HM HB2 HK
    simp only [List.length_cons, List.length_nil, Nat.zero_add]
    go_wp2_with fail
    refine (zzget w.heap.size _ [(key, val)] key w6 HM6.out (by simp)).mono ?_
    rintro e w7 ⟨hr, hb7⟩
    have hkf : kf [(key, val)] key = 0 := kf_spec (by simp) rfl (fun i hi => by omega)
    rw [hkf] at hr
    subst hr
    have hv0 : valAt [(key, val)] 0 = val := rfl
    rw [hv0]
    clear hkf hv0
    have HM7 : Hid (Mems w7 w.heap.size (.slice (some ⟨g2, 0, none⟩) 1 cap2) [(key, val)]) := HM6.out.below hb7
    have HB7 : Hid (Below w.heap.size w w7) := HB6.out.trans (hb7.mono HB6.out.size)
    clear hb7 HM6 HB6
    go_wp2_with fail
    refine (zzkeys w.heap.size _ [(key, val)] w7 HM7.out (by simp)).mono ?_
    rintro e w8 ⟨hr, hs8, hb8⟩
    simp only [List.length_map, List.length_cons, List.length_nil, Nat.zero_add] at hr hs8
    subst hr
    have HM8 : Hid (Mems w8 w.heap.size (.slice (some ⟨g2, 0, none⟩) 1 cap2) [(key, val)]) := HM7.out.below hb8
    have HB8 : Hid (Below w.heap.size w w8) := HB7.out.trans (hb8.mono HB7.out.size)
    have HS8 : Hid (Strs w8 w7.heap.size (.slice (some ⟨w7.heap.size, 0, none⟩) 1 1) [key]) := hs8
    clear hb8 hs8 HM7 HB7
    go_wp2_with fail
    refine (zzvals w.heap.size _ [(key, val)] w8 HM8.out (by simp)).mono ?_
    rintro e w9 ⟨hr, hs9, hb9⟩
    simp only [List.length_map, List.length_cons, List.length_nil, Nat.zero_add] at hr hs9
    subst hr
    have HM9 : Hid (Mems w9 w.heap.size (.slice (some ⟨g2, 0, none⟩) 1 cap2) [(key, val)]) := HM8.out.below hb9
    have HB9 : Hid (Below w.heap.size w w9) := HB8.out.trans (hb9.mono HB8.out.size)
    have HS8' : Hid (Strs w9 w7.heap.size (.slice (some ⟨w7.heap.size, 0, none⟩) 1 1) [key]) := HS8.out.below hb9
    have HS9 : Hid (Strs w9 w8.heap.size (.slice (some ⟨w8.heap.size, 0, none⟩) 1 1) [val]) := hs9
    clear hb9 hs9 HM8 HB8 HS8
    go_wp2_with fail
    refine (zztags w.heap.size _ [(key, val)] w9 HM9.out (by simp)).mono ?_
    rintro e w10 ⟨hr, hs10, hb10⟩
    simp only [List.length_map, List.length_cons, List.length_nil, Nat.zero_add] at hr hs10
    subst hr
    have d1 : w10.cell? ⟨w7.heap.size, 0, none⟩ = some (.string key) := (HS8'.out.below hb10).cellAt 0 (by simp)
    have d2 : w10.cell? ⟨w8.heap.size, 0, none⟩ = some (.string val) := (HS9.out.below hb10).cellAt 0 (by simp)
    have d3 : w10.cell? ⟨w9.heap.size, 0, none⟩ = some (.string ⟨#[]⟩) := Strs.cellAt (ss := [ByteArray.empty]) hs10 0 (by simp)
    have HB10 : Hid (Below w.heap.size w w10) := HB9.out.trans (hb10.mono HB9.out.size)
    clear hb10 hs10 HM9 HB9 HS9 HS8'
    go_wp2_with fail
    refine wp_loop_rounds 1 ?_
    rw [rounds_succ]
    go_wp2
    go_ret
    exact ⟨rfl, HB10.out⟩

set_option maxRecDepth 100000 in
set_option maxHeartbeats 2000000 in
theorem zero_nz (P : Prop) (a2 : Addr) (c2 : Nat) (key val : ByteArray) (w : World)   (hp : P → key.size ≤ 1048576 ∧ val.size ≤ 1048576)
    (hb5 : Calls Try.prog 5 #[.slice none 0 0, .slice (some a2) 0 c2, .string key, .string val] w (Answers P w)) :
    Calls Try.prog 3 #[.slice none 0 0, .slice (some a2) 0 c2, .string key, .string val] w (Yes w) := by
  have hB : Below w.heap.size w w := Below.refl _ _
  have S1 : Strs w w.heap.size (.slice none 0 0) [] := World.ownsRow_nil _ _ _ _
  obtain ⟨wa, hcp2, hs2, hb2⟩ := made_copy0 w a2 c2
  have S2 : Strs wa w.heap.size (.slice (some ⟨w.heap.size, 0, none⟩) 0 0) [] := hs2.mono hB.size
  have S1 := S1.below hb2
  have hB := hB.trans (hb2.mono hB.size)
  have hmk := make22 0 (by omega)
  simp only [Int.natCast_zero] at hmk
  have HS1 : Hid _ := S1
  have HS2 : Hid _ := S2
  have HB : Hid _ := hB
  have H5 : Hid _ := hb5
  have HP : Hid _ := hp
  clear S1 S2 hB hb5 hp hs2 hb2
  go_enter Try.func3, Try.ntmps3
  go_wp2_with fail
  refine Calls.mono H5.out ?_
  rintro e w1 ⟨b, rfl, hw1, hb⟩
  obtain rfl : w = w1 := hw1.symm
  cases b with
  | false =>
    clear hb hcp2
    go_wp2
    go_ret
    exact ⟨rfl, Below.refl _ _⟩
  | true =>
    obtain ⟨hz1, hz2⟩ := HP.out (hb rfl)
    clear hb
    go_wp2_with fail
    refine (addStrings _ w.heap.size _ [] wa HS1.out (by simp)).mono ?_
    rintro e w2 ⟨t1, rfl, hw2⟩
    obtain rfl : wa = w2 := hw2.symm
    clear hcp2
    go_wp2_with fail
    refine (addStrings _ w.heap.size _ [] wa HS2.out (by simp)).mono ?_
    rintro e w2 ⟨t2, rfl, hw2⟩
    obtain rfl : wa = w2 := hw2.symm
    by_cases ht : 1048576 < t2
    · go_wp2
      go_ret
      exact ⟨rfl, HB.out⟩
    go_wp2_with fail
    refine (zzbuild w.heap.size _ _ [] wa (by simp) HS1.out HS2.out).mono ?_
    rintro e w2 ⟨m, rfl, hm, hbm⟩
    obtain ⟨g, cap, rfl, hgb, hgl, _⟩ := hm.cases
    have HM : Hid (Mems (w2.alloc (.cells (madeCells #[.string ⟨#[]⟩] 0) 9)) w.heap.size (.slice (some ⟨g, 0, none⟩) 0 cap) []) := (hm.mono HB.out.size).below ((Below.refl _ _).alloc (Nat.le_refl _) _)
    have HK : Hid (Strs (w2.alloc (.cells (madeCells #[.string ⟨#[]⟩] 0) 9)) w.heap.size (.slice none 0 0) []) := Strs.below (Strs.below HS1.out hbm) ((Below.refl _ _).alloc (Nat.le_refl _) _)
    have HB2 : Hid (Below w.heap.size w (w2.alloc (.cells (madeCells #[.string ⟨#[]⟩] 0) 9))) := (HB.out.trans (hbm.mono HB.out.size)).alloc (Nat.le_trans HB.out.size hbm.size) _
    have hgw : w.heap.size ≤ g := Nat.le_trans HB.out.size hgb
    clear hm hbm HS1 HS2 HB H5 HP
    simp only [List.length_nil]
    go_wp2_with fail
    refine wp_loop_rounds 1 ?_
    rw [rounds_succ]
    go_wp2_with fail
    refine (zzFirst w.heap.size _ [] key _ HK.out (by simp)).mono ?_
    rintro e w5 ⟨rfl, hw5⟩
    subst hw5
    rw [show first [] key = -1 from rfl]
    go_wp2_with fail
    refine (zzset w.heap.size _ [] key val _ HM.out (by simp) HB2.out.size).mono ?_
    rintro e w6 ⟨m2, rfl, hm2, hgr⟩
    rw [show setM [] key val = [(key, val)] from rfl] at hm2
    obtain ⟨g2, cap2, rfl, _⟩ := hm2.cases
    have HM6 : Hid (Mems w6 w.heap.size (.slice (some ⟨g2, 0, none⟩) 1 cap2) [(key, val)]) := hm2
    have HB6 : Hid (Below w.heap.size w w6) := HB2.out.grown hgr HB2.out.size (fun k hk => by simp [Value.ownBlock] at hk; omega)
    clear hm2 hgr HM HB2 HK
    simp only [List.length_cons, List.length_nil, Nat.zero_add]
    go_wp2_with fail
    refine (zzget w.heap.size _ [(key, val)] key w6 HM6.out (by simp)).mono ?_
    rintro e w7 ⟨hr, hb7⟩
    have hkf : kf [(key, val)] key = 0 := kf_spec (by simp) rfl (fun i hi => by omega)
    rw [hkf] at hr
    subst hr
    have hv0 : valAt [(key, val)] 0 = val := rfl
    rw [hv0]
    clear hkf hv0
    have HM7 : Hid (Mems w7 w.heap.size (.slice (some ⟨g2, 0, none⟩) 1 cap2) [(key, val)]) := HM6.out.below hb7
    have HB7 : Hid (Below w.heap.size w w7) := HB6.out.trans (hb7.mono HB6.out.size)
    clear hb7 HM6 HB6
    go_wp2_with fail
    refine (zzkeys w.heap.size _ [(key, val)] w7 HM7.out (by simp)).mono ?_
    rintro e w8 ⟨hr, hs8, hb8⟩
    simp only [List.length_map, List.length_cons, List.length_nil, Nat.zero_add] at hr hs8
    subst hr
    have HM8 : Hid (Mems w8 w.heap.size (.slice (some ⟨g2, 0, none⟩) 1 cap2) [(key, val)]) := HM7.out.below hb8
    have HB8 : Hid (Below w.heap.size w w8) := HB7.out.trans (hb8.mono HB7.out.size)
    have HS8 : Hid (Strs w8 w7.heap.size (.slice (some ⟨w7.heap.size, 0, none⟩) 1 1) [key]) := hs8
    clear hb8 hs8 HM7 HB7
    go_wp2_with fail
    refine (zzvals w.heap.size _ [(key, val)] w8 HM8.out (by simp)).mono ?_
    rintro e w9 ⟨hr, hs9, hb9⟩
    simp only [List.length_map, List.length_cons, List.length_nil, Nat.zero_add] at hr hs9
    subst hr
    have HM9 : Hid (Mems w9 w.heap.size (.slice (some ⟨g2, 0, none⟩) 1 cap2) [(key, val)]) := HM8.out.below hb9
    have HB9 : Hid (Below w.heap.size w w9) := HB8.out.trans (hb9.mono HB8.out.size)
    have HS8' : Hid (Strs w9 w7.heap.size (.slice (some ⟨w7.heap.size, 0, none⟩) 1 1) [key]) := HS8.out.below hb9
    have HS9 : Hid (Strs w9 w8.heap.size (.slice (some ⟨w8.heap.size, 0, none⟩) 1 1) [val]) := hs9
    clear hb9 hs9 HM8 HB8 HS8
    go_wp2_with fail
    refine (zztags w.heap.size _ [(key, val)] w9 HM9.out (by simp)).mono ?_
    rintro e w10 ⟨hr, hs10, hb10⟩
    simp only [List.length_map, List.length_cons, List.length_nil, Nat.zero_add] at hr hs10
    subst hr
    have d1 : w10.cell? ⟨w7.heap.size, 0, none⟩ = some (.string key) := (HS8'.out.below hb10).cellAt 0 (by simp)
    have d2 : w10.cell? ⟨w8.heap.size, 0, none⟩ = some (.string val) := (HS9.out.below hb10).cellAt 0 (by simp)
    have d3 : w10.cell? ⟨w9.heap.size, 0, none⟩ = some (.string ⟨#[]⟩) := Strs.cellAt (ss := [ByteArray.empty]) hs10 0 (by simp)
    have HB10 : Hid (Below w.heap.size w w10) := HB9.out.trans (hb10.mono HB9.out.size)
    clear hb10 hs10 HM9 HB9 HS9 HS8'
    go_wp2_with fail
    refine wp_loop_rounds 1 ?_
    rw [rounds_succ]
    go_wp2
    go_ret
    exact ⟨rfl, HB10.out⟩

set_option maxRecDepth 100000 in
set_option maxHeartbeats 2000000 in
theorem zero_zn (P : Prop) (a1 : Addr) (c1 : Nat) (key val : ByteArray) (w : World)   (hp : P → key.size ≤ 1048576 ∧ val.size ≤ 1048576)
    (hb5 : Calls Try.prog 5 #[.slice (some a1) 0 c1, .slice none 0 0, .string key, .string val] w (Answers P w)) :
    Calls Try.prog 3 #[.slice (some a1) 0 c1, .slice none 0 0, .string key, .string val] w (Yes w) := by
  have hB : Below w.heap.size w w := Below.refl _ _
  obtain ⟨wa, hcp1, hs1, hb1⟩ := made_copy0 w a1 c1
  have S1 : Strs wa w.heap.size (.slice (some ⟨w.heap.size, 0, none⟩) 0 0) [] := hs1.mono hB.size
  have hB := hB.trans (hb1.mono hB.size)
  have S2 : Strs wa w.heap.size (.slice none 0 0) [] := World.ownsRow_nil _ _ _ _
  have hmk := make22 0 (by omega)
  simp only [Int.natCast_zero] at hmk
  have HS1 : Hid _ := S1
  have HS2 : Hid _ := S2
  have HB : Hid _ := hB
  have H5 : Hid _ := hb5
  have HP : Hid _ := hp
  clear S1 S2 hB hb5 hp hs1 hb1
  go_enter Try.func3, Try.ntmps3
  go_wp2_with fail
  refine Calls.mono H5.out ?_
  rintro e w1 ⟨b, rfl, hw1, hb⟩
  obtain rfl : w = w1 := hw1.symm
  cases b with
  | false =>
    clear hb hcp1
    go_wp2
    go_ret
    exact ⟨rfl, Below.refl _ _⟩
  | true =>
    obtain ⟨hz1, hz2⟩ := HP.out (hb rfl)
    clear hb
    go_wp2_with fail
    refine (addStrings _ w.heap.size _ [] wa HS1.out (by simp)).mono ?_
    rintro e w2 ⟨t1, rfl, hw2⟩
    obtain rfl : wa = w2 := hw2.symm
    clear hcp1
    go_wp2_with fail
    refine (addStrings _ w.heap.size _ [] wa HS2.out (by simp)).mono ?_
    rintro e w2 ⟨t2, rfl, hw2⟩
    obtain rfl : wa = w2 := hw2.symm
    by_cases ht : 1048576 < t2
    · go_wp2
      go_ret
      exact ⟨rfl, HB.out⟩
    go_wp2_with fail
    refine (zzbuild w.heap.size _ _ [] wa (by simp) HS1.out HS2.out).mono ?_
    rintro e w2 ⟨m, rfl, hm, hbm⟩
    obtain ⟨g, cap, rfl, hgb, hgl, _⟩ := hm.cases
    have HM : Hid (Mems (w2.alloc (.cells (madeCells #[.string ⟨#[]⟩] 0) 9)) w.heap.size (.slice (some ⟨g, 0, none⟩) 0 cap) []) := (hm.mono HB.out.size).below ((Below.refl _ _).alloc (Nat.le_refl _) _)
    have HK : Hid (Strs (w2.alloc (.cells (madeCells #[.string ⟨#[]⟩] 0) 9)) w.heap.size (.slice (some ⟨w.heap.size, 0, none⟩) 0 0) []) := Strs.below (Strs.below HS1.out hbm) ((Below.refl _ _).alloc (Nat.le_refl _) _)
    have HB2 : Hid (Below w.heap.size w (w2.alloc (.cells (madeCells #[.string ⟨#[]⟩] 0) 9))) := (HB.out.trans (hbm.mono HB.out.size)).alloc (Nat.le_trans HB.out.size hbm.size) _
    have hgw : w.heap.size ≤ g := Nat.le_trans HB.out.size hgb
    clear hm hbm HS1 HS2 HB H5 HP
    simp only [List.length_nil]
    go_wp2_with fail
    refine wp_loop_rounds 1 ?_
    rw [rounds_succ]
    go_wp2_with fail
    refine (zzFirst w.heap.size _ [] key _ HK.out (by simp)).mono ?_
    rintro e w5 ⟨rfl, hw5⟩
    subst hw5
    rw [show first [] key = -1 from rfl]
    go_wp2_with fail
    refine (zzset w.heap.size _ [] key val _ HM.out (by simp) HB2.out.size).mono ?_
    rintro e w6 ⟨m2, rfl, hm2, hgr⟩
    rw [show setM [] key val = [(key, val)] from rfl] at hm2
    obtain ⟨g2, cap2, rfl, _⟩ := hm2.cases
    have HM6 : Hid (Mems w6 w.heap.size (.slice (some ⟨g2, 0, none⟩) 1 cap2) [(key, val)]) := hm2
    have HB6 : Hid (Below w.heap.size w w6) := HB2.out.grown hgr HB2.out.size (fun k hk => by simp [Value.ownBlock] at hk; omega)
    clear hm2 hgr HM HB2 HK
    simp only [List.length_cons, List.length_nil, Nat.zero_add]
    go_wp2_with fail
    refine (zzget w.heap.size _ [(key, val)] key w6 HM6.out (by simp)).mono ?_
    rintro e w7 ⟨hr, hb7⟩
    have hkf : kf [(key, val)] key = 0 := kf_spec (by simp) rfl (fun i hi => by omega)
    rw [hkf] at hr
    subst hr
    have hv0 : valAt [(key, val)] 0 = val := rfl
    rw [hv0]
    clear hkf hv0
    have HM7 : Hid (Mems w7 w.heap.size (.slice (some ⟨g2, 0, none⟩) 1 cap2) [(key, val)]) := HM6.out.below hb7
    have HB7 : Hid (Below w.heap.size w w7) := HB6.out.trans (hb7.mono HB6.out.size)
    clear hb7 HM6 HB6
    go_wp2_with fail
    refine (zzkeys w.heap.size _ [(key, val)] w7 HM7.out (by simp)).mono ?_
    rintro e w8 ⟨hr, hs8, hb8⟩
    simp only [List.length_map, List.length_cons, List.length_nil, Nat.zero_add] at hr hs8
    subst hr
    have HM8 : Hid (Mems w8 w.heap.size (.slice (some ⟨g2, 0, none⟩) 1 cap2) [(key, val)]) := HM7.out.below hb8
    have HB8 : Hid (Below w.heap.size w w8) := HB7.out.trans (hb8.mono HB7.out.size)
    have HS8 : Hid (Strs w8 w7.heap.size (.slice (some ⟨w7.heap.size, 0, none⟩) 1 1) [key]) := hs8
    clear hb8 hs8 HM7 HB7
    go_wp2_with fail
    refine (zzvals w.heap.size _ [(key, val)] w8 HM8.out (by simp)).mono ?_
    rintro e w9 ⟨hr, hs9, hb9⟩
    simp only [List.length_map, List.length_cons, List.length_nil, Nat.zero_add] at hr hs9
    subst hr
    have HM9 : Hid (Mems w9 w.heap.size (.slice (some ⟨g2, 0, none⟩) 1 cap2) [(key, val)]) := HM8.out.below hb9
    have HB9 : Hid (Below w.heap.size w w9) := HB8.out.trans (hb9.mono HB8.out.size)
    have HS8' : Hid (Strs w9 w7.heap.size (.slice (some ⟨w7.heap.size, 0, none⟩) 1 1) [key]) := HS8.out.below hb9
    have HS9 : Hid (Strs w9 w8.heap.size (.slice (some ⟨w8.heap.size, 0, none⟩) 1 1) [val]) := hs9
    clear hb9 hs9 HM8 HB8 HS8
    go_wp2_with fail
    refine (zztags w.heap.size _ [(key, val)] w9 HM9.out (by simp)).mono ?_
    rintro e w10 ⟨hr, hs10, hb10⟩
    simp only [List.length_map, List.length_cons, List.length_nil, Nat.zero_add] at hr hs10
    subst hr
    have d1 : w10.cell? ⟨w7.heap.size, 0, none⟩ = some (.string key) := (HS8'.out.below hb10).cellAt 0 (by simp)
    have d2 : w10.cell? ⟨w8.heap.size, 0, none⟩ = some (.string val) := (HS9.out.below hb10).cellAt 0 (by simp)
    have d3 : w10.cell? ⟨w9.heap.size, 0, none⟩ = some (.string ⟨#[]⟩) := Strs.cellAt (ss := [ByteArray.empty]) hs10 0 (by simp)
    have HB10 : Hid (Below w.heap.size w w10) := HB9.out.trans (hb10.mono HB9.out.size)
    clear hb10 hs10 HM9 HB9 HS9 HS8'
    go_wp2_with fail
    refine wp_loop_rounds 1 ?_
    rw [rounds_succ]
    go_wp2
    go_ret
    exact ⟨rfl, HB10.out⟩

set_option maxRecDepth 100000 in
set_option maxHeartbeats 2000000 in
theorem zero_zz (P : Prop) (a1 : Addr) (c1 : Nat) (a2 : Addr) (c2 : Nat) (key val : ByteArray) (w : World)   (hp : P → key.size ≤ 1048576 ∧ val.size ≤ 1048576)
    (hb5 : Calls Try.prog 5 #[.slice (some a1) 0 c1, .slice (some a2) 0 c2, .string key, .string val] w (Answers P w)) :
    Calls Try.prog 3 #[.slice (some a1) 0 c1, .slice (some a2) 0 c2, .string key, .string val] w (Yes w) := by
  have hB : Below w.heap.size w w := Below.refl _ _
  obtain ⟨wa, hcp1, hs1, hb1⟩ := made_copy0 w a1 c1
  have S1 : Strs wa w.heap.size (.slice (some ⟨w.heap.size, 0, none⟩) 0 0) [] := hs1.mono hB.size
  have hB := hB.trans (hb1.mono hB.size)
  obtain ⟨wb, hcp2, hs2, hb2⟩ := made_copy0 wa a2 c2
  have S2 : Strs wb w.heap.size (.slice (some ⟨wa.heap.size, 0, none⟩) 0 0) [] := hs2.mono hB.size
  have S1 := S1.below hb2
  have hB := hB.trans (hb2.mono hB.size)
  have hmk := make22 0 (by omega)
  simp only [Int.natCast_zero] at hmk
  have HS1 : Hid _ := S1
  have HS2 : Hid _ := S2
  have HB : Hid _ := hB
  have H5 : Hid _ := hb5
  have HP : Hid _ := hp
  clear S1 S2 hB hb5 hp hs1 hb1 hs2 hb2
  go_enter Try.func3, Try.ntmps3
  go_wp2_with fail
  refine Calls.mono H5.out ?_
  rintro e w1 ⟨b, rfl, hw1, hb⟩
  obtain rfl : w = w1 := hw1.symm
  cases b with
  | false =>
    clear hb hcp1 hcp2
    go_wp2
    go_ret
    exact ⟨rfl, Below.refl _ _⟩
  | true =>
    obtain ⟨hz1, hz2⟩ := HP.out (hb rfl)
    clear hb
    go_wp2_with fail
    refine (addStrings _ w.heap.size _ [] wb HS1.out (by simp)).mono ?_
    rintro e w2 ⟨t1, rfl, hw2⟩
    obtain rfl : wb = w2 := hw2.symm
    clear hcp1 hcp2
    go_wp2_with fail
    refine (addStrings _ w.heap.size _ [] wb HS2.out (by simp)).mono ?_
    rintro e w2 ⟨t2, rfl, hw2⟩
    obtain rfl : wb = w2 := hw2.symm
    by_cases ht : 1048576 < t2
    · go_wp2
      go_ret
      exact ⟨rfl, HB.out⟩
    go_wp2_with fail
    refine (zzbuild w.heap.size _ _ [] wb (by simp) HS1.out HS2.out).mono ?_
    rintro e w2 ⟨m, rfl, hm, hbm⟩
    obtain ⟨g, cap, rfl, hgb, hgl, _⟩ := hm.cases
    have HM : Hid (Mems (w2.alloc (.cells (madeCells #[.string ⟨#[]⟩] 0) 9)) w.heap.size (.slice (some ⟨g, 0, none⟩) 0 cap) []) := (hm.mono HB.out.size).below ((Below.refl _ _).alloc (Nat.le_refl _) _)
    have HK : Hid (Strs (w2.alloc (.cells (madeCells #[.string ⟨#[]⟩] 0) 9)) w.heap.size (.slice (some ⟨w.heap.size, 0, none⟩) 0 0) []) := Strs.below (Strs.below HS1.out hbm) ((Below.refl _ _).alloc (Nat.le_refl _) _)
    have HB2 : Hid (Below w.heap.size w (w2.alloc (.cells (madeCells #[.string ⟨#[]⟩] 0) 9))) := (HB.out.trans (hbm.mono HB.out.size)).alloc (Nat.le_trans HB.out.size hbm.size) _
    have hgw : w.heap.size ≤ g := Nat.le_trans HB.out.size hgb
    clear hm hbm HS1 HS2 HB H5 HP
    simp only [List.length_nil]
    go_wp2_with fail
    refine wp_loop_rounds 1 ?_
    rw [rounds_succ]
    go_wp2_with fail
    refine (zzFirst w.heap.size _ [] key _ HK.out (by simp)).mono ?_
    rintro e w5 ⟨rfl, hw5⟩
    subst hw5
    rw [show first [] key = -1 from rfl]
    go_wp2_with fail
    refine (zzset w.heap.size _ [] key val _ HM.out (by simp) HB2.out.size).mono ?_
    rintro e w6 ⟨m2, rfl, hm2, hgr⟩
    rw [show setM [] key val = [(key, val)] from rfl] at hm2
    obtain ⟨g2, cap2, rfl, _⟩ := hm2.cases
    have HM6 : Hid (Mems w6 w.heap.size (.slice (some ⟨g2, 0, none⟩) 1 cap2) [(key, val)]) := hm2
    have HB6 : Hid (Below w.heap.size w w6) := HB2.out.grown hgr HB2.out.size (fun k hk => by simp [Value.ownBlock] at hk; omega)
    clear hm2 hgr HM HB2 HK
    simp only [List.length_cons, List.length_nil, Nat.zero_add]
    go_wp2_with fail
    refine (zzget w.heap.size _ [(key, val)] key w6 HM6.out (by simp)).mono ?_
    rintro e w7 ⟨hr, hb7⟩
    have hkf : kf [(key, val)] key = 0 := kf_spec (by simp) rfl (fun i hi => by omega)
    rw [hkf] at hr
    subst hr
    have hv0 : valAt [(key, val)] 0 = val := rfl
    rw [hv0]
    clear hkf hv0
    have HM7 : Hid (Mems w7 w.heap.size (.slice (some ⟨g2, 0, none⟩) 1 cap2) [(key, val)]) := HM6.out.below hb7
    have HB7 : Hid (Below w.heap.size w w7) := HB6.out.trans (hb7.mono HB6.out.size)
    clear hb7 HM6 HB6
    go_wp2_with fail
    refine (zzkeys w.heap.size _ [(key, val)] w7 HM7.out (by simp)).mono ?_
    rintro e w8 ⟨hr, hs8, hb8⟩
    simp only [List.length_map, List.length_cons, List.length_nil, Nat.zero_add] at hr hs8
    subst hr
    have HM8 : Hid (Mems w8 w.heap.size (.slice (some ⟨g2, 0, none⟩) 1 cap2) [(key, val)]) := HM7.out.below hb8
    have HB8 : Hid (Below w.heap.size w w8) := HB7.out.trans (hb8.mono HB7.out.size)
    have HS8 : Hid (Strs w8 w7.heap.size (.slice (some ⟨w7.heap.size, 0, none⟩) 1 1) [key]) := hs8
    clear hb8 hs8 HM7 HB7
    go_wp2_with fail
    refine (zzvals w.heap.size _ [(key, val)] w8 HM8.out (by simp)).mono ?_
    rintro e w9 ⟨hr, hs9, hb9⟩
    simp only [List.length_map, List.length_cons, List.length_nil, Nat.zero_add] at hr hs9
    subst hr
    have HM9 : Hid (Mems w9 w.heap.size (.slice (some ⟨g2, 0, none⟩) 1 cap2) [(key, val)]) := HM8.out.below hb9
    have HB9 : Hid (Below w.heap.size w w9) := HB8.out.trans (hb9.mono HB8.out.size)
    have HS8' : Hid (Strs w9 w7.heap.size (.slice (some ⟨w7.heap.size, 0, none⟩) 1 1) [key]) := HS8.out.below hb9
    have HS9 : Hid (Strs w9 w8.heap.size (.slice (some ⟨w8.heap.size, 0, none⟩) 1 1) [val]) := hs9
    clear hb9 hs9 HM8 HB8 HS8
    go_wp2_with fail
    refine (zztags w.heap.size _ [(key, val)] w9 HM9.out (by simp)).mono ?_
    rintro e w10 ⟨hr, hs10, hb10⟩
    simp only [List.length_map, List.length_cons, List.length_nil, Nat.zero_add] at hr hs10
    subst hr
    have d1 : w10.cell? ⟨w7.heap.size, 0, none⟩ = some (.string key) := (HS8'.out.below hb10).cellAt 0 (by simp)
    have d2 : w10.cell? ⟨w8.heap.size, 0, none⟩ = some (.string val) := (HS9.out.below hb10).cellAt 0 (by simp)
    have d3 : w10.cell? ⟨w9.heap.size, 0, none⟩ = some (.string ⟨#[]⟩) := Strs.cellAt (ss := [ByteArray.empty]) hs10 0 (by simp)
    have HB10 : Hid (Below w.heap.size w w10) := HB9.out.trans (hb10.mono HB9.out.size)
    clear hb10 hs10 HM9 HB9 HS9 HS8'
    go_wp2_with fail
    refine wp_loop_rounds 1 ?_
    rw [rounds_succ]
    go_wp2
    go_ret
    exact ⟨rfl, HB10.out⟩
end Go.Proofs.Qxb6613733a
