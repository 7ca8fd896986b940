/-
  FnSetLastWins: every way through (made by a script of the prover).
-/
import Derived.Test.Qxb6613733aMain
namespace Go.Proofs.Qxb6613733a
open Go.RowKit

theorem neq22b (a : Option Addr) (n c : Nat) (w : World) : (binOp .neq 22 (.slice a n c) (.slice none 0 0)).run Try.prog w = .ok (.bool (!a.isNone)) w := run_neq_slice_nil_any w 22 9 a n c 0 0 Try.underlying22
attribute [local go_sem] neq22b

theorem set_set (ps : List KV) (key a b : ByteArray) : setM (setM ps key a) key b = setM ps key b := by
  rcases Nat.lt_or_ge (kf ps key) ps.length with h | h
  · have e : kf (setM ps key a) key = kf ps key := by
      refine kf_spec (by rw [set_length_hit h]; exact h) (by rw [set_key h]; exact kf_key h) (fun i hi => ?_)
      rw [set_key (by omega)]; exact kf_first hi
    rw [setM_hit (val := b) e (by rw [set_length_hit h]; exact h), set_key h, setM_hit (val := b) rfl h, setM_hit (val := a) rfl h, List.set_set]
  · have e : kf (setM ps key a) key = ps.length := by
      refine kf_spec (by rw [set_length_miss h]; omega) (set_last_key h) (fun i hi => ?_)
      rw [set_key hi]; exact kf_first (by omega)
    rw [setM_hit (val := b) e (by rw [set_length_miss h]; omega), set_last_key h, setM_miss (val := a) h, setM_miss (val := b) h]
    simp

/-- Two mappings of the same members; below block B nothing has turned since W. -/
structure Two (W : World) (B g2 c2 g4 c4 n : Nat) (P2 : List KV) (wr : World) : Prop where
  tw : Mems wr B (.slice (some ⟨g2, 0, none⟩) n c2) P2
  on : Mems wr B (.slice (some ⟨g4, 0, none⟩) n c4) P2
  below : Below W.heap.size W wr
theorem Two.kept {W : World} {B g2 c2 g4 c4 n : Nat} {P2 : List KV} {wr w' : World} (h : Two W B g2 c2 g4 c4 n P2 wr) (hb : Below wr.heap.size wr w') : Two W B g2 c2 g4 c4 n P2 w' :=
  ⟨h.tw.below hb, h.on.below hb, h.below.trans (hb.mono h.below.size)⟩

theorem same_strs (B1 B2 G1 G2 n : Nat) (ss : List ByteArray) (w : World) (hl : ss.length = n) (hn : n ≤ 65536) (h1 : Strs w B1 (.slice (some ⟨G1, 0, none⟩) n n) ss) (h2 : Strs w B2 (.slice (some ⟨G2, 0, none⟩) n n) ss) :
    Calls Try.prog 15 #[.slice (some ⟨G1, 0, none⟩) n n, .slice (some ⟨G2, 0, none⟩) n n] w fun e w' => e = .returned (.bool true) ∧ Below w.heap.size w w' := by
  subst hl
  exact same_any G1 _ G2 _ ss w hn (fun i hi => h1.cellAt i hi) (fun i hi => h2.cellAt i hi)

theorem below_back {w W w' : World} (h : Below W.heap.size W w') (hb : Below w.heap.size w W) : Below w.heap.size w w' := hb.trans (h.mono hb.size)

set_option maxRecDepth 100000 in
set_option maxHeartbeats 1000000 in
theorem long4 (P : Prop) (a1 a2 : Option Addr) (n1 c1 n2 c2 : Nat) (key a b : ByteArray) (w : World) (hm1 : n1 ≤ maxLen) (hm2 : n2 ≤ maxLen) (h : 4096 < n1 ∨ (n1 ≤ 4096 ∧ 4096 < n2))
    (hb5 : Calls Try.prog 14 #[.slice a1 n1 c1, .slice a2 n2 c2, .string key, .string a, .string b] w (Answers P w)) :
    Calls Try.prog 4 #[.slice a1 n1 c1, .slice a2 n2 c2, .string key, .string a, .string b] w (Yes w) := by
  unfold maxLen at hm1 hm2
  have H5 : Hid _ := hb5
  clear hb5
  rcases h with h | ⟨h0, h⟩
  all_goals
    go_enter Try.func4, Try.ntmps4
    go_wp2_with fail
    refine Calls.mono H5.out ?_
    rintro e w1 ⟨bb, rfl, hw1, hb⟩
    obtain rfl : w = w1 := hw1.symm
    clear hb
    cases bb with
    | false =>
      go_wp2
      go_ret
      exact ⟨rfl, Below.refl _ _⟩
    | true =>
      go_wp2
      go_ret
      exact ⟨rfl, Below.refl _ _⟩

set_option maxRecDepth 100000 in
set_option maxHeartbeats 4000000 in
theorem differ4_ns (P : Prop) (b2 o2 c2 : Nat) (vs : List ByteArray) (key a b : ByteArray) (w : World) (hg2 : b2 < w.heap.size) (hn2 : vs.length ≤ 4096) (hk2 : ∀ i, i < vs.length → w.cell? ⟨b2, o2 + i, none⟩ = some (.string (vs.getD i ByteArray.empty))) (hd : ¬ 0 = vs.length) (hp : P → key.size ≤ 1048576 ∧ a.size ≤ 1048576 ∧ b.size ≤ 1048576)
    (hb5 : Calls Try.prog 14 #[.slice none 0 0, .slice (some ⟨b2, o2, none⟩) vs.length c2, .string key, .string a, .string b] w (Answers P w)) :
    Calls Try.prog 4 #[.slice none 0 0, .slice (some ⟨b2, o2, none⟩) vs.length c2, .string key, .string a, .string b] w (Yes w) := by
  have hB : Below w.heap.size w w := Below.refl _ _
  have S1 : Strs w w.heap.size (.slice none 0 0) [] := World.ownsRow_nil _ _ _ _
  obtain ⟨wa, hcp2, hs2, hb2⟩ := made_copy w vs b2 o2 c2 (by omega) (Nat.lt_of_lt_of_le hg2 hB.size) (fun i hi => by rw [hB.cell (p := ⟨b2, o2 + i, none⟩) hg2]; exact hk2 i hi)
  have S2 : Strs wa w.heap.size (.slice (some ⟨w.heap.size, 0, none⟩) vs.length vs.length) vs := hs2.mono hB.size
  have S1 := S1.below hb2
  have hB := hB.trans (hb2.mono hB.size)
  have hmk2 := make22 vs.length (by omega)
  have HS1 : Hid _ := S1
  have HS2 : Hid _ := S2
  have HB0 : Hid _ := hB
  have H5 : Hid _ := hb5
  have HP : Hid _ := hp
  clear S1 S2 hB hb5 hp hs2 hb2 hk2
  go_enter Try.func4, Try.ntmps4
  go_wp2_with fail
  refine Calls.mono H5.out ?_
  rintro e w1 ⟨bb, rfl, hw1, hb⟩
  obtain rfl : w = w1 := hw1.symm
  cases bb with
  | false =>
    clear hb hcp2
    go_wp2
    go_ret
    exact ⟨rfl, Below.refl _ _⟩
  | true =>
    obtain ⟨hz1, hz2, hz3⟩ := HP.out (hb rfl)
    clear hb H5 HP
    go_wp2_with fail
    refine (addStrings _ w.heap.size _ [] wa HS1.out (by simp)).mono ?_
    rintro e w2 ⟨t1, rfl, hw2⟩
    obtain rfl : wa = w2 := hw2.symm
    clear hcp2
    go_wp2_with fail
    refine (addStrings _ w.heap.size _ vs wa HS2.out (by omega)).mono ?_
    rintro e w2 ⟨t2, rfl, hw2⟩
    obtain rfl : wa = w2 := hw2.symm
    go_wp2
    all_goals
      go_ret
      exact ⟨rfl, HB0.out⟩

set_option maxRecDepth 100000 in
set_option maxHeartbeats 4000000 in
theorem differ4_zs (P : Prop) (a1 : Addr) (c1 : Nat) (b2 o2 c2 : Nat) (vs : List ByteArray) (key a b : ByteArray) (w : World) (hg2 : b2 < w.heap.size) (hn2 : vs.length ≤ 4096) (hk2 : ∀ i, i < vs.length → w.cell? ⟨b2, o2 + i, none⟩ = some (.string (vs.getD i ByteArray.empty))) (hd : ¬ 0 = vs.length) (hp : P → key.size ≤ 1048576 ∧ a.size ≤ 1048576 ∧ b.size ≤ 1048576)
    (hb5 : Calls Try.prog 14 #[.slice (some a1) 0 c1, .slice (some ⟨b2, o2, none⟩) vs.length c2, .string key, .string a, .string b] w (Answers P w)) :
    Calls Try.prog 4 #[.slice (some a1) 0 c1, .slice (some ⟨b2, o2, none⟩) vs.length c2, .string key, .string a, .string b] w (Yes w) := by
  have hB : Below w.heap.size w w := Below.refl _ _
  obtain ⟨wa, hcp1, hs1, hb1⟩ := made_copy0 w a1 c1
  have S1 : Strs wa w.heap.size (.slice (some ⟨w.heap.size, 0, none⟩) 0 0) [] := hs1.mono hB.size
  have hB := hB.trans (hb1.mono hB.size)
  obtain ⟨wb, hcp2, hs2, hb2⟩ := made_copy wa vs b2 o2 c2 (by omega) (Nat.lt_of_lt_of_le hg2 hB.size) (fun i hi => by rw [hB.cell (p := ⟨b2, o2 + i, none⟩) hg2]; exact hk2 i hi)
  have S2 : Strs wb w.heap.size (.slice (some ⟨wa.heap.size, 0, none⟩) vs.length vs.length) vs := hs2.mono hB.size
  have S1 := S1.below hb2
  have hB := hB.trans (hb2.mono hB.size)
  have hmk := make22 0 (by omega)
  simp only [Int.natCast_zero] at hmk
  have hmk2 := make22 vs.length (by omega)
  have HS1 : Hid _ := S1
  have HS2 : Hid _ := S2
  have HB0 : Hid _ := hB
  have H5 : Hid _ := hb5
  have HP : Hid _ := hp
  clear S1 S2 hB hb5 hp hs1 hb1 hs2 hb2 hk2
  go_enter Try.func4, Try.ntmps4
  go_wp2_with fail
  refine Calls.mono H5.out ?_
  rintro e w1 ⟨bb, rfl, hw1, hb⟩
  obtain rfl : w = w1 := hw1.symm
  cases bb with
  | false =>
    clear hb hcp1 hcp2
    go_wp2
    go_ret
    exact ⟨rfl, Below.refl _ _⟩
  | true =>
    obtain ⟨hz1, hz2, hz3⟩ := HP.out (hb rfl)
    clear hb H5 HP
    go_wp2_with fail
    refine (addStrings _ w.heap.size _ [] wb HS1.out (by simp)).mono ?_
    rintro e w2 ⟨t1, rfl, hw2⟩
    obtain rfl : wb = w2 := hw2.symm
    clear hcp1 hcp2
    go_wp2_with fail
    refine (addStrings _ w.heap.size _ vs wb HS2.out (by omega)).mono ?_
    rintro e w2 ⟨t2, rfl, hw2⟩
    obtain rfl : wb = w2 := hw2.symm
    go_wp2
    all_goals
      go_ret
      exact ⟨rfl, HB0.out⟩

set_option maxRecDepth 100000 in
set_option maxHeartbeats 4000000 in
theorem differ4_sn (P : Prop) (b1 o1 c1 : Nat) (ks : List ByteArray) (key a b : ByteArray) (w : World) (hg1 : b1 < w.heap.size) (hn1 : ks.length ≤ 4096) (hk1 : ∀ i, i < ks.length → w.cell? ⟨b1, o1 + i, none⟩ = some (.string (ks.getD i ByteArray.empty))) (hd : ¬ ks.length = 0) (hp : P → key.size ≤ 1048576 ∧ a.size ≤ 1048576 ∧ b.size ≤ 1048576)
    (hb5 : Calls Try.prog 14 #[.slice (some ⟨b1, o1, none⟩) ks.length c1, .slice none 0 0, .string key, .string a, .string b] w (Answers P w)) :
    Calls Try.prog 4 #[.slice (some ⟨b1, o1, none⟩) ks.length c1, .slice none 0 0, .string key, .string a, .string b] w (Yes w) := by
  have hB : Below w.heap.size w w := Below.refl _ _
  obtain ⟨wa, hcp1, hs1, hb1⟩ := made_copy w ks b1 o1 c1 (by omega) (Nat.lt_of_lt_of_le hg1 hB.size) (fun i hi => by rw [hB.cell (p := ⟨b1, o1 + i, none⟩) hg1]; exact hk1 i hi)
  have S1 : Strs wa w.heap.size (.slice (some ⟨w.heap.size, 0, none⟩) ks.length ks.length) ks := hs1.mono hB.size
  have hB := hB.trans (hb1.mono hB.size)
  have S2 : Strs wa w.heap.size (.slice none 0 0) [] := World.ownsRow_nil _ _ _ _
  have hmk1 := make22 ks.length (by omega)
  have HS1 : Hid _ := S1
  have HS2 : Hid _ := S2
  have HB0 : Hid _ := hB
  have H5 : Hid _ := hb5
  have HP : Hid _ := hp
  clear S1 S2 hB hb5 hp hs1 hb1 hk1
  go_enter Try.func4, Try.ntmps4
  go_wp2_with fail
  refine Calls.mono H5.out ?_
  rintro e w1 ⟨bb, rfl, hw1, hb⟩
  obtain rfl : w = w1 := hw1.symm
  cases bb with
  | false =>
    clear hb hcp1
    go_wp2
    go_ret
    exact ⟨rfl, Below.refl _ _⟩
  | true =>
    obtain ⟨hz1, hz2, hz3⟩ := HP.out (hb rfl)
    clear hb H5 HP
    go_wp2_with fail
    refine (addStrings _ w.heap.size _ ks wa HS1.out (by omega)).mono ?_
    rintro e w2 ⟨t1, rfl, hw2⟩
    obtain rfl : wa = w2 := hw2.symm
    clear hcp1
    go_wp2_with fail
    refine (addStrings _ w.heap.size _ [] wa HS2.out (by simp)).mono ?_
    rintro e w2 ⟨t2, rfl, hw2⟩
    obtain rfl : wa = w2 := hw2.symm
    go_wp2
    all_goals
      go_ret
      exact ⟨rfl, HB0.out⟩

set_option maxRecDepth 100000 in
set_option maxHeartbeats 4000000 in
theorem differ4_sz (P : Prop) (b1 o1 c1 : Nat) (ks : List ByteArray) (a2 : Addr) (c2 : Nat) (key a b : ByteArray) (w : World) (hg1 : b1 < w.heap.size) (hn1 : ks.length ≤ 4096) (hk1 : ∀ i, i < ks.length → w.cell? ⟨b1, o1 + i, none⟩ = some (.string (ks.getD i ByteArray.empty))) (hd : ¬ ks.length = 0) (hp : P → key.size ≤ 1048576 ∧ a.size ≤ 1048576 ∧ b.size ≤ 1048576)
    (hb5 : Calls Try.prog 14 #[.slice (some ⟨b1, o1, none⟩) ks.length c1, .slice (some a2) 0 c2, .string key, .string a, .string b] w (Answers P w)) :
    Calls Try.prog 4 #[.slice (some ⟨b1, o1, none⟩) ks.length c1, .slice (some a2) 0 c2, .string key, .string a, .string b] w (Yes w) := by
  have hB : Below w.heap.size w w := Below.refl _ _
  obtain ⟨wa, hcp1, hs1, hb1⟩ := made_copy w ks b1 o1 c1 (by omega) (Nat.lt_of_lt_of_le hg1 hB.size) (fun i hi => by rw [hB.cell (p := ⟨b1, o1 + i, none⟩) hg1]; exact hk1 i hi)
  have S1 : Strs wa w.heap.size (.slice (some ⟨w.heap.size, 0, none⟩) ks.length ks.length) ks := hs1.mono hB.size
  have hB := hB.trans (hb1.mono hB.size)
  obtain ⟨wb, hcp2, hs2, hb2⟩ := made_copy0 wa a2 c2
  have S2 : Strs wb w.heap.size (.slice (some ⟨wa.heap.size, 0, none⟩) 0 0) [] := hs2.mono hB.size
  have S1 := S1.below hb2
  have hB := hB.trans (hb2.mono hB.size)
  have hmk := make22 0 (by omega)
  simp only [Int.natCast_zero] at hmk
  have hmk1 := make22 ks.length (by omega)
  have HS1 : Hid _ := S1
  have HS2 : Hid _ := S2
  have HB0 : Hid _ := hB
  have H5 : Hid _ := hb5
  have HP : Hid _ := hp
  clear S1 S2 hB hb5 hp hs1 hb1 hk1 hs2 hb2
  go_enter Try.func4, Try.ntmps4
  go_wp2_with fail
  refine Calls.mono H5.out ?_
  rintro e w1 ⟨bb, rfl, hw1, hb⟩
  obtain rfl : w = w1 := hw1.symm
  cases bb with
  | false =>
    clear hb hcp1 hcp2
    go_wp2
    go_ret
    exact ⟨rfl, Below.refl _ _⟩
  | true =>
    obtain ⟨hz1, hz2, hz3⟩ := HP.out (hb rfl)
    clear hb H5 HP
    go_wp2_with fail
    refine (addStrings _ w.heap.size _ ks wb HS1.out (by omega)).mono ?_
    rintro e w2 ⟨t1, rfl, hw2⟩
    obtain rfl : wb = w2 := hw2.symm
    clear hcp1 hcp2
    go_wp2_with fail
    refine (addStrings _ w.heap.size _ [] wb HS2.out (by simp)).mono ?_
    rintro e w2 ⟨t2, rfl, hw2⟩
    obtain rfl : wb = w2 := hw2.symm
    go_wp2
    all_goals
      go_ret
      exact ⟨rfl, HB0.out⟩

set_option maxRecDepth 100000 in
set_option maxHeartbeats 4000000 in
theorem differ4_ss (P : Prop) (b1 o1 c1 : Nat) (ks : List ByteArray) (b2 o2 c2 : Nat) (vs : List ByteArray) (key a b : ByteArray) (w : World) (hg1 : b1 < w.heap.size) (hn1 : ks.length ≤ 4096) (hk1 : ∀ i, i < ks.length → w.cell? ⟨b1, o1 + i, none⟩ = some (.string (ks.getD i ByteArray.empty))) (hg2 : b2 < w.heap.size) (hn2 : vs.length ≤ 4096) (hk2 : ∀ i, i < vs.length → w.cell? ⟨b2, o2 + i, none⟩ = some (.string (vs.getD i ByteArray.empty))) (hd : ¬ ks.length = vs.length) (hp : P → key.size ≤ 1048576 ∧ a.size ≤ 1048576 ∧ b.size ≤ 1048576)
    (hb5 : Calls Try.prog 14 #[.slice (some ⟨b1, o1, none⟩) ks.length c1, .slice (some ⟨b2, o2, none⟩) vs.length c2, .string key, .string a, .string b] w (Answers P w)) :
    Calls Try.prog 4 #[.slice (some ⟨b1, o1, none⟩) ks.length c1, .slice (some ⟨b2, o2, none⟩) vs.length c2, .string key, .string a, .string b] w (Yes w) := by
  have hB : Below w.heap.size w w := Below.refl _ _
  obtain ⟨wa, hcp1, hs1, hb1⟩ := made_copy w ks b1 o1 c1 (by omega) (Nat.lt_of_lt_of_le hg1 hB.size) (fun i hi => by rw [hB.cell (p := ⟨b1, o1 + i, none⟩) hg1]; exact hk1 i hi)
  have S1 : Strs wa w.heap.size (.slice (some ⟨w.heap.size, 0, none⟩) ks.length ks.length) ks := hs1.mono hB.size
  have hB := hB.trans (hb1.mono hB.size)
  obtain ⟨wb, hcp2, hs2, hb2⟩ := made_copy wa vs b2 o2 c2 (by omega) (Nat.lt_of_lt_of_le hg2 hB.size) (fun i hi => by rw [hB.cell (p := ⟨b2, o2 + i, none⟩) hg2]; exact hk2 i hi)
  have S2 : Strs wb w.heap.size (.slice (some ⟨wa.heap.size, 0, none⟩) vs.length vs.length) vs := hs2.mono hB.size
  have S1 := S1.below hb2
  have hB := hB.trans (hb2.mono hB.size)
  have hmk1 := make22 ks.length (by omega)
  have hmk2 := make22 vs.length (by omega)
  have HS1 : Hid _ := S1
  have HS2 : Hid _ := S2
  have HB0 : Hid _ := hB
  have H5 : Hid _ := hb5
  have HP : Hid _ := hp
  clear S1 S2 hB hb5 hp hs1 hb1 hk1 hs2 hb2 hk2
  go_enter Try.func4, Try.ntmps4
  go_wp2_with fail
  refine Calls.mono H5.out ?_
  rintro e w1 ⟨bb, rfl, hw1, hb⟩
  obtain rfl : w = w1 := hw1.symm
  cases bb with
  | false =>
    clear hb hcp1 hcp2
    go_wp2
    go_ret
    exact ⟨rfl, Below.refl _ _⟩
  | true =>
    obtain ⟨hz1, hz2, hz3⟩ := HP.out (hb rfl)
    clear hb H5 HP
    go_wp2_with fail
    refine (addStrings _ w.heap.size _ ks wb HS1.out (by omega)).mono ?_
    rintro e w2 ⟨t1, rfl, hw2⟩
    obtain rfl : wb = w2 := hw2.symm
    clear hcp1 hcp2
    go_wp2_with fail
    refine (addStrings _ w.heap.size _ vs wb HS2.out (by omega)).mono ?_
    rintro e w2 ⟨t2, rfl, hw2⟩
    obtain rfl : wb = w2 := hw2.symm
    go_wp2
    all_goals
      go_ret
      exact ⟨rfl, HB0.out⟩

set_option maxRecDepth 100000 in
set_option maxHeartbeats 4000000 in
theorem zero4_nn (P : Prop)  (key a b : ByteArray) (w : World)   (hp : P → key.size ≤ 1048576 ∧ a.size ≤ 1048576 ∧ b.size ≤ 1048576)
    (hb5 : Calls Try.prog 14 #[.slice none 0 0, .slice none 0 0, .string key, .string a, .string b] w (Answers P w)) :
    Calls Try.prog 4 #[.slice none 0 0, .slice none 0 0, .string key, .string a, .string b] w (Yes w) := by
  have hB : Below w.heap.size w w := Below.refl _ _
  have S1 : Strs w w.heap.size (.slice none 0 0) [] := World.ownsRow_nil _ _ _ _
  have S2 : Strs w w.heap.size (.slice none 0 0) [] := World.ownsRow_nil _ _ _ _
  have hmk := make22 0 (by omega)
  simp only [Int.natCast_zero] at hmk
  have HS1 : Hid _ := S1
  have HS2 : Hid _ := S2
  have HB0 : Hid _ := hB
  have H5 : Hid _ := hb5
  have HP : Hid _ := hp
  clear S1 S2 hB hb5 hp 
  go_enter Try.func4, Try.ntmps4
  go_wp2_with fail
  refine Calls.mono H5.out ?_
  rintro e w1 ⟨bb, rfl, hw1, hb⟩
  obtain rfl : w = w1 := hw1.symm
  cases bb with
  | false =>
    clear hb 
    go_wp2
    go_ret
    exact ⟨rfl, Below.refl _ _⟩
  | true =>
    obtain ⟨hz1, hz2, hz3⟩ := HP.out (hb rfl)
    clear hb H5 HP
    go_wp2_with fail
    refine (addStrings _ w.heap.size _ [] w HS1.out (by simp)).mono ?_
    rintro e w2 ⟨t1, rfl, hw2⟩
    obtain rfl : w = w2 := hw2.symm
    skip
    go_wp2_with fail
    refine (addStrings _ w.heap.size _ [] w HS2.out (by simp)).mono ?_
    rintro e w2 ⟨t2, rfl, hw2⟩
    obtain rfl : w = w2 := hw2.symm
    by_cases ht : 1048576 < t2
    · go_wp2
      go_ret
      exact ⟨rfl, HB0.out⟩
    go_wp2_with fail
    refine (zzbuild w.heap.size _ _ ([] : List KV) w (by simp) HS1.out HS2.out).mono ?_
    rintro e w2 ⟨m, rfl, hm, hbm⟩
    obtain ⟨g, cap, rfl, hgb, hgl, _⟩ := hm.cases
    have HM2 : Hid (Mems w2 w.heap.size (.slice (some ⟨g, 0, none⟩) 0 cap) ([] : List KV)) := hm
    have HW2 : Hid (Below w.heap.size w w2) := hbm
    clear hm hbm
    simp only [List.length_nil]
    · skip
      go_wp2_with fail
      refine (zzset w.heap.size _ ([] : List KV) key a w2 HM2.out (by simp) HW2.out.size).mono ?_
      rintro e w3 ⟨m1, rfl, hm1, hgr⟩
      have HW3 : Hid (Below w.heap.size w w3) := HW2.out.grown hgr HW2.out.size (fun k hk => by simp [Value.ownBlock] at hk; omega)
      obtain ⟨g1, c1', rfl, hgb1, hgl1, _⟩ := hm1.cases
      have HM3 : Hid (Mems w3 w.heap.size (.slice (some ⟨g1, 0, none⟩) (setM ([] : List KV) key a).length c1') (setM ([] : List KV) key a)) := hm1
      have HL1 : Hid ((setM ([] : List KV) key a).length = 1) := rfl
      clear hm1 hgr HM2 HW2
      go_wp2_with fail
      refine (zzset w.heap.size _ (setM ([] : List KV) key a) key b w3 HM3.out (by rw [HL1.out]; omega) HW3.out.size).mono ?_
      rintro e w4 ⟨m2, rfl, hm2, hgr⟩
      have HW4 : Hid (Below w.heap.size w w4) := HW3.out.grown hgr HW3.out.size (fun k hk => by simp [Value.ownBlock] at hk; omega)
      rw [set_set] at hm2
      obtain ⟨g2, c2', rfl, hgb2, hgl2, _⟩ := hm2.cases
      have HM4 : Hid (Mems w4 w.heap.size (.slice (some ⟨g2, 0, none⟩) (setM ([] : List KV) key b).length c2') (setM ([] : List KV) key b)) := hm2
      have HLN : Hid ((setM ([] : List KV) key b).length = 1) := rfl
      rw [HLN.out] at HM4 ⊢
      clear hm2 hgr HM3 HW3 HL1
      go_wp2_with fail
      refine (zzbuild w.heap.size _ _ ([] : List KV) w4 (by simp) (Strs.below HS1.out HW4.out) (Strs.below HS2.out HW4.out)).mono ?_
      rintro e w5 ⟨m3, rfl, hm3, hb5⟩
      obtain ⟨g3, c3', rfl, hgb3, hgl3, _⟩ := hm3.cases
      have HM5 : Hid (Mems w5 w4.heap.size (.slice (some ⟨g3, 0, none⟩) 0 c3') ([] : List KV)) := hm3
      have HT5 : Hid (Mems w5 w.heap.size (.slice (some ⟨g2, 0, none⟩) (1) c2') (setM ([] : List KV) key b)) := Mems.below HM4.out hb5
      have HW5 : Hid (Below w.heap.size w w5) := HW4.out.trans (hb5.mono HW4.out.size)
      have HZ5 : Hid (w4.heap.size ≤ w5.heap.size) := hb5.size
      clear hm3 hb5 HM4
      simp only [List.length_nil]
      go_wp2_with fail
      refine (zzset w4.heap.size _ ([] : List KV) key b w5 HM5.out (by simp) HZ5.out).mono ?_
      rintro e w6 ⟨m4, rfl, hm4, hgr⟩
      obtain ⟨g4, c4', rfl, hgb4, hgl4, _⟩ := hm4.cases
      rw [HLN.out] at hm4 ⊢
      have HT6 : Hid (Two w w.heap.size g2 c2' g4 c4' (1) (setM ([] : List KV) key b) w6) := by
        refine ⟨Mems.kept HT5.out hgr (.inr ?_), hm4.mono HW4.out.size, HW5.out.grown hgr HW5.out.size (fun k hk => ?_)⟩
        · simp [Value.ownBlock]; omega
        · have h4 := HW4.out.size
          simp [Value.ownBlock] at hk; omega
      clear hm4 hgr HM5 HT5 HW5 HW4 HZ5
      obtain ⟨B, hB⟩ : ∃ B, B = w.heap.size := ⟨_, rfl⟩
      rw [← hB] at HT6
      clear hB
      go_wp2_with fail
      refine (zzkeys B _ (setM ([] : List KV) key b) w6 HT6.out.tw (by rw [HLN.out]; omega)).mono ?_
      rintro e w7 ⟨hr, hs, hb⟩
      rw [List.length_map, HLN.out] at hr hs
      subst hr
      have HT7 : Hid (Two w B g2 c2' g4 c4' (1) (setM ([] : List KV) key b) w7) := HT6.out.kept hb
      have HA7 : Hid (Strs w7 w6.heap.size (.slice (some ⟨w6.heap.size, 0, none⟩) (1) (1)) ((setM ([] : List KV) key b).map Prod.fst)) := hs
      clear hs hb HT6
      go_wp2_with fail
      refine (zzkeys B _ (setM ([] : List KV) key b) w7 HT7.out.on (by rw [HLN.out]; omega)).mono ?_
      rintro e w8 ⟨hr, hs, hb⟩
      rw [List.length_map, HLN.out] at hr hs
      subst hr
      have HT8 : Hid (Two w B g2 c2' g4 c4' (1) (setM ([] : List KV) key b) w8) := HT7.out.kept hb
      have HA8 : Hid (Strs w8 w6.heap.size (.slice (some ⟨w6.heap.size, 0, none⟩) (1) (1)) ((setM ([] : List KV) key b).map Prod.fst)) := Strs.below HA7.out hb
      have HB8 : Hid (Strs w8 w7.heap.size (.slice (some ⟨w7.heap.size, 0, none⟩) (1) (1)) ((setM ([] : List KV) key b).map Prod.fst)) := hs
      clear hs hb HT7 HA7
      go_wp2_with fail
      refine (same_strs w6.heap.size w7.heap.size _ _ (1) ((setM ([] : List KV) key b).map Prod.fst) w8 (by rw [List.length_map]; exact HLN.out) (by omega) HA8.out HB8.out).mono ?_
      rintro e w9 ⟨rfl, hb⟩
      have HT9 : Hid (Two w B g2 c2' g4 c4' (1) (setM ([] : List KV) key b) w9) := HT8.out.kept hb
      have HRK9 : Hid (Strs w9 w6.heap.size (.slice (some ⟨w6.heap.size, 0, none⟩) (1) (1)) ((setM ([] : List KV) key b).map Prod.fst)) := Strs.below HA8.out hb
      clear hb HT8 HA8 HB8
      go_wp2_with fail
      refine (zzvals B _ (setM ([] : List KV) key b) w9 HT9.out.tw (by rw [HLN.out]; omega)).mono ?_
      rintro e w10 ⟨hr, hs, hb⟩
      rw [List.length_map, HLN.out] at hr hs
      subst hr
      have HT10 : Hid (Two w B g2 c2' g4 c4' (1) (setM ([] : List KV) key b) w10) := HT9.out.kept hb
      have HA10 : Hid (Strs w10 w9.heap.size (.slice (some ⟨w9.heap.size, 0, none⟩) (1) (1)) ((setM ([] : List KV) key b).map Prod.snd)) := hs
      have HRK10 : Hid (Strs w10 w6.heap.size (.slice (some ⟨w6.heap.size, 0, none⟩) (1) (1)) ((setM ([] : List KV) key b).map Prod.fst)) := Strs.below HRK9.out hb
      clear hs hb HT9
      go_wp2_with fail
      refine (zzvals B _ (setM ([] : List KV) key b) w10 HT10.out.on (by rw [HLN.out]; omega)).mono ?_
      rintro e w11 ⟨hr, hs, hb⟩
      rw [List.length_map, HLN.out] at hr hs
      subst hr
      have HT11 : Hid (Two w B g2 c2' g4 c4' (1) (setM ([] : List KV) key b) w11) := HT10.out.kept hb
      have HA11 : Hid (Strs w11 w9.heap.size (.slice (some ⟨w9.heap.size, 0, none⟩) (1) (1)) ((setM ([] : List KV) key b).map Prod.snd)) := Strs.below HA10.out hb
      have HB11 : Hid (Strs w11 w10.heap.size (.slice (some ⟨w10.heap.size, 0, none⟩) (1) (1)) ((setM ([] : List KV) key b).map Prod.snd)) := hs
      have HRK11 : Hid (Strs w11 w6.heap.size (.slice (some ⟨w6.heap.size, 0, none⟩) (1) (1)) ((setM ([] : List KV) key b).map Prod.fst)) := Strs.below HRK10.out hb
      clear hs hb HT10 HA10
      go_wp2_with fail
      refine (same_strs w9.heap.size w10.heap.size _ _ (1) ((setM ([] : List KV) key b).map Prod.snd) w11 (by rw [List.length_map]; exact HLN.out) (by omega) HA11.out HB11.out).mono ?_
      rintro e w12 ⟨rfl, hb⟩
      have HT12 : Hid (Two w B g2 c2' g4 c4' (1) (setM ([] : List KV) key b) w12) := HT11.out.kept hb
      have HRK12 : Hid (Strs w12 w6.heap.size (.slice (some ⟨w6.heap.size, 0, none⟩) (1) (1)) ((setM ([] : List KV) key b).map Prod.fst)) := Strs.below HRK11.out hb
      clear hb HT11 HA11 HB11 HRK9 HRK10 HRK11
      go_wp2_with fail
      refine (zztags B _ (setM ([] : List KV) key b) w12 HT12.out.tw (by rw [HLN.out]; omega)).mono ?_
      rintro e w13 ⟨hr, hs, hb⟩
      rw [List.length_map, HLN.out] at hr hs
      subst hr
      have HT13 : Hid (Two w B g2 c2' g4 c4' (1) (setM ([] : List KV) key b) w13) := HT12.out.kept hb
      have HA13 : Hid (Strs w13 w12.heap.size (.slice (some ⟨w12.heap.size, 0, none⟩) (1) (1)) ((setM ([] : List KV) key b).map (fun _ => ByteArray.empty))) := hs
      have HRK13 : Hid (Strs w13 w6.heap.size (.slice (some ⟨w6.heap.size, 0, none⟩) (1) (1)) ((setM ([] : List KV) key b).map Prod.fst)) := Strs.below HRK12.out hb
      clear hs hb HT12
      go_wp2_with fail
      refine (zztags B _ (setM ([] : List KV) key b) w13 HT13.out.on (by rw [HLN.out]; omega)).mono ?_
      rintro e w14 ⟨hr, hs, hb⟩
      rw [List.length_map, HLN.out] at hr hs
      subst hr
      have HT14 : Hid (Two w B g2 c2' g4 c4' (1) (setM ([] : List KV) key b) w14) := HT13.out.kept hb
      have HA14 : Hid (Strs w14 w12.heap.size (.slice (some ⟨w12.heap.size, 0, none⟩) (1) (1)) ((setM ([] : List KV) key b).map (fun _ => ByteArray.empty))) := Strs.below HA13.out hb
      have HB14 : Hid (Strs w14 w13.heap.size (.slice (some ⟨w13.heap.size, 0, none⟩) (1) (1)) ((setM ([] : List KV) key b).map (fun _ => ByteArray.empty))) := hs
      have HRK14 : Hid (Strs w14 w6.heap.size (.slice (some ⟨w6.heap.size, 0, none⟩) (1) (1)) ((setM ([] : List KV) key b).map Prod.fst)) := Strs.below HRK13.out hb
      clear hs hb HT13 HA13
      go_wp2_with fail
      refine (same_strs w12.heap.size w13.heap.size _ _ (1) ((setM ([] : List KV) key b).map (fun _ => ByteArray.empty)) w14 (by rw [List.length_map]; exact HLN.out) (by omega) HA14.out HB14.out).mono ?_
      rintro e w15 ⟨rfl, hb⟩
      have HT15 : Hid (Two w B g2 c2' g4 c4' (1) (setM ([] : List KV) key b) w15) := HT14.out.kept hb
      have HRK15 : Hid (Strs w15 w6.heap.size (.slice (some ⟨w6.heap.size, 0, none⟩) (1) (1)) ((setM ([] : List KV) key b).map Prod.fst)) := Strs.below HRK14.out hb
      clear hb HT14 HA14 HB14 HRK12 HRK13 HRK14
      go_wp2_with fail
      refine (zzget B _ (setM ([] : List KV) key b) key w15 HT15.out.tw (by rw [HLN.out]; omega)).mono ?_
      rintro e w16 ⟨hr, hb⟩
      rw [decide_eq_true set_get.1, set_get.2] at hr
      subst hr
      have HW16 : Hid (Below w.heap.size w w16) := HT15.out.below.trans (hb.mono HT15.out.below.size)
      have HRK16 : Hid (Strs w16 w6.heap.size (.slice (some ⟨w6.heap.size, 0, none⟩) (1) (1)) ((setM ([] : List KV) key b).map Prod.fst)) := Strs.below HRK15.out hb
      clear hb HT15 HRK15
      go_wp2_with fail
      refine (zzFirst w.heap.size _ [] key w16 (Strs.below HS1.out HW16.out) (by simp)).mono ?_
      rintro e w17 ⟨rfl, hw17⟩
      obtain rfl : w16 = w17 := hw17.symm
      rw [show first [] key = -1 from rfl]
      go_wp2_with fail
      refine wp_loop_rounds 1 ?_
      rw [rounds_succ]
      go_wp2
      go_ret
      exact ⟨rfl, below_back HW16.out HB0.out⟩

set_option maxRecDepth 100000 in
set_option maxHeartbeats 4000000 in
theorem zero4_nz (P : Prop) (a2 : Addr) (c2 : Nat) (key a b : ByteArray) (w : World)   (hp : P → key.size ≤ 1048576 ∧ a.size ≤ 1048576 ∧ b.size ≤ 1048576)
    (hb5 : Calls Try.prog 14 #[.slice none 0 0, .slice (some a2) 0 c2, .string key, .string a, .string b] w (Answers P w)) :
    Calls Try.prog 4 #[.slice none 0 0, .slice (some a2) 0 c2, .string key, .string a, .string b] w (Yes w) := by
  have hB : Below w.heap.size w w := Below.refl _ _
  have S1 : Strs w w.heap.size (.slice none 0 0) [] := World.ownsRow_nil _ _ _ _
  obtain ⟨wa, hcp2, hs2, hb2⟩ := made_copy0 w a2 c2
  have S2 : Strs wa w.heap.size (.slice (some ⟨w.heap.size, 0, none⟩) 0 0) [] := hs2.mono hB.size
  have S1 := S1.below hb2
  have hB := hB.trans (hb2.mono hB.size)
  have hmk := make22 0 (by omega)
  simp only [Int.natCast_zero] at hmk
  have HS1 : Hid _ := S1
  have HS2 : Hid _ := S2
  have HB0 : Hid _ := hB
  have H5 : Hid _ := hb5
  have HP : Hid _ := hp
  clear S1 S2 hB hb5 hp hs2 hb2
  go_enter Try.func4, Try.ntmps4
  go_wp2_with fail
  refine Calls.mono H5.out ?_
  rintro e w1 ⟨bb, rfl, hw1, hb⟩
  obtain rfl : w = w1 := hw1.symm
  cases bb with
  | false =>
    clear hb hcp2
    go_wp2
    go_ret
    exact ⟨rfl, Below.refl _ _⟩
  | true =>
    obtain ⟨hz1, hz2, hz3⟩ := HP.out (hb rfl)
    clear hb H5 HP
    go_wp2_with fail
    refine (addStrings _ w.heap.size _ [] wa HS1.out (by simp)).mono ?_
    rintro e w2 ⟨t1, rfl, hw2⟩
    obtain rfl : wa = w2 := hw2.symm
    clear hcp2
    go_wp2_with fail
    refine (addStrings _ w.heap.size _ [] wa HS2.out (by simp)).mono ?_
    rintro e w2 ⟨t2, rfl, hw2⟩
    obtain rfl : wa = w2 := hw2.symm
    by_cases ht : 1048576 < t2
    · go_wp2
      go_ret
      exact ⟨rfl, HB0.out⟩
    go_wp2_with fail
    refine (zzbuild w.heap.size _ _ ([] : List KV) wa (by simp) HS1.out HS2.out).mono ?_
    rintro e w2 ⟨m, rfl, hm, hbm⟩
    obtain ⟨g, cap, rfl, hgb, hgl, _⟩ := hm.cases
    have HM2 : Hid (Mems w2 wa.heap.size (.slice (some ⟨g, 0, none⟩) 0 cap) ([] : List KV)) := hm
    have HW2 : Hid (Below wa.heap.size wa w2) := hbm
    clear hm hbm
    simp only [List.length_nil]
    · skip
      go_wp2_with fail
      refine (zzset wa.heap.size _ ([] : List KV) key a w2 HM2.out (by simp) HW2.out.size).mono ?_
      rintro e w3 ⟨m1, rfl, hm1, hgr⟩
      have HW3 : Hid (Below wa.heap.size wa w3) := HW2.out.grown hgr HW2.out.size (fun k hk => by simp [Value.ownBlock] at hk; omega)
      obtain ⟨g1, c1', rfl, hgb1, hgl1, _⟩ := hm1.cases
      have HM3 : Hid (Mems w3 wa.heap.size (.slice (some ⟨g1, 0, none⟩) (setM ([] : List KV) key a).length c1') (setM ([] : List KV) key a)) := hm1
      have HL1 : Hid ((setM ([] : List KV) key a).length = 1) := rfl
      clear hm1 hgr HM2 HW2
      go_wp2_with fail
      refine (zzset wa.heap.size _ (setM ([] : List KV) key a) key b w3 HM3.out (by rw [HL1.out]; omega) HW3.out.size).mono ?_
      rintro e w4 ⟨m2, rfl, hm2, hgr⟩
      have HW4 : Hid (Below wa.heap.size wa w4) := HW3.out.grown hgr HW3.out.size (fun k hk => by simp [Value.ownBlock] at hk; omega)
      rw [set_set] at hm2
      obtain ⟨g2, c2', rfl, hgb2, hgl2, _⟩ := hm2.cases
      have HM4 : Hid (Mems w4 wa.heap.size (.slice (some ⟨g2, 0, none⟩) (setM ([] : List KV) key b).length c2') (setM ([] : List KV) key b)) := hm2
      have HLN : Hid ((setM ([] : List KV) key b).length = 1) := rfl
      rw [HLN.out] at HM4 ⊢
      clear hm2 hgr HM3 HW3 HL1
      go_wp2_with fail
      refine (zzbuild w.heap.size _ _ ([] : List KV) w4 (by simp) (Strs.below HS1.out HW4.out) (Strs.below HS2.out HW4.out)).mono ?_
      rintro e w5 ⟨m3, rfl, hm3, hb5⟩
      obtain ⟨g3, c3', rfl, hgb3, hgl3, _⟩ := hm3.cases
      have HM5 : Hid (Mems w5 w4.heap.size (.slice (some ⟨g3, 0, none⟩) 0 c3') ([] : List KV)) := hm3
      have HT5 : Hid (Mems w5 wa.heap.size (.slice (some ⟨g2, 0, none⟩) (1) c2') (setM ([] : List KV) key b)) := Mems.below HM4.out hb5
      have HW5 : Hid (Below wa.heap.size wa w5) := HW4.out.trans (hb5.mono HW4.out.size)
      have HZ5 : Hid (w4.heap.size ≤ w5.heap.size) := hb5.size
      clear hm3 hb5 HM4
      simp only [List.length_nil]
      go_wp2_with fail
      refine (zzset w4.heap.size _ ([] : List KV) key b w5 HM5.out (by simp) HZ5.out).mono ?_
      rintro e w6 ⟨m4, rfl, hm4, hgr⟩
      obtain ⟨g4, c4', rfl, hgb4, hgl4, _⟩ := hm4.cases
      rw [HLN.out] at hm4 ⊢
      have HT6 : Hid (Two wa wa.heap.size g2 c2' g4 c4' (1) (setM ([] : List KV) key b) w6) := by
        refine ⟨Mems.kept HT5.out hgr (.inr ?_), hm4.mono HW4.out.size, HW5.out.grown hgr HW5.out.size (fun k hk => ?_)⟩
        · simp [Value.ownBlock]; omega
        · have h4 := HW4.out.size
          simp [Value.ownBlock] at hk; omega
      clear hm4 hgr HM5 HT5 HW5 HW4 HZ5
      obtain ⟨B, hB⟩ : ∃ B, B = wa.heap.size := ⟨_, rfl⟩
      rw [← hB] at HT6
      clear hB
      go_wp2_with fail
      refine (zzkeys B _ (setM ([] : List KV) key b) w6 HT6.out.tw (by rw [HLN.out]; omega)).mono ?_
      rintro e w7 ⟨hr, hs, hb⟩
      rw [List.length_map, HLN.out] at hr hs
      subst hr
      have HT7 : Hid (Two wa B g2 c2' g4 c4' (1) (setM ([] : List KV) key b) w7) := HT6.out.kept hb
      have HA7 : Hid (Strs w7 w6.heap.size (.slice (some ⟨w6.heap.size, 0, none⟩) (1) (1)) ((setM ([] : List KV) key b).map Prod.fst)) := hs
      clear hs hb HT6
      go_wp2_with fail
      refine (zzkeys B _ (setM ([] : List KV) key b) w7 HT7.out.on (by rw [HLN.out]; omega)).mono ?_
      rintro e w8 ⟨hr, hs, hb⟩
      rw [List.length_map, HLN.out] at hr hs
      subst hr
      have HT8 : Hid (Two wa B g2 c2' g4 c4' (1) (setM ([] : List KV) key b) w8) := HT7.out.kept hb
      have HA8 : Hid (Strs w8 w6.heap.size (.slice (some ⟨w6.heap.size, 0, none⟩) (1) (1)) ((setM ([] : List KV) key b).map Prod.fst)) := Strs.below HA7.out hb
      have HB8 : Hid (Strs w8 w7.heap.size (.slice (some ⟨w7.heap.size, 0, none⟩) (1) (1)) ((setM ([] : List KV) key b).map Prod.fst)) := hs
      clear hs hb HT7 HA7
      go_wp2_with fail
      refine (same_strs w6.heap.size w7.heap.size _ _ (1) ((setM ([] : List KV) key b).map Prod.fst) w8 (by rw [List.length_map]; exact HLN.out) (by omega) HA8.out HB8.out).mono ?_
      rintro e w9 ⟨rfl, hb⟩
      have HT9 : Hid (Two wa B g2 c2' g4 c4' (1) (setM ([] : List KV) key b) w9) := HT8.out.kept hb
      have HRK9 : Hid (Strs w9 w6.heap.size (.slice (some ⟨w6.heap.size, 0, none⟩) (1) (1)) ((setM ([] : List KV) key b).map Prod.fst)) := Strs.below HA8.out hb
      clear hb HT8 HA8 HB8
      go_wp2_with fail
      refine (zzvals B _ (setM ([] : List KV) key b) w9 HT9.out.tw (by rw [HLN.out]; omega)).mono ?_
      rintro e w10 ⟨hr, hs, hb⟩
      rw [List.length_map, HLN.out] at hr hs
      subst hr
      have HT10 : Hid (Two wa B g2 c2' g4 c4' (1) (setM ([] : List KV) key b) w10) := HT9.out.kept hb
      have HA10 : Hid (Strs w10 w9.heap.size (.slice (some ⟨w9.heap.size, 0, none⟩) (1) (1)) ((setM ([] : List KV) key b).map Prod.snd)) := hs
      have HRK10 : Hid (Strs w10 w6.heap.size (.slice (some ⟨w6.heap.size, 0, none⟩) (1) (1)) ((setM ([] : List KV) key b).map Prod.fst)) := Strs.below HRK9.out hb
      clear hs hb HT9
      go_wp2_with fail
      refine (zzvals B _ (setM ([] : List KV) key b) w10 HT10.out.on (by rw [HLN.out]; omega)).mono ?_
      rintro e w11 ⟨hr, hs, hb⟩
      rw [List.length_map, HLN.out] at hr hs
      subst hr
      have HT11 : Hid (Two wa B g2 c2' g4 c4' (1) (setM ([] : List KV) key b) w11) := HT10.out.kept hb
      have HA11 : Hid (Strs w11 w9.heap.size (.slice (some ⟨w9.heap.size, 0, none⟩) (1) (1)) ((setM ([] : List KV) key b).map Prod.snd)) := Strs.below HA10.out hb
      have HB11 : Hid (Strs w11 w10.heap.size (.slice (some ⟨w10.heap.size, 0, none⟩) (1) (1)) ((setM ([] : List KV) key b).map Prod.snd)) := hs
      have HRK11 : Hid (Strs w11 w6.heap.size (.slice (some ⟨w6.heap.size, 0, none⟩) (1) (1)) ((setM ([] : List KV) key b).map Prod.fst)) := Strs.below HRK10.out hb
      clear hs hb HT10 HA10
      go_wp2_with fail
      refine (same_strs w9.heap.size w10.heap.size _ _ (1) ((setM ([] : List KV) key b).map Prod.snd) w11 (by rw [List.length_map]; exact HLN.out) (by omega) HA11.out HB11.out).mono ?_
      rintro e w12 ⟨rfl, hb⟩
      have HT12 : Hid (Two wa B g2 c2' g4 c4' (1) (setM ([] : List KV) key b) w12) := HT11.out.kept hb
      have HRK12 : Hid (Strs w12 w6.heap.size (.slice (some ⟨w6.heap.size, 0, none⟩) (1) (1)) ((setM ([] : List KV) key b).map Prod.fst)) := Strs.below HRK11.out hb
      clear hb HT11 HA11 HB11 HRK9 HRK10 HRK11
      go_wp2_with fail
      refine (zztags B _ (setM ([] : List KV) key b) w12 HT12.out.tw (by rw [HLN.out]; omega)).mono ?_
      rintro e w13 ⟨hr, hs, hb⟩
      rw [List.length_map, HLN.out] at hr hs
      subst hr
      have HT13 : Hid (Two wa B g2 c2' g4 c4' (1) (setM ([] : List KV) key b) w13) := HT12.out.kept hb
      have HA13 : Hid (Strs w13 w12.heap.size (.slice (some ⟨w12.heap.size, 0, none⟩) (1) (1)) ((setM ([] : List KV) key b).map (fun _ => ByteArray.empty))) := hs
      have HRK13 : Hid (Strs w13 w6.heap.size (.slice (some ⟨w6.heap.size, 0, none⟩) (1) (1)) ((setM ([] : List KV) key b).map Prod.fst)) := Strs.below HRK12.out hb
      clear hs hb HT12
      go_wp2_with fail
      refine (zztags B _ (setM ([] : List KV) key b) w13 HT13.out.on (by rw [HLN.out]; omega)).mono ?_
      rintro e w14 ⟨hr, hs, hb⟩
      rw [List.length_map, HLN.out] at hr hs
      subst hr
      have HT14 : Hid (Two wa B g2 c2' g4 c4' (1) (setM ([] : List KV) key b) w14) := HT13.out.kept hb
      have HA14 : Hid (Strs w14 w12.heap.size (.slice (some ⟨w12.heap.size, 0, none⟩) (1) (1)) ((setM ([] : List KV) key b).map (fun _ => ByteArray.empty))) := Strs.below HA13.out hb
      have HB14 : Hid (Strs w14 w13.heap.size (.slice (some ⟨w13.heap.size, 0, none⟩) (1) (1)) ((setM ([] : List KV) key b).map (fun _ => ByteArray.empty))) := hs
      have HRK14 : Hid (Strs w14 w6.heap.size (.slice (some ⟨w6.heap.size, 0, none⟩) (1) (1)) ((setM ([] : List KV) key b).map Prod.fst)) := Strs.below HRK13.out hb
      clear hs hb HT13 HA13
      go_wp2_with fail
      refine (same_strs w12.heap.size w13.heap.size _ _ (1) ((setM ([] : List KV) key b).map (fun _ => ByteArray.empty)) w14 (by rw [List.length_map]; exact HLN.out) (by omega) HA14.out HB14.out).mono ?_
      rintro e w15 ⟨rfl, hb⟩
      have HT15 : Hid (Two wa B g2 c2' g4 c4' (1) (setM ([] : List KV) key b) w15) := HT14.out.kept hb
      have HRK15 : Hid (Strs w15 w6.heap.size (.slice (some ⟨w6.heap.size, 0, none⟩) (1) (1)) ((setM ([] : List KV) key b).map Prod.fst)) := Strs.below HRK14.out hb
      clear hb HT14 HA14 HB14 HRK12 HRK13 HRK14
      go_wp2_with fail
      refine (zzget B _ (setM ([] : List KV) key b) key w15 HT15.out.tw (by rw [HLN.out]; omega)).mono ?_
      rintro e w16 ⟨hr, hb⟩
      rw [decide_eq_true set_get.1, set_get.2] at hr
      subst hr
      have HW16 : Hid (Below wa.heap.size wa w16) := HT15.out.below.trans (hb.mono HT15.out.below.size)
      have HRK16 : Hid (Strs w16 w6.heap.size (.slice (some ⟨w6.heap.size, 0, none⟩) (1) (1)) ((setM ([] : List KV) key b).map Prod.fst)) := Strs.below HRK15.out hb
      clear hb HT15 HRK15
      go_wp2_with fail
      refine (zzFirst w.heap.size _ [] key w16 (Strs.below HS1.out HW16.out) (by simp)).mono ?_
      rintro e w17 ⟨rfl, hw17⟩
      obtain rfl : w16 = w17 := hw17.symm
      rw [show first [] key = -1 from rfl]
      go_wp2_with fail
      refine wp_loop_rounds 1 ?_
      rw [rounds_succ]
      go_wp2
      go_ret
      exact ⟨rfl, below_back HW16.out HB0.out⟩

set_option maxRecDepth 100000 in
set_option maxHeartbeats 4000000 in
theorem zero4_zn (P : Prop) (a1 : Addr) (c1 : Nat) (key a b : ByteArray) (w : World)   (hp : P → key.size ≤ 1048576 ∧ a.size ≤ 1048576 ∧ b.size ≤ 1048576)
    (hb5 : Calls Try.prog 14 #[.slice (some a1) 0 c1, .slice none 0 0, .string key, .string a, .string b] w (Answers P w)) :
    Calls Try.prog 4 #[.slice (some a1) 0 c1, .slice none 0 0, .string key, .string a, .string b] w (Yes w) := by
  have hB : Below w.heap.size w w := Below.refl _ _
  obtain ⟨wa, hcp1, hs1, hb1⟩ := made_copy0 w a1 c1
  have S1 : Strs wa w.heap.size (.slice (some ⟨w.heap.size, 0, none⟩) 0 0) [] := hs1.mono hB.size
  have hB := hB.trans (hb1.mono hB.size)
  have S2 : Strs wa w.heap.size (.slice none 0 0) [] := World.ownsRow_nil _ _ _ _
  have hmk := make22 0 (by omega)
  simp only [Int.natCast_zero] at hmk
  have HS1 : Hid _ := S1
  have HS2 : Hid _ := S2
  have HB0 : Hid _ := hB
  have H5 : Hid _ := hb5
  have HP : Hid _ := hp
  clear S1 S2 hB hb5 hp hs1 hb1
  go_enter Try.func4, Try.ntmps4
  go_wp2_with fail
  refine Calls.mono H5.out ?_
  rintro e w1 ⟨bb, rfl, hw1, hb⟩
  obtain rfl : w = w1 := hw1.symm
  cases bb with
  | false =>
    clear hb hcp1
    go_wp2
    go_ret
    exact ⟨rfl, Below.refl _ _⟩
  | true =>
    obtain ⟨hz1, hz2, hz3⟩ := HP.out (hb rfl)
    clear hb H5 HP
    go_wp2_with fail
    refine (addStrings _ w.heap.size _ [] wa HS1.out (by simp)).mono ?_
    rintro e w2 ⟨t1, rfl, hw2⟩
    obtain rfl : wa = w2 := hw2.symm
    clear hcp1
    go_wp2_with fail
    refine (addStrings _ w.heap.size _ [] wa HS2.out (by simp)).mono ?_
    rintro e w2 ⟨t2, rfl, hw2⟩
    obtain rfl : wa = w2 := hw2.symm
    by_cases ht : 1048576 < t2
    · go_wp2
      go_ret
      exact ⟨rfl, HB0.out⟩
    go_wp2_with fail
    refine (zzbuild w.heap.size _ _ ([] : List KV) wa (by simp) HS1.out HS2.out).mono ?_
    rintro e w2 ⟨m, rfl, hm, hbm⟩
    obtain ⟨g, cap, rfl, hgb, hgl, _⟩ := hm.cases
    have HM2 : Hid (Mems w2 wa.heap.size (.slice (some ⟨g, 0, none⟩) 0 cap) ([] : List KV)) := hm
    have HW2 : Hid (Below wa.heap.size wa w2) := hbm
    clear hm hbm
    simp only [List.length_nil]
    · skip
      go_wp2_with fail
      refine (zzset wa.heap.size _ ([] : List KV) key a w2 HM2.out (by simp) HW2.out.size).mono ?_
      rintro e w3 ⟨m1, rfl, hm1, hgr⟩
      have HW3 : Hid (Below wa.heap.size wa w3) := HW2.out.grown hgr HW2.out.size (fun k hk => by simp [Value.ownBlock] at hk; omega)
      obtain ⟨g1, c1', rfl, hgb1, hgl1, _⟩ := hm1.cases
      have HM3 : Hid (Mems w3 wa.heap.size (.slice (some ⟨g1, 0, none⟩) (setM ([] : List KV) key a).length c1') (setM ([] : List KV) key a)) := hm1
      have HL1 : Hid ((setM ([] : List KV) key a).length = 1) := rfl
      clear hm1 hgr HM2 HW2
      go_wp2_with fail
      refine (zzset wa.heap.size _ (setM ([] : List KV) key a) key b w3 HM3.out (by rw [HL1.out]; omega) HW3.out.size).mono ?_
      rintro e w4 ⟨m2, rfl, hm2, hgr⟩
      have HW4 : Hid (Below wa.heap.size wa w4) := HW3.out.grown hgr HW3.out.size (fun k hk => by simp [Value.ownBlock] at hk; omega)
      rw [set_set] at hm2
      obtain ⟨g2, c2', rfl, hgb2, hgl2, _⟩ := hm2.cases
      have HM4 : Hid (Mems w4 wa.heap.size (.slice (some ⟨g2, 0, none⟩) (setM ([] : List KV) key b).length c2') (setM ([] : List KV) key b)) := hm2
      have HLN : Hid ((setM ([] : List KV) key b).length = 1) := rfl
      rw [HLN.out] at HM4 ⊢
      clear hm2 hgr HM3 HW3 HL1
      go_wp2_with fail
      refine (zzbuild w.heap.size _ _ ([] : List KV) w4 (by simp) (Strs.below HS1.out HW4.out) (Strs.below HS2.out HW4.out)).mono ?_
      rintro e w5 ⟨m3, rfl, hm3, hb5⟩
      obtain ⟨g3, c3', rfl, hgb3, hgl3, _⟩ := hm3.cases
      have HM5 : Hid (Mems w5 w4.heap.size (.slice (some ⟨g3, 0, none⟩) 0 c3') ([] : List KV)) := hm3
      have HT5 : Hid (Mems w5 wa.heap.size (.slice (some ⟨g2, 0, none⟩) (1) c2') (setM ([] : List KV) key b)) := Mems.below HM4.out hb5
      have HW5 : Hid (Below wa.heap.size wa w5) := HW4.out.trans (hb5.mono HW4.out.size)
      have HZ5 : Hid (w4.heap.size ≤ w5.heap.size) := hb5.size
      clear hm3 hb5 HM4
      simp only [List.length_nil]
      go_wp2_with fail
      refine (zzset w4.heap.size _ ([] : List KV) key b w5 HM5.out (by simp) HZ5.out).mono ?_
      rintro e w6 ⟨m4, rfl, hm4, hgr⟩
      obtain ⟨g4, c4', rfl, hgb4, hgl4, _⟩ := hm4.cases
      rw [HLN.out] at hm4 ⊢
      have HT6 : Hid (Two wa wa.heap.size g2 c2' g4 c4' (1) (setM ([] : List KV) key b) w6) := by
        refine ⟨Mems.kept HT5.out hgr (.inr ?_), hm4.mono HW4.out.size, HW5.out.grown hgr HW5.out.size (fun k hk => ?_)⟩
        · simp [Value.ownBlock]; omega
        · have h4 := HW4.out.size
          simp [Value.ownBlock] at hk; omega
      clear hm4 hgr HM5 HT5 HW5 HW4 HZ5
      obtain ⟨B, hB⟩ : ∃ B, B = wa.heap.size := ⟨_, rfl⟩
      rw [← hB] at HT6
      clear hB
      go_wp2_with fail
      refine (zzkeys B _ (setM ([] : List KV) key b) w6 HT6.out.tw (by rw [HLN.out]; omega)).mono ?_
      rintro e w7 ⟨hr, hs, hb⟩
      rw [List.length_map, HLN.out] at hr hs
      subst hr
      have HT7 : Hid (Two wa B g2 c2' g4 c4' (1) (setM ([] : List KV) key b) w7) := HT6.out.kept hb
      have HA7 : Hid (Strs w7 w6.heap.size (.slice (some ⟨w6.heap.size, 0, none⟩) (1) (1)) ((setM ([] : List KV) key b).map Prod.fst)) := hs
      clear hs hb HT6
      go_wp2_with fail
      refine (zzkeys B _ (setM ([] : List KV) key b) w7 HT7.out.on (by rw [HLN.out]; omega)).mono ?_
      rintro e w8 ⟨hr, hs, hb⟩
      rw [List.length_map, HLN.out] at hr hs
      subst hr
      have HT8 : Hid (Two wa B g2 c2' g4 c4' (1) (setM ([] : List KV) key b) w8) := HT7.out.kept hb
      have HA8 : Hid (Strs w8 w6.heap.size (.slice (some ⟨w6.heap.size, 0, none⟩) (1) (1)) ((setM ([] : List KV) key b).map Prod.fst)) := Strs.below HA7.out hb
      have HB8 : Hid (Strs w8 w7.heap.size (.slice (some ⟨w7.heap.size, 0, none⟩) (1) (1)) ((setM ([] : List KV) key b).map Prod.fst)) := hs
      clear hs hb HT7 HA7
      go_wp2_with fail
      refine (same_strs w6.heap.size w7.heap.size _ _ (1) ((setM ([] : List KV) key b).map Prod.fst) w8 (by rw [List.length_map]; exact HLN.out) (by omega) HA8.out HB8.out).mono ?_
      rintro e w9 ⟨rfl, hb⟩
      have HT9 : Hid (Two wa B g2 c2' g4 c4' (1) (setM ([] : List KV) key b) w9) := HT8.out.kept hb
      have HRK9 : Hid (Strs w9 w6.heap.size (.slice (some ⟨w6.heap.size, 0, none⟩) (1) (1)) ((setM ([] : List KV) key b).map Prod.fst)) := Strs.below HA8.out hb
      clear hb HT8 HA8 HB8
      go_wp2_with fail
      refine (zzvals B _ (setM ([] : List KV) key b) w9 HT9.out.tw (by rw [HLN.out]; omega)).mono ?_
      rintro e w10 ⟨hr, hs, hb⟩
      rw [List.length_map, HLN.out] at hr hs
      subst hr
      have HT10 : Hid (Two wa B g2 c2' g4 c4' (1) (setM ([] : List KV) key b) w10) := HT9.out.kept hb
      have HA10 : Hid (Strs w10 w9.heap.size (.slice (some ⟨w9.heap.size, 0, none⟩) (1) (1)) ((setM ([] : List KV) key b).map Prod.snd)) := hs
      have HRK10 : Hid (Strs w10 w6.heap.size (.slice (some ⟨w6.heap.size, 0, none⟩) (1) (1)) ((setM ([] : List KV) key b).map Prod.fst)) := Strs.below HRK9.out hb
      clear hs hb HT9
      go_wp2_with fail
      refine (zzvals B _ (setM ([] : List KV) key b) w10 HT10.out.on (by rw [HLN.out]; omega)).mono ?_
      rintro e w11 ⟨hr, hs, hb⟩
      rw [List.length_map, HLN.out] at hr hs
      subst hr
      have HT11 : Hid (Two wa B g2 c2' g4 c4' (1) (setM ([] : List KV) key b) w11) := HT10.out.kept hb
      have HA11 : Hid (Strs w11 w9.heap.size (.slice (some ⟨w9.heap.size, 0, none⟩) (1) (1)) ((setM ([] : List KV) key b).map Prod.snd)) := Strs.below HA10.out hb
      have HB11 : Hid (Strs w11 w10.heap.size (.slice (some ⟨w10.heap.size, 0, none⟩) (1) (1)) ((setM ([] : List KV) key b).map Prod.snd)) := hs
      have HRK11 : Hid (Strs w11 w6.heap.size (.slice (some ⟨w6.heap.size, 0, none⟩) (1) (1)) ((setM ([] : List KV) key b).map Prod.fst)) := Strs.below HRK10.out hb
      clear hs hb HT10 HA10
      go_wp2_with fail
      refine (same_strs w9.heap.size w10.heap.size _ _ (1) ((setM ([] : List KV) key b).map Prod.snd) w11 (by rw [List.length_map]; exact HLN.out) (by omega) HA11.out HB11.out).mono ?_
      rintro e w12 ⟨rfl, hb⟩
      have HT12 : Hid (Two wa B g2 c2' g4 c4' (1) (setM ([] : List KV) key b) w12) := HT11.out.kept hb
      have HRK12 : Hid (Strs w12 w6.heap.size (.slice (some ⟨w6.heap.size, 0, none⟩) (1) (1)) ((setM ([] : List KV) key b).map Prod.fst)) := Strs.below HRK11.out hb
      clear hb HT11 HA11 HB11 HRK9 HRK10 HRK11
      go_wp2_with fail
      refine (zztags B _ (setM ([] : List KV) key b) w12 HT12.out.tw (by rw [HLN.out]; omega)).mono ?_
      rintro e w13 ⟨hr, hs, hb⟩
      rw [List.length_map, HLN.out] at hr hs
      subst hr
      have HT13 : Hid (Two wa B g2 c2' g4 c4' (1) (setM ([] : List KV) key b) w13) := HT12.out.kept hb
      have HA13 : Hid (Strs w13 w12.heap.size (.slice (some ⟨w12.heap.size, 0, none⟩) (1) (1)) ((setM ([] : List KV) key b).map (fun _ => ByteArray.empty))) := hs
      have HRK13 : Hid (Strs w13 w6.heap.size (.slice (some ⟨w6.heap.size, 0, none⟩) (1) (1)) ((setM ([] : List KV) key b).map Prod.fst)) := Strs.below HRK12.out hb
      clear hs hb HT12
      go_wp2_with fail
      refine (zztags B _ (setM ([] : List KV) key b) w13 HT13.out.on (by rw [HLN.out]; omega)).mono ?_
      rintro e w14 ⟨hr, hs, hb⟩
      rw [List.length_map, HLN.out] at hr hs
      subst hr
      have HT14 : Hid (Two wa B g2 c2' g4 c4' (1) (setM ([] : List KV) key b) w14) := HT13.out.kept hb
      have HA14 : Hid (Strs w14 w12.heap.size (.slice (some ⟨w12.heap.size, 0, none⟩) (1) (1)) ((setM ([] : List KV) key b).map (fun _ => ByteArray.empty))) := Strs.below HA13.out hb
      have HB14 : Hid (Strs w14 w13.heap.size (.slice (some ⟨w13.heap.size, 0, none⟩) (1) (1)) ((setM ([] : List KV) key b).map (fun _ => ByteArray.empty))) := hs
      have HRK14 : Hid (Strs w14 w6.heap.size (.slice (some ⟨w6.heap.size, 0, none⟩) (1) (1)) ((setM ([] : List KV) key b).map Prod.fst)) := Strs.below HRK13.out hb
      clear hs hb HT13 HA13
      go_wp2_with fail
      refine (same_strs w12.heap.size w13.heap.size _ _ (1) ((setM ([] : List KV) key b).map (fun _ => ByteArray.empty)) w14 (by rw [List.length_map]; exact HLN.out) (by omega) HA14.out HB14.out).mono ?_
      rintro e w15 ⟨rfl, hb⟩
      have HT15 : Hid (Two wa B g2 c2' g4 c4' (1) (setM ([] : List KV) key b) w15) := HT14.out.kept hb
      have HRK15 : Hid (Strs w15 w6.heap.size (.slice (some ⟨w6.heap.size, 0, none⟩) (1) (1)) ((setM ([] : List KV) key b).map Prod.fst)) := Strs.below HRK14.out hb
      clear hb HT14 HA14 HB14 HRK12 HRK13 HRK14
      go_wp2_with fail
      refine (zzget B _ (setM ([] : List KV) key b) key w15 HT15.out.tw (by rw [HLN.out]; omega)).mono ?_
      rintro e w16 ⟨hr, hb⟩
      rw [decide_eq_true set_get.1, set_get.2] at hr
      subst hr
      have HW16 : Hid (Below wa.heap.size wa w16) := HT15.out.below.trans (hb.mono HT15.out.below.size)
      have HRK16 : Hid (Strs w16 w6.heap.size (.slice (some ⟨w6.heap.size, 0, none⟩) (1) (1)) ((setM ([] : List KV) key b).map Prod.fst)) := Strs.below HRK15.out hb
      clear hb HT15 HRK15
      go_wp2_with fail
      refine (zzFirst w.heap.size _ [] key w16 (Strs.below HS1.out HW16.out) (by simp)).mono ?_
      rintro e w17 ⟨rfl, hw17⟩
      obtain rfl : w16 = w17 := hw17.symm
      rw [show first [] key = -1 from rfl]
      go_wp2_with fail
      refine wp_loop_rounds 1 ?_
      rw [rounds_succ]
      go_wp2
      go_ret
      exact ⟨rfl, below_back HW16.out HB0.out⟩

set_option maxRecDepth 100000 in
set_option maxHeartbeats 4000000 in
theorem zero4_zz (P : Prop) (a1 : Addr) (c1 : Nat) (a2 : Addr) (c2 : Nat) (key a b : ByteArray) (w : World)   (hp : P → key.size ≤ 1048576 ∧ a.size ≤ 1048576 ∧ b.size ≤ 1048576)
    (hb5 : Calls Try.prog 14 #[.slice (some a1) 0 c1, .slice (some a2) 0 c2, .string key, .string a, .string b] w (Answers P w)) :
    Calls Try.prog 4 #[.slice (some a1) 0 c1, .slice (some a2) 0 c2, .string key, .string a, .string b] w (Yes w) := by
  have hB : Below w.heap.size w w := Below.refl _ _
  obtain ⟨wa, hcp1, hs1, hb1⟩ := made_copy0 w a1 c1
  have S1 : Strs wa w.heap.size (.slice (some ⟨w.heap.size, 0, none⟩) 0 0) [] := hs1.mono hB.size
  have hB := hB.trans (hb1.mono hB.size)
  obtain ⟨wb, hcp2, hs2, hb2⟩ := made_copy0 wa a2 c2
  have S2 : Strs wb w.heap.size (.slice (some ⟨wa.heap.size, 0, none⟩) 0 0) [] := hs2.mono hB.size
  have S1 := S1.below hb2
  have hB := hB.trans (hb2.mono hB.size)
  have hmk := make22 0 (by omega)
  simp only [Int.natCast_zero] at hmk
  have HS1 : Hid _ := S1
  have HS2 : Hid _ := S2
  have HB0 : Hid _ := hB
  have H5 : Hid _ := hb5
  have HP : Hid _ := hp
  clear S1 S2 hB hb5 hp hs1 hb1 hs2 hb2
  go_enter Try.func4, Try.ntmps4
  go_wp2_with fail
  refine Calls.mono H5.out ?_
  rintro e w1 ⟨bb, rfl, hw1, hb⟩
  obtain rfl : w = w1 := hw1.symm
  cases bb with
  | false =>
    clear hb hcp1 hcp2
    go_wp2
    go_ret
    exact ⟨rfl, Below.refl _ _⟩
  | true =>
    obtain ⟨hz1, hz2, hz3⟩ := HP.out (hb rfl)
    clear hb H5 HP
    go_wp2_with fail
    refine (addStrings _ w.heap.size _ [] wb HS1.out (by simp)).mono ?_
    rintro e w2 ⟨t1, rfl, hw2⟩
    obtain rfl : wb = w2 := hw2.symm
    clear hcp1 hcp2
    go_wp2_with fail
    refine (addStrings _ w.heap.size _ [] wb HS2.out (by simp)).mono ?_
    rintro e w2 ⟨t2, rfl, hw2⟩
    obtain rfl : wb = w2 := hw2.symm
    by_cases ht : 1048576 < t2
    · go_wp2
      go_ret
      exact ⟨rfl, HB0.out⟩
    go_wp2_with fail
    refine (zzbuild w.heap.size _ _ ([] : List KV) wb (by simp) HS1.out HS2.out).mono ?_
    rintro e w2 ⟨m, rfl, hm, hbm⟩
    obtain ⟨g, cap, rfl, hgb, hgl, _⟩ := hm.cases
    have HM2 : Hid (Mems w2 wb.heap.size (.slice (some ⟨g, 0, none⟩) 0 cap) ([] : List KV)) := hm
    have HW2 : Hid (Below wb.heap.size wb w2) := hbm
    clear hm hbm
    simp only [List.length_nil]
    · skip
      go_wp2_with fail
      refine (zzset wb.heap.size _ ([] : List KV) key a w2 HM2.out (by simp) HW2.out.size).mono ?_
      rintro e w3 ⟨m1, rfl, hm1, hgr⟩
      have HW3 : Hid (Below wb.heap.size wb w3) := HW2.out.grown hgr HW2.out.size (fun k hk => by simp [Value.ownBlock] at hk; omega)
      obtain ⟨g1, c1', rfl, hgb1, hgl1, _⟩ := hm1.cases
      have HM3 : Hid (Mems w3 wb.heap.size (.slice (some ⟨g1, 0, none⟩) (setM ([] : List KV) key a).length c1') (setM ([] : List KV) key a)) := hm1
      have HL1 : Hid ((setM ([] : List KV) key a).length = 1) := rfl
      clear hm1 hgr HM2 HW2
      go_wp2_with fail
      refine (zzset wb.heap.size _ (setM ([] : List KV) key a) key b w3 HM3.out (by rw [HL1.out]; omega) HW3.out.size).mono ?_
      rintro e w4 ⟨m2, rfl, hm2, hgr⟩
      have HW4 : Hid (Below wb.heap.size wb w4) := HW3.out.grown hgr HW3.out.size (fun k hk => by simp [Value.ownBlock] at hk; omega)
      rw [set_set] at hm2
      obtain ⟨g2, c2', rfl, hgb2, hgl2, _⟩ := hm2.cases
      have HM4 : Hid (Mems w4 wb.heap.size (.slice (some ⟨g2, 0, none⟩) (setM ([] : List KV) key b).length c2') (setM ([] : List KV) key b)) := hm2
      have HLN : Hid ((setM ([] : List KV) key b).length = 1) := rfl
      rw [HLN.out] at HM4 ⊢
      clear hm2 hgr HM3 HW3 HL1
      go_wp2_with fail
      refine (zzbuild w.heap.size _ _ ([] : List KV) w4 (by simp) (Strs.below HS1.out HW4.out) (Strs.below HS2.out HW4.out)).mono ?_
      rintro e w5 ⟨m3, rfl, hm3, hb5⟩
      obtain ⟨g3, c3', rfl, hgb3, hgl3, _⟩ := hm3.cases
      have HM5 : Hid (Mems w5 w4.heap.size (.slice (some ⟨g3, 0, none⟩) 0 c3') ([] : List KV)) := hm3
      have HT5 : Hid (Mems w5 wb.heap.size (.slice (some ⟨g2, 0, none⟩) (1) c2') (setM ([] : List KV) key b)) := Mems.below HM4.out hb5
      have HW5 : Hid (Below wb.heap.size wb w5) := HW4.out.trans (hb5.mono HW4.out.size)
      have HZ5 : Hid (w4.heap.size ≤ w5.heap.size) := hb5.size
      clear hm3 hb5 HM4
      simp only [List.length_nil]
      go_wp2_with fail
      refine (zzset w4.heap.size _ ([] : List KV) key b w5 HM5.out (by simp) HZ5.out).mono ?_
      rintro e w6 ⟨m4, rfl, hm4, hgr⟩
      obtain ⟨g4, c4', rfl, hgb4, hgl4, _⟩ := hm4.cases
      rw [HLN.out] at hm4 ⊢
      have HT6 : Hid (Two wb wb.heap.size g2 c2' g4 c4' (1) (setM ([] : List KV) key b) w6) := by
        refine ⟨Mems.kept HT5.out hgr (.inr ?_), hm4.mono HW4.out.size, HW5.out.grown hgr HW5.out.size (fun k hk => ?_)⟩
        · simp [Value.ownBlock]; omega
        · have h4 := HW4.out.size
          simp [Value.ownBlock] at hk; omega
      clear hm4 hgr HM5 HT5 HW5 HW4 HZ5
      obtain ⟨B, hB⟩ : ∃ B, B = wb.heap.size := ⟨_, rfl⟩
      rw [← hB] at HT6
      clear hB
      go_wp2_with fail
      refine (zzkeys B _ (setM ([] : List KV) key b) w6 HT6.out.tw (by rw [HLN.out]; omega)).mono ?_
      rintro e w7 ⟨hr, hs, hb⟩
      rw [List.length_map, HLN.out] at hr hs
      subst hr
      have HT7 : Hid (Two wb B g2 c2' g4 c4' (1) (setM ([] : List KV) key b) w7) := HT6.out.kept hb
      have HA7 : Hid (Strs w7 w6.heap.size (.slice (some ⟨w6.heap.size, 0, none⟩) (1) (1)) ((setM ([] : List KV) key b).map Prod.fst)) := hs
      clear hs hb HT6
      go_wp2_with fail
      refine (zzkeys B _ (setM ([] : List KV) key b) w7 HT7.out.on (by rw [HLN.out]; omega)).mono ?_
      rintro e w8 ⟨hr, hs, hb⟩
      rw [List.length_map, HLN.out] at hr hs
      subst hr
      have HT8 : Hid (Two wb B g2 c2' g4 c4' (1) (setM ([] : List KV) key b) w8) := HT7.out.kept hb
      have HA8 : Hid (Strs w8 w6.heap.size (.slice (some ⟨w6.heap.size, 0, none⟩) (1) (1)) ((setM ([] : List KV) key b).map Prod.fst)) := Strs.below HA7.out hb
      have HB8 : Hid (Strs w8 w7.heap.size (.slice (some ⟨w7.heap.size, 0, none⟩) (1) (1)) ((setM ([] : List KV) key b).map Prod.fst)) := hs
      clear hs hb HT7 HA7
      go_wp2_with fail
      refine (same_strs w6.heap.size w7.heap.size _ _ (1) ((setM ([] : List KV) key b).map Prod.fst) w8 (by rw [List.length_map]; exact HLN.out) (by omega) HA8.out HB8.out).mono ?_
      rintro e w9 ⟨rfl, hb⟩
      have HT9 : Hid (Two wb B g2 c2' g4 c4' (1) (setM ([] : List KV) key b) w9) := HT8.out.kept hb
      have HRK9 : Hid (Strs w9 w6.heap.size (.slice (some ⟨w6.heap.size, 0, none⟩) (1) (1)) ((setM ([] : List KV) key b).map Prod.fst)) := Strs.below HA8.out hb
      clear hb HT8 HA8 HB8
      go_wp2_with fail
      refine (zzvals B _ (setM ([] : List KV) key b) w9 HT9.out.tw (by rw [HLN.out]; omega)).mono ?_
      rintro e w10 ⟨hr, hs, hb⟩
      rw [List.length_map, HLN.out] at hr hs
      subst hr
      have HT10 : Hid (Two wb B g2 c2' g4 c4' (1) (setM ([] : List KV) key b) w10) := HT9.out.kept hb
      have HA10 : Hid (Strs w10 w9.heap.size (.slice (some ⟨w9.heap.size, 0, none⟩) (1) (1)) ((setM ([] : List KV) key b).map Prod.snd)) := hs
      have HRK10 : Hid (Strs w10 w6.heap.size (.slice (some ⟨w6.heap.size, 0, none⟩) (1) (1)) ((setM ([] : List KV) key b).map Prod.fst)) := Strs.below HRK9.out hb
      clear hs hb HT9
      go_wp2_with fail
      refine (zzvals B _ (setM ([] : List KV) key b) w10 HT10.out.on (by rw [HLN.out]; omega)).mono ?_
      rintro e w11 ⟨hr, hs, hb⟩
      rw [List.length_map, HLN.out] at hr hs
      subst hr
      have HT11 : Hid (Two wb B g2 c2' g4 c4' (1) (setM ([] : List KV) key b) w11) := HT10.out.kept hb
      have HA11 : Hid (Strs w11 w9.heap.size (.slice (some ⟨w9.heap.size, 0, none⟩) (1) (1)) ((setM ([] : List KV) key b).map Prod.snd)) := Strs.below HA10.out hb
      have HB11 : Hid (Strs w11 w10.heap.size (.slice (some ⟨w10.heap.size, 0, none⟩) (1) (1)) ((setM ([] : List KV) key b).map Prod.snd)) := hs
      have HRK11 : Hid (Strs w11 w6.heap.size (.slice (some ⟨w6.heap.size, 0, none⟩) (1) (1)) ((setM ([] : List KV) key b).map Prod.fst)) := Strs.below HRK10.out hb
      clear hs hb HT10 HA10
      go_wp2_with fail
      refine (same_strs w9.heap.size w10.heap.size _ _ (1) ((setM ([] : List KV) key b).map Prod.snd) w11 (by rw [List.length_map]; exact HLN.out) (by omega) HA11.out HB11.out).mono ?_
      rintro e w12 ⟨rfl, hb⟩
      have HT12 : Hid (Two wb B g2 c2' g4 c4' (1) (setM ([] : List KV) key b) w12) := HT11.out.kept hb
      have HRK12 : Hid (Strs w12 w6.heap.size (.slice (some ⟨w6.heap.size, 0, none⟩) (1) (1)) ((setM ([] : List KV) key b).map Prod.fst)) := Strs.below HRK11.out hb
      clear hb HT11 HA11 HB11 HRK9 HRK10 HRK11
      go_wp2_with fail
      refine (zztags B _ (setM ([] : List KV) key b) w12 HT12.out.tw (by rw [HLN.out]; omega)).mono ?_
      rintro e w13 ⟨hr, hs, hb⟩
      rw [List.length_map, HLN.out] at hr hs
      subst hr
      have HT13 : Hid (Two wb B g2 c2' g4 c4' (1) (setM ([] : List KV) key b) w13) := HT12.out.kept hb
      have HA13 : Hid (Strs w13 w12.heap.size (.slice (some ⟨w12.heap.size, 0, none⟩) (1) (1)) ((setM ([] : List KV) key b).map (fun _ => ByteArray.empty))) := hs
      have HRK13 : Hid (Strs w13 w6.heap.size (.slice (some ⟨w6.heap.size, 0, none⟩) (1) (1)) ((setM ([] : List KV) key b).map Prod.fst)) := Strs.below HRK12.out hb
      clear hs hb HT12
      go_wp2_with fail
      refine (zztags B _ (setM ([] : List KV) key b) w13 HT13.out.on (by rw [HLN.out]; omega)).mono ?_
      rintro e w14 ⟨hr, hs, hb⟩
      rw [List.length_map, HLN.out] at hr hs
      subst hr
      have HT14 : Hid (Two wb B g2 c2' g4 c4' (1) (setM ([] : List KV) key b) w14) := HT13.out.kept hb
      have HA14 : Hid (Strs w14 w12.heap.size (.slice (some ⟨w12.heap.size, 0, none⟩) (1) (1)) ((setM ([] : List KV) key b).map (fun _ => ByteArray.empty))) := Strs.below HA13.out hb
      have HB14 : Hid (Strs w14 w13.heap.size (.slice (some ⟨w13.heap.size, 0, none⟩) (1) (1)) ((setM ([] : List KV) key b).map (fun _ => ByteArray.empty))) := hs
      have HRK14 : Hid (Strs w14 w6.heap.size (.slice (some ⟨w6.heap.size, 0, none⟩) (1) (1)) ((setM ([] : List KV) key b).map Prod.fst)) := Strs.below HRK13.out hb
      clear hs hb HT13 HA13
      go_wp2_with fail
      refine (same_strs w12.heap.size w13.heap.size _ _ (1) ((setM ([] : List KV) key b).map (fun _ => ByteArray.empty)) w14 (by rw [List.length_map]; exact HLN.out) (by omega) HA14.out HB14.out).mono ?_
      rintro e w15 ⟨rfl, hb⟩
      have HT15 : Hid (Two wb B g2 c2' g4 c4' (1) (setM ([] : List KV) key b) w15) := HT14.out.kept hb
      have HRK15 : Hid (Strs w15 w6.heap.size (.slice (some ⟨w6.heap.size, 0, none⟩) (1) (1)) ((setM ([] : List KV) key b).map Prod.fst)) := Strs.below HRK14.out hb
      clear hb HT14 HA14 HB14 HRK12 HRK13 HRK14
      go_wp2_with fail
      refine (zzget B _ (setM ([] : List KV) key b) key w15 HT15.out.tw (by rw [HLN.out]; omega)).mono ?_
      rintro e w16 ⟨hr, hb⟩
      rw [decide_eq_true set_get.1, set_get.2] at hr
      subst hr
      have HW16 : Hid (Below wb.heap.size wb w16) := HT15.out.below.trans (hb.mono HT15.out.below.size)
      have HRK16 : Hid (Strs w16 w6.heap.size (.slice (some ⟨w6.heap.size, 0, none⟩) (1) (1)) ((setM ([] : List KV) key b).map Prod.fst)) := Strs.below HRK15.out hb
      clear hb HT15 HRK15
      go_wp2_with fail
      refine (zzFirst w.heap.size _ [] key w16 (Strs.below HS1.out HW16.out) (by simp)).mono ?_
      rintro e w17 ⟨rfl, hw17⟩
      obtain rfl : w16 = w17 := hw17.symm
      rw [show first [] key = -1 from rfl]
      go_wp2_with fail
      refine wp_loop_rounds 1 ?_
      rw [rounds_succ]
      go_wp2
      go_ret
      exact ⟨rfl, below_back HW16.out HB0.out⟩

set_option maxRecDepth 100000 in
set_option maxHeartbeats 4000000 in
theorem main4_ss (P : Prop) (b1 o1 c1 b2 o2 c2 : Nat) (ps : List KV) (key a b : ByteArray) (w : World) (hn : ps.length ≤ 4096) (hg1 : b1 < w.heap.size) (hg2 : b2 < w.heap.size) (hk1 : ∀ i, i < ps.length → w.cell? ⟨b1, o1 + i, none⟩ = some (.string (keyAt ps i))) (hk2 : ∀ i, i < ps.length → w.cell? ⟨b2, o2 + i, none⟩ = some (.string (valAt ps i)))  (hp : P → key.size ≤ 1048576 ∧ a.size ≤ 1048576 ∧ b.size ≤ 1048576)
    (hb5 : Calls Try.prog 14 #[.slice (some ⟨b1, o1, none⟩) ps.length c1, .slice (some ⟨b2, o2, none⟩) ps.length c2, .string key, .string a, .string b] w (Answers P w)) :
    Calls Try.prog 4 #[.slice (some ⟨b1, o1, none⟩) ps.length c1, .slice (some ⟨b2, o2, none⟩) ps.length c2, .string key, .string a, .string b] w (Yes w) := by
  obtain ⟨wa, hcp1, hs1, hb1⟩ := made_copy w (ps.map Prod.fst) b1 o1 c1 (by simp; omega) hg1 (fun i hi => by rw [getD_map1]; exact hk1 i (by simpa using hi))
  obtain ⟨wb, hcp2, hs2, hb2⟩ := made_copy wa (ps.map Prod.snd) b2 o2 c2 (by simp; omega) (Nat.lt_of_lt_of_le hg2 hb1.size) (fun i hi => by rw [getD_map2, hb1.cell (p := ⟨b2, o2 + i, none⟩) hg2]; exact hk2 i (by simpa using hi))
  rw [List.length_map] at hcp1 hcp2
  have S1 : Strs wb w.heap.size (.slice (some ⟨w.heap.size, 0, none⟩) ps.length ps.length) (ps.map Prod.fst) := by have := hs1.below hb2; rwa [List.length_map] at this
  have S2 : Strs wb w.heap.size (.slice (some ⟨wa.heap.size, 0, none⟩) ps.length ps.length) (ps.map Prod.snd) := by have := hs2.mono hb1.size; rwa [List.length_map] at this
  have hB : Below w.heap.size w wb := hb1.trans (hb2.mono hb1.size)
  have hmk := make22 ps.length (by omega)
  have HS1 : Hid _ := S1
  have HS2 : Hid _ := S2
  have HB0 : Hid _ := hB
  have H5 : Hid _ := hb5
  have HP : Hid _ := hp
  clear S1 S2 hB hb5 hp hs1 hb1 hk1 hs2 hb2 hk2
  go_enter Try.func4, Try.ntmps4
  go_wp2_with fail
  refine Calls.mono H5.out ?_
  rintro e w1 ⟨bb, rfl, hw1, hb⟩
  obtain rfl : w = w1 := hw1.symm
  cases bb with
  | false =>
    clear hb hcp1 hcp2
    go_wp2
    go_ret
    exact ⟨rfl, Below.refl _ _⟩
  | true =>
    obtain ⟨hz1, hz2, hz3⟩ := HP.out (hb rfl)
    clear hb H5 HP
    go_wp2_with fail
    refine (addStrings _ w.heap.size _ (ps.map Prod.fst) wb HS1.out (by simp <;> omega)).mono ?_
    rintro e w2 ⟨t1, rfl, hw2⟩
    obtain rfl : wb = w2 := hw2.symm
    clear hcp1 hcp2
    go_wp2_with fail
    refine (addStrings _ w.heap.size _ (ps.map Prod.snd) wb HS2.out (by simp <;> omega)).mono ?_
    rintro e w2 ⟨t2, rfl, hw2⟩
    obtain rfl : wb = w2 := hw2.symm
    by_cases ht : 1048576 < t2
    · go_wp2
      go_ret
      exact ⟨rfl, HB0.out⟩
    go_wp2_with fail
    refine (zzbuild w.heap.size _ _ ps wb (by omega) HS1.out HS2.out).mono ?_
    rintro e w2 ⟨m, rfl, hm, hbm⟩
    obtain ⟨g, cap, rfl, hgb, hgl, _⟩ := hm.cases
    have HM2 : Hid (Mems w2 wb.heap.size (.slice (some ⟨g, 0, none⟩) ps.length cap) ps) := hm
    have HW2 : Hid (Below wb.heap.size wb w2) := hbm
    clear hm hbm
    rcases Nat.lt_or_ge (kf ps key) ps.length with hh | hh <;> (have HH : Hid _ := hh; clear hh)
    · skip
      go_wp2_with fail
      refine (zzset wb.heap.size _ ps key a w2 HM2.out (by omega) HW2.out.size).mono ?_
      rintro e w3 ⟨m1, rfl, hm1, hgr⟩
      have HW3 : Hid (Below wb.heap.size wb w3) := HW2.out.grown hgr HW2.out.size (fun k hk => by simp [Value.ownBlock] at hk; omega)
      obtain ⟨g1, c1', rfl, hgb1, hgl1, _⟩ := hm1.cases
      have HM3 : Hid (Mems w3 wb.heap.size (.slice (some ⟨g1, 0, none⟩) (setM ps key a).length c1') (setM ps key a)) := hm1
      have HL1 : Hid ((setM ps key a).length = ps.length) := set_length_hit HH.out
      clear hm1 hgr HM2 HW2
      go_wp2_with fail
      refine (zzset wb.heap.size _ (setM ps key a) key b w3 HM3.out (by rw [HL1.out]; omega) HW3.out.size).mono ?_
      rintro e w4 ⟨m2, rfl, hm2, hgr⟩
      have HW4 : Hid (Below wb.heap.size wb w4) := HW3.out.grown hgr HW3.out.size (fun k hk => by simp [Value.ownBlock] at hk; omega)
      rw [set_set] at hm2
      obtain ⟨g2, c2', rfl, hgb2, hgl2, _⟩ := hm2.cases
      have HM4 : Hid (Mems w4 wb.heap.size (.slice (some ⟨g2, 0, none⟩) (setM ps key b).length c2') (setM ps key b)) := hm2
      have HLN : Hid ((setM ps key b).length = ps.length) := set_length_hit HH.out
      rw [HLN.out] at HM4 ⊢
      clear hm2 hgr HM3 HW3 HL1
      go_wp2_with fail
      refine (zzbuild w.heap.size _ _ ps w4 (by omega) (Strs.below HS1.out HW4.out) (Strs.below HS2.out HW4.out)).mono ?_
      rintro e w5 ⟨m3, rfl, hm3, hb5⟩
      obtain ⟨g3, c3', rfl, hgb3, hgl3, _⟩ := hm3.cases
      have HM5 : Hid (Mems w5 w4.heap.size (.slice (some ⟨g3, 0, none⟩) ps.length c3') ps) := hm3
      have HT5 : Hid (Mems w5 wb.heap.size (.slice (some ⟨g2, 0, none⟩) (ps.length) c2') (setM ps key b)) := Mems.below HM4.out hb5
      have HW5 : Hid (Below wb.heap.size wb w5) := HW4.out.trans (hb5.mono HW4.out.size)
      have HZ5 : Hid (w4.heap.size ≤ w5.heap.size) := hb5.size
      clear hm3 hb5 HM4
      skip
      go_wp2_with fail
      refine (zzset w4.heap.size _ ps key b w5 HM5.out (by omega) HZ5.out).mono ?_
      rintro e w6 ⟨m4, rfl, hm4, hgr⟩
      obtain ⟨g4, c4', rfl, hgb4, hgl4, _⟩ := hm4.cases
      rw [HLN.out] at hm4 ⊢
      have HT6 : Hid (Two wb wb.heap.size g2 c2' g4 c4' (ps.length) (setM ps key b) w6) := by
        refine ⟨Mems.kept HT5.out hgr (.inr ?_), hm4.mono HW4.out.size, HW5.out.grown hgr HW5.out.size (fun k hk => ?_)⟩
        · simp [Value.ownBlock]; omega
        · have h4 := HW4.out.size
          simp [Value.ownBlock] at hk; omega
      clear hm4 hgr HM5 HT5 HW5 HW4 HZ5
      obtain ⟨B, hB⟩ : ∃ B, B = wb.heap.size := ⟨_, rfl⟩
      rw [← hB] at HT6
      clear hB
      go_wp2_with fail
      refine (zzkeys B _ (setM ps key b) w6 HT6.out.tw (by rw [HLN.out]; omega)).mono ?_
      rintro e w7 ⟨hr, hs, hb⟩
      rw [List.length_map, HLN.out] at hr hs
      subst hr
      have HT7 : Hid (Two wb B g2 c2' g4 c4' (ps.length) (setM ps key b) w7) := HT6.out.kept hb
      have HA7 : Hid (Strs w7 w6.heap.size (.slice (some ⟨w6.heap.size, 0, none⟩) (ps.length) (ps.length)) ((setM ps key b).map Prod.fst)) := hs
      clear hs hb HT6
      go_wp2_with fail
      refine (zzkeys B _ (setM ps key b) w7 HT7.out.on (by rw [HLN.out]; omega)).mono ?_
      rintro e w8 ⟨hr, hs, hb⟩
      rw [List.length_map, HLN.out] at hr hs
      subst hr
      have HT8 : Hid (Two wb B g2 c2' g4 c4' (ps.length) (setM ps key b) w8) := HT7.out.kept hb
      have HA8 : Hid (Strs w8 w6.heap.size (.slice (some ⟨w6.heap.size, 0, none⟩) (ps.length) (ps.length)) ((setM ps key b).map Prod.fst)) := Strs.below HA7.out hb
      have HB8 : Hid (Strs w8 w7.heap.size (.slice (some ⟨w7.heap.size, 0, none⟩) (ps.length) (ps.length)) ((setM ps key b).map Prod.fst)) := hs
      clear hs hb HT7 HA7
      go_wp2_with fail
      refine (same_strs w6.heap.size w7.heap.size _ _ (ps.length) ((setM ps key b).map Prod.fst) w8 (by rw [List.length_map]; exact HLN.out) (by omega) HA8.out HB8.out).mono ?_
      rintro e w9 ⟨rfl, hb⟩
      have HT9 : Hid (Two wb B g2 c2' g4 c4' (ps.length) (setM ps key b) w9) := HT8.out.kept hb
      have HRK9 : Hid (Strs w9 w6.heap.size (.slice (some ⟨w6.heap.size, 0, none⟩) (ps.length) (ps.length)) ((setM ps key b).map Prod.fst)) := Strs.below HA8.out hb
      clear hb HT8 HA8 HB8
      go_wp2_with fail
      refine (zzvals B _ (setM ps key b) w9 HT9.out.tw (by rw [HLN.out]; omega)).mono ?_
      rintro e w10 ⟨hr, hs, hb⟩
      rw [List.length_map, HLN.out] at hr hs
      subst hr
      have HT10 : Hid (Two wb B g2 c2' g4 c4' (ps.length) (setM ps key b) w10) := HT9.out.kept hb
      have HA10 : Hid (Strs w10 w9.heap.size (.slice (some ⟨w9.heap.size, 0, none⟩) (ps.length) (ps.length)) ((setM ps key b).map Prod.snd)) := hs
      have HRK10 : Hid (Strs w10 w6.heap.size (.slice (some ⟨w6.heap.size, 0, none⟩) (ps.length) (ps.length)) ((setM ps key b).map Prod.fst)) := Strs.below HRK9.out hb
      clear hs hb HT9
      go_wp2_with fail
      refine (zzvals B _ (setM ps key b) w10 HT10.out.on (by rw [HLN.out]; omega)).mono ?_
      rintro e w11 ⟨hr, hs, hb⟩
      rw [List.length_map, HLN.out] at hr hs
      subst hr
      have HT11 : Hid (Two wb B g2 c2' g4 c4' (ps.length) (setM ps key b) w11) := HT10.out.kept hb
      have HA11 : Hid (Strs w11 w9.heap.size (.slice (some ⟨w9.heap.size, 0, none⟩) (ps.length) (ps.length)) ((setM ps key b).map Prod.snd)) := Strs.below HA10.out hb
      have HB11 : Hid (Strs w11 w10.heap.size (.slice (some ⟨w10.heap.size, 0, none⟩) (ps.length) (ps.length)) ((setM ps key b).map Prod.snd)) := hs
      have HRK11 : Hid (Strs w11 w6.heap.size (.slice (some ⟨w6.heap.size, 0, none⟩) (ps.length) (ps.length)) ((setM ps key b).map Prod.fst)) := Strs.below HRK10.out hb
      clear hs hb HT10 HA10
      go_wp2_with fail
      refine (same_strs w9.heap.size w10.heap.size _ _ (ps.length) ((setM ps key b).map Prod.snd) w11 (by rw [List.length_map]; exact HLN.out) (by omega) HA11.out HB11.out).mono ?_
      rintro e w12 ⟨rfl, hb⟩
      have HT12 : Hid (Two wb B g2 c2' g4 c4' (ps.length) (setM ps key b) w12) := HT11.out.kept hb
      have HRK12 : Hid (Strs w12 w6.heap.size (.slice (some ⟨w6.heap.size, 0, none⟩) (ps.length) (ps.length)) ((setM ps key b).map Prod.fst)) := Strs.below HRK11.out hb
      clear hb HT11 HA11 HB11 HRK9 HRK10 HRK11
      go_wp2_with fail
      refine (zztags B _ (setM ps key b) w12 HT12.out.tw (by rw [HLN.out]; omega)).mono ?_
      rintro e w13 ⟨hr, hs, hb⟩
      rw [List.length_map, HLN.out] at hr hs
      subst hr
      have HT13 : Hid (Two wb B g2 c2' g4 c4' (ps.length) (setM ps key b) w13) := HT12.out.kept hb
      have HA13 : Hid (Strs w13 w12.heap.size (.slice (some ⟨w12.heap.size, 0, none⟩) (ps.length) (ps.length)) ((setM ps key b).map (fun _ => ByteArray.empty))) := hs
      have HRK13 : Hid (Strs w13 w6.heap.size (.slice (some ⟨w6.heap.size, 0, none⟩) (ps.length) (ps.length)) ((setM ps key b).map Prod.fst)) := Strs.below HRK12.out hb
      clear hs hb HT12
      go_wp2_with fail
      refine (zztags B _ (setM ps key b) w13 HT13.out.on (by rw [HLN.out]; omega)).mono ?_
      rintro e w14 ⟨hr, hs, hb⟩
      rw [List.length_map, HLN.out] at hr hs
      subst hr
      have HT14 : Hid (Two wb B g2 c2' g4 c4' (ps.length) (setM ps key b) w14) := HT13.out.kept hb
      have HA14 : Hid (Strs w14 w12.heap.size (.slice (some ⟨w12.heap.size, 0, none⟩) (ps.length) (ps.length)) ((setM ps key b).map (fun _ => ByteArray.empty))) := Strs.below HA13.out hb
      have HB14 : Hid (Strs w14 w13.heap.size (.slice (some ⟨w13.heap.size, 0, none⟩) (ps.length) (ps.length)) ((setM ps key b).map (fun _ => ByteArray.empty))) := hs
      have HRK14 : Hid (Strs w14 w6.heap.size (.slice (some ⟨w6.heap.size, 0, none⟩) (ps.length) (ps.length)) ((setM ps key b).map Prod.fst)) := Strs.below HRK13.out hb
      clear hs hb HT13 HA13
      go_wp2_with fail
      refine (same_strs w12.heap.size w13.heap.size _ _ (ps.length) ((setM ps key b).map (fun _ => ByteArray.empty)) w14 (by rw [List.length_map]; exact HLN.out) (by omega) HA14.out HB14.out).mono ?_
      rintro e w15 ⟨rfl, hb⟩
      have HT15 : Hid (Two wb B g2 c2' g4 c4' (ps.length) (setM ps key b) w15) := HT14.out.kept hb
      have HRK15 : Hid (Strs w15 w6.heap.size (.slice (some ⟨w6.heap.size, 0, none⟩) (ps.length) (ps.length)) ((setM ps key b).map Prod.fst)) := Strs.below HRK14.out hb
      clear hb HT14 HA14 HB14 HRK12 HRK13 HRK14
      go_wp2_with fail
      refine (zzget B _ (setM ps key b) key w15 HT15.out.tw (by rw [HLN.out]; omega)).mono ?_
      rintro e w16 ⟨hr, hb⟩
      rw [decide_eq_true set_get.1, set_get.2] at hr
      subst hr
      have HW16 : Hid (Below wb.heap.size wb w16) := HT15.out.below.trans (hb.mono HT15.out.below.size)
      have HRK16 : Hid (Strs w16 w6.heap.size (.slice (some ⟨w6.heap.size, 0, none⟩) (ps.length) (ps.length)) ((setM ps key b).map Prod.fst)) := Strs.below HRK15.out hb
      clear hb HT15 HRK15
      go_wp2_with fail
      refine (zzFirst w.heap.size _ (ps.map Prod.fst) key w16 (Strs.below HS1.out HW16.out) (by simp <;> omega)).mono ?_
      rintro e w17 ⟨rfl, hw17⟩
      obtain rfl : w16 = w17 := hw17.symm
      rw [first_hit HH.out]
      go_wp2_with fail
      go_loopw [20] (fun i wr => ∃ k : Nat, k ≤ ps.length ∧ i = .int .i64 k ∧ ∃ nd, wr = w16.drewN nd) (fun i _ => ps.length - (intOf i).toNat)
      case atStart => exact ⟨0, Nat.zero_le _, rfl, 0, rfl⟩
      case round =>
        obtain ⟨k, hk, rfl, nd, rfl⟩ := hrel
        by_cases hlt : k < ps.length
        · have d1 : w16.cell? ⟨w6.heap.size, k, none⟩ = some (.string (keyAt ps k)) := by
            have := Strs.cellAt HRK16.out k (by rw [List.length_map, HLN.out]; omega)
            rw [getD_map1] at this
            rw [this]
            exact congrArg (fun x => some (Value.string x)) (set_key (val := b) hlt)
          have d2 : w16.cell? ⟨w.heap.size, k, none⟩ = some (.string (keyAt ps k)) := by
            have := Strs.cellAt (Strs.below HS1.out HW16.out) k (by simpa using hlt)
            rwa [getD_map1] at this
          go_wp2_with fail
          go_quiet (fail)
          go_wp2
          go_roundw
          case rel => exact ⟨k + 1, by omega, by go_num, _, rfl⟩
          case measure => simp [intOf]; omega
        · go_wp2
          go_ret
          exact ⟨rfl, (below_back HW16.out HB0.out).trans ⟨rfl, rfl, rfl, Nat.le_refl _, fun _ _ => rfl⟩⟩
    · skip
      go_wp2_with fail
      refine (zzset wb.heap.size _ ps key a w2 HM2.out (by omega) HW2.out.size).mono ?_
      rintro e w3 ⟨m1, rfl, hm1, hgr⟩
      have HW3 : Hid (Below wb.heap.size wb w3) := HW2.out.grown hgr HW2.out.size (fun k hk => by simp [Value.ownBlock] at hk; omega)
      obtain ⟨g1, c1', rfl, hgb1, hgl1, _⟩ := hm1.cases
      have HM3 : Hid (Mems w3 wb.heap.size (.slice (some ⟨g1, 0, none⟩) (setM ps key a).length c1') (setM ps key a)) := hm1
      have HL1 : Hid ((setM ps key a).length = ps.length + 1) := set_length_miss HH.out
      clear hm1 hgr HM2 HW2
      go_wp2_with fail
      refine (zzset wb.heap.size _ (setM ps key a) key b w3 HM3.out (by rw [HL1.out]; omega) HW3.out.size).mono ?_
      rintro e w4 ⟨m2, rfl, hm2, hgr⟩
      have HW4 : Hid (Below wb.heap.size wb w4) := HW3.out.grown hgr HW3.out.size (fun k hk => by simp [Value.ownBlock] at hk; omega)
      rw [set_set] at hm2
      obtain ⟨g2, c2', rfl, hgb2, hgl2, _⟩ := hm2.cases
      have HM4 : Hid (Mems w4 wb.heap.size (.slice (some ⟨g2, 0, none⟩) (setM ps key b).length c2') (setM ps key b)) := hm2
      have HLN : Hid ((setM ps key b).length = ps.length + 1) := set_length_miss HH.out
      rw [HLN.out] at HM4 ⊢
      clear hm2 hgr HM3 HW3 HL1
      go_wp2_with fail
      refine (zzbuild w.heap.size _ _ ps w4 (by omega) (Strs.below HS1.out HW4.out) (Strs.below HS2.out HW4.out)).mono ?_
      rintro e w5 ⟨m3, rfl, hm3, hb5⟩
      obtain ⟨g3, c3', rfl, hgb3, hgl3, _⟩ := hm3.cases
      have HM5 : Hid (Mems w5 w4.heap.size (.slice (some ⟨g3, 0, none⟩) ps.length c3') ps) := hm3
      have HT5 : Hid (Mems w5 wb.heap.size (.slice (some ⟨g2, 0, none⟩) (ps.length + 1) c2') (setM ps key b)) := Mems.below HM4.out hb5
      have HW5 : Hid (Below wb.heap.size wb w5) := HW4.out.trans (hb5.mono HW4.out.size)
      have HZ5 : Hid (w4.heap.size ≤ w5.heap.size) := hb5.size
      clear hm3 hb5 HM4
      skip
      go_wp2_with fail
      refine (zzset w4.heap.size _ ps key b w5 HM5.out (by omega) HZ5.out).mono ?_
      rintro e w6 ⟨m4, rfl, hm4, hgr⟩
      obtain ⟨g4, c4', rfl, hgb4, hgl4, _⟩ := hm4.cases
      rw [HLN.out] at hm4 ⊢
      have HT6 : Hid (Two wb wb.heap.size g2 c2' g4 c4' (ps.length + 1) (setM ps key b) w6) := by
        refine ⟨Mems.kept HT5.out hgr (.inr ?_), hm4.mono HW4.out.size, HW5.out.grown hgr HW5.out.size (fun k hk => ?_)⟩
        · simp [Value.ownBlock]; omega
        · have h4 := HW4.out.size
          simp [Value.ownBlock] at hk; omega
      clear hm4 hgr HM5 HT5 HW5 HW4 HZ5
      obtain ⟨B, hB⟩ : ∃ B, B = wb.heap.size := ⟨_, rfl⟩
      rw [← hB] at HT6
      clear hB
      go_wp2_with fail
      refine (zzkeys B _ (setM ps key b) w6 HT6.out.tw (by rw [HLN.out]; omega)).mono ?_
      rintro e w7 ⟨hr, hs, hb⟩
      rw [List.length_map, HLN.out] at hr hs
      subst hr
      have HT7 : Hid (Two wb B g2 c2' g4 c4' (ps.length + 1) (setM ps key b) w7) := HT6.out.kept hb
      have HA7 : Hid (Strs w7 w6.heap.size (.slice (some ⟨w6.heap.size, 0, none⟩) (ps.length + 1) (ps.length + 1)) ((setM ps key b).map Prod.fst)) := hs
      clear hs hb HT6
      go_wp2_with fail
      refine (zzkeys B _ (setM ps key b) w7 HT7.out.on (by rw [HLN.out]; omega)).mono ?_
      rintro e w8 ⟨hr, hs, hb⟩
      rw [List.length_map, HLN.out] at hr hs
      subst hr
      have HT8 : Hid (Two wb B g2 c2' g4 c4' (ps.length + 1) (setM ps key b) w8) := HT7.out.kept hb
      have HA8 : Hid (Strs w8 w6.heap.size (.slice (some ⟨w6.heap.size, 0, none⟩) (ps.length + 1) (ps.length + 1)) ((setM ps key b).map Prod.fst)) := Strs.below HA7.out hb
      have HB8 : Hid (Strs w8 w7.heap.size (.slice (some ⟨w7.heap.size, 0, none⟩) (ps.length + 1) (ps.length + 1)) ((setM ps key b).map Prod.fst)) := hs
      clear hs hb HT7 HA7
      go_wp2_with fail
      refine (same_strs w6.heap.size w7.heap.size _ _ (ps.length + 1) ((setM ps key b).map Prod.fst) w8 (by rw [List.length_map]; exact HLN.out) (by omega) HA8.out HB8.out).mono ?_
      rintro e w9 ⟨rfl, hb⟩
      have HT9 : Hid (Two wb B g2 c2' g4 c4' (ps.length + 1) (setM ps key b) w9) := HT8.out.kept hb
      have HRK9 : Hid (Strs w9 w6.heap.size (.slice (some ⟨w6.heap.size, 0, none⟩) (ps.length + 1) (ps.length + 1)) ((setM ps key b).map Prod.fst)) := Strs.below HA8.out hb
      clear hb HT8 HA8 HB8
      go_wp2_with fail
      refine (zzvals B _ (setM ps key b) w9 HT9.out.tw (by rw [HLN.out]; omega)).mono ?_
      rintro e w10 ⟨hr, hs, hb⟩
      rw [List.length_map, HLN.out] at hr hs
      subst hr
      have HT10 : Hid (Two wb B g2 c2' g4 c4' (ps.length + 1) (setM ps key b) w10) := HT9.out.kept hb
      have HA10 : Hid (Strs w10 w9.heap.size (.slice (some ⟨w9.heap.size, 0, none⟩) (ps.length + 1) (ps.length + 1)) ((setM ps key b).map Prod.snd)) := hs
      have HRK10 : Hid (Strs w10 w6.heap.size (.slice (some ⟨w6.heap.size, 0, none⟩) (ps.length + 1) (ps.length + 1)) ((setM ps key b).map Prod.fst)) := Strs.below HRK9.out hb
      clear hs hb HT9
      go_wp2_with fail
      refine (zzvals B _ (setM ps key b) w10 HT10.out.on (by rw [HLN.out]; omega)).mono ?_
      rintro e w11 ⟨hr, hs, hb⟩
      rw [List.length_map, HLN.out] at hr hs
      subst hr
      have HT11 : Hid (Two wb B g2 c2' g4 c4' (ps.length + 1) (setM ps key b) w11) := HT10.out.kept hb
      have HA11 : Hid (Strs w11 w9.heap.size (.slice (some ⟨w9.heap.size, 0, none⟩) (ps.length + 1) (ps.length + 1)) ((setM ps key b).map Prod.snd)) := Strs.below HA10.out hb
      have HB11 : Hid (Strs w11 w10.heap.size (.slice (some ⟨w10.heap.size, 0, none⟩) (ps.length + 1) (ps.length + 1)) ((setM ps key b).map Prod.snd)) := hs
      have HRK11 : Hid (Strs w11 w6.heap.size (.slice (some ⟨w6.heap.size, 0, none⟩) (ps.length + 1) (ps.length + 1)) ((setM ps key b).map Prod.fst)) := Strs.below HRK10.out hb
      clear hs hb HT10 HA10
      go_wp2_with fail
      refine (same_strs w9.heap.size w10.heap.size _ _ (ps.length + 1) ((setM ps key b).map Prod.snd) w11 (by rw [List.length_map]; exact HLN.out) (by omega) HA11.out HB11.out).mono ?_
      rintro e w12 ⟨rfl, hb⟩
      have HT12 : Hid (Two wb B g2 c2' g4 c4' (ps.length + 1) (setM ps key b) w12) := HT11.out.kept hb
      have HRK12 : Hid (Strs w12 w6.heap.size (.slice (some ⟨w6.heap.size, 0, none⟩) (ps.length + 1) (ps.length + 1)) ((setM ps key b).map Prod.fst)) := Strs.below HRK11.out hb
      clear hb HT11 HA11 HB11 HRK9 HRK10 HRK11
      go_wp2_with fail
      refine (zztags B _ (setM ps key b) w12 HT12.out.tw (by rw [HLN.out]; omega)).mono ?_
      rintro e w13 ⟨hr, hs, hb⟩
      rw [List.length_map, HLN.out] at hr hs
      subst hr
      have HT13 : Hid (Two wb B g2 c2' g4 c4' (ps.length + 1) (setM ps key b) w13) := HT12.out.kept hb
      have HA13 : Hid (Strs w13 w12.heap.size (.slice (some ⟨w12.heap.size, 0, none⟩) (ps.length + 1) (ps.length + 1)) ((setM ps key b).map (fun _ => ByteArray.empty))) := hs
      have HRK13 : Hid (Strs w13 w6.heap.size (.slice (some ⟨w6.heap.size, 0, none⟩) (ps.length + 1) (ps.length + 1)) ((setM ps key b).map Prod.fst)) := Strs.below HRK12.out hb
      clear hs hb HT12
      go_wp2_with fail
      refine (zztags B _ (setM ps key b) w13 HT13.out.on (by rw [HLN.out]; omega)).mono ?_
      rintro e w14 ⟨hr, hs, hb⟩
      rw [List.length_map, HLN.out] at hr hs
      subst hr
      have HT14 : Hid (Two wb B g2 c2' g4 c4' (ps.length + 1) (setM ps key b) w14) := HT13.out.kept hb
      have HA14 : Hid (Strs w14 w12.heap.size (.slice (some ⟨w12.heap.size, 0, none⟩) (ps.length + 1) (ps.length + 1)) ((setM ps key b).map (fun _ => ByteArray.empty))) := Strs.below HA13.out hb
      have HB14 : Hid (Strs w14 w13.heap.size (.slice (some ⟨w13.heap.size, 0, none⟩) (ps.length + 1) (ps.length + 1)) ((setM ps key b).map (fun _ => ByteArray.empty))) := hs
      have HRK14 : Hid (Strs w14 w6.heap.size (.slice (some ⟨w6.heap.size, 0, none⟩) (ps.length + 1) (ps.length + 1)) ((setM ps key b).map Prod.fst)) := Strs.below HRK13.out hb
      clear hs hb HT13 HA13
      go_wp2_with fail
      refine (same_strs w12.heap.size w13.heap.size _ _ (ps.length + 1) ((setM ps key b).map (fun _ => ByteArray.empty)) w14 (by rw [List.length_map]; exact HLN.out) (by omega) HA14.out HB14.out).mono ?_
      rintro e w15 ⟨rfl, hb⟩
      have HT15 : Hid (Two wb B g2 c2' g4 c4' (ps.length + 1) (setM ps key b) w15) := HT14.out.kept hb
      have HRK15 : Hid (Strs w15 w6.heap.size (.slice (some ⟨w6.heap.size, 0, none⟩) (ps.length + 1) (ps.length + 1)) ((setM ps key b).map Prod.fst)) := Strs.below HRK14.out hb
      clear hb HT14 HA14 HB14 HRK12 HRK13 HRK14
      go_wp2_with fail
      refine (zzget B _ (setM ps key b) key w15 HT15.out.tw (by rw [HLN.out]; omega)).mono ?_
      rintro e w16 ⟨hr, hb⟩
      rw [decide_eq_true set_get.1, set_get.2] at hr
      subst hr
      have HW16 : Hid (Below wb.heap.size wb w16) := HT15.out.below.trans (hb.mono HT15.out.below.size)
      have HRK16 : Hid (Strs w16 w6.heap.size (.slice (some ⟨w6.heap.size, 0, none⟩) (ps.length + 1) (ps.length + 1)) ((setM ps key b).map Prod.fst)) := Strs.below HRK15.out hb
      clear hb HT15 HRK15
      go_wp2_with fail
      refine (zzFirst w.heap.size _ (ps.map Prod.fst) key w16 (Strs.below HS1.out HW16.out) (by simp <;> omega)).mono ?_
      rintro e w17 ⟨rfl, hw17⟩
      obtain rfl : w16 = w17 := hw17.symm
      rw [first_miss HH.out]
      go_wp2_with fail
      go_loopw [20] (fun i wr => ∃ k : Nat, k ≤ ps.length ∧ i = .int .i64 k ∧ ∃ nd, wr = w16.drewN nd) (fun i _ => ps.length - (intOf i).toNat)
      case atStart => exact ⟨0, Nat.zero_le _, rfl, 0, rfl⟩
      case round =>
        obtain ⟨k, hk, rfl, nd, rfl⟩ := hrel
        by_cases hlt : k < ps.length
        · have d1 : w16.cell? ⟨w6.heap.size, k, none⟩ = some (.string (keyAt ps k)) := by
            have := Strs.cellAt HRK16.out k (by rw [List.length_map, HLN.out]; omega)
            rw [getD_map1] at this
            rw [this]
            exact congrArg (fun x => some (Value.string x)) (set_key (val := b) hlt)
          have d2 : w16.cell? ⟨w.heap.size, k, none⟩ = some (.string (keyAt ps k)) := by
            have := Strs.cellAt (Strs.below HS1.out HW16.out) k (by simpa using hlt)
            rwa [getD_map1] at this
          go_wp2_with fail
          go_quiet (fail)
          go_wp2
          go_roundw
          case rel => exact ⟨k + 1, by omega, by go_num, _, rfl⟩
          case measure => simp [intOf]; omega
        · go_wp2
          go_ret
          exact ⟨rfl, (below_back HW16.out HB0.out).trans ⟨rfl, rfl, rfl, Nat.le_refl _, fun _ _ => rfl⟩⟩
end Go.Proofs.Qxb6613733a
