/-
  FnSetThenGet, both slices not nil, of one length: the whole walk (made by a script of the prover).
-/
import Derived.Test.Qxb6613733aCopy
import Derived.Test.Qxb6613733aPlain
namespace Go.Proofs.Qxb6613733a
open Go.RowKit

/-- What a law returns: true; old memory as it was. -/
structure Yes (w : World) (e : Ending) (w' : World) : Prop where
  ret : e = .returned (.bool true)
  below : Below w.heap.size w w'

theorem neq22 (a : Option Addr) (n c : Nat) (w : World) : (binOp .neq 22 (.slice a n c) (.slice none 0 0)).run Try.prog w = .ok (.bool (!a.isNone)) w := run_neq_slice_nil_any w 22 9 a n c 0 0 Try.underlying22
attribute [local go_sem] neq22

/-- What the first loop keeps: keys, vals, the mapping, and 'before' filled up to k. -/
structure Inv1 (w : World) (G2 g cap G3 : Nat) (ps : List KV) (k : Nat) (wr : World) : Prop where
  ks : Strs wr w.heap.size (.slice (some ⟨w.heap.size, 0, none⟩) ps.length ps.length) (ps.map Prod.fst)
  vs : Strs wr w.heap.size (.slice (some ⟨G2, 0, none⟩) ps.length ps.length) (ps.map Prod.snd)
  m : Mems wr w.heap.size (.slice (some ⟨g, 0, none⟩) ps.length cap) ps
  before : Fill wr w.heap.size G3 ps.length k (fun i => valAt ps (kf ps (keyAt ps i)))
  below : Below w.heap.size w wr

theorem Inv1.kept {w : World} {G2 g cap G3 : Nat} {ps : List KV} {k : Nat} {wr w' : World} (h : Inv1 w G2 g cap G3 ps k wr) (hb : Below wr.heap.size wr w') : Inv1 w G2 g cap G3 ps k w' :=
  ⟨h.ks.below hb, h.vs.below hb, h.m.below hb, h.before.kept hb, h.below.trans (hb.mono h.below.size)⟩
theorem Inv1.step {w : World} {G2 g cap G3 : Nat} {ps : List KV} {k : Nat} {wr : World} (h : Inv1 w G2 g cap G3 ps k wr) (hk : k < ps.length) (hB : w.heap.size < G3) (h2 : G2 ≠ G3) (h3 : g ≠ G3) :
    Inv1 w G2 g cap G3 ps (k + 1) (wr.setCell ⟨G3, k, none⟩ (.string (valAt ps (kf ps (keyAt ps k))))) := by
  have hg : wr.grownBy (wr.setCell ⟨G3, k, none⟩ (.string (valAt ps (kf ps (keyAt ps k))))) (some G3) := ⟨rfl, rfl, rfl, by simp [World.setCell], fun j _ hj => Below.heap_setCell _ _ _ _ (fun e => hj (by rw [e]))⟩
  exact ⟨h.ks.kept hg (.inr (by simp [Value.ownBlock]; omega)), h.vs.kept hg (.inr (by simpa [Value.ownBlock] using h2)), h.m.kept hg (.inr (by simpa [Value.ownBlock] using h3)), h.before.step hk, h.below.setCell (by simp; omega) _⟩
theorem Strs.cellAt {w : World} {base G n cap : Nat} {ss : List ByteArray} (h : Strs w base (.slice (some ⟨G, 0, none⟩) n cap) ss) (i : Nat) (hi : i < ss.length) : w.cell? ⟨G, i, none⟩ = some (.string (ss.getD i ByteArray.empty)) := by
  rcases h.cases with ⟨h1, _⟩ | ⟨g, c, h1, _, _, hc⟩
  · simp at h1
  · simp only [Value.slice.injEq, Option.some.injEq, Addr.mk.injEq, and_true] at h1
    obtain ⟨rfl, rfl, rfl⟩ := h1
    exact hc i hi
theorem Inv1.kcell {w : World} {G2 g cap G3 : Nat} {ps : List KV} {k : Nat} {wr : World} (h : Inv1 w G2 g cap G3 ps k wr) (i : Nat) (hi : i < ps.length) : wr.cell? ⟨w.heap.size, i, none⟩ = some (.string (keyAt ps i)) := by
  have := h.ks.cellAt i (by simpa using hi)
  rwa [getD_map1] at this
theorem Inv1.vcell {w : World} {G2 g cap G3 : Nat} {ps : List KV} {k : Nat} {wr : World} (h : Inv1 w G2 g cap G3 ps k wr) (i : Nat) (hi : i < ps.length) : wr.cell? ⟨G2, i, none⟩ = some (.string (valAt ps i)) := by
  have := h.vs.cellAt i (by simpa using hi)
  rwa [getD_map2] at this

/-- What stands behind set: keys, vals, 'before', the new mapping (n2 members). -/
structure Inv2 (w : World) (G2 G3 g2 cap2 n2 : Nat) (ps ps2 : List KV) (wr : World) : Prop where
  ks : Strs wr w.heap.size (.slice (some ⟨w.heap.size, 0, none⟩) ps.length ps.length) (ps.map Prod.fst)
  vs : Strs wr w.heap.size (.slice (some ⟨G2, 0, none⟩) ps.length ps.length) (ps.map Prod.snd)
  before : Fill wr w.heap.size G3 ps.length ps.length (fun i => valAt ps (kf ps (keyAt ps i)))
  m : Mems wr w.heap.size (.slice (some ⟨g2, 0, none⟩) n2 cap2) ps2
  below : Below w.heap.size w wr
theorem Inv2.kept {w : World} {G2 G3 g2 cap2 n2 : Nat} {ps ps2 : List KV} {wr w' : World} (h : Inv2 w G2 G3 g2 cap2 n2 ps ps2 wr) (hb : Below wr.heap.size wr w') : Inv2 w G2 G3 g2 cap2 n2 ps ps2 w' :=
  ⟨h.ks.below hb, h.vs.below hb, h.before.kept hb, h.m.below hb, h.below.trans (hb.mono h.below.size)⟩
theorem Fill.keptBy {w w' : World} {base G n k : Nat} {f : Nat → ByteArray} {row : Option Nat} (h : Fill w base G n k f) (hg : w.grownBy w' row) (hne : some G ≠ row) : Fill w' base G n k f := by
  obtain ⟨xs, ho, hx⟩ := h.ex
  exact ⟨⟨xs, ho.kept hg (.inr (by simpa [Value.ownBlock] using hne)), hx⟩⟩
theorem Inv2.mk' {w : World} {G2 g cap G3 : Nat} {ps : List KV} {wr w' : World} (h : Inv1 w G2 g cap G3 ps ps.length wr) (hg : wr.grownBy w' (some g)) (h1 : w.heap.size < g) (h2 : G2 ≠ g) (h3 : G3 ≠ g) {g2 cap2 n2 : Nat} {ps2 : List KV} (hm : Mems w' w.heap.size (.slice (some ⟨g2, 0, none⟩) n2 cap2) ps2) :
    Inv2 w G2 G3 g2 cap2 n2 ps ps2 w' :=
  ⟨h.ks.kept hg (.inr (by simp [Value.ownBlock]; omega)), h.vs.kept hg (.inr (by simpa [Value.ownBlock] using h2)), h.before.keptBy hg (by simpa using h3), hm,
    h.below.grown hg h.below.size (fun k hk => by simp at hk; omega)⟩
theorem Inv2.kcell {w : World} {G2 G3 g2 cap2 n2 : Nat} {ps ps2 : List KV} {wr : World} (h : Inv2 w G2 G3 g2 cap2 n2 ps ps2 wr) (i : Nat) (hi : i < ps.length) : wr.cell? ⟨w.heap.size, i, none⟩ = some (.string (keyAt ps i)) := by
  have := h.ks.cellAt i (by simpa using hi)
  rwa [getD_map1] at this
theorem Inv2.vcell {w : World} {G2 G3 g2 cap2 n2 : Nat} {ps ps2 : List KV} {wr : World} (h : Inv2 w G2 G3 g2 cap2 n2 ps ps2 wr) (i : Nat) (hi : i < ps.length) : wr.cell? ⟨G2, i, none⟩ = some (.string (valAt ps i)) := by
  have := h.vs.cellAt i (by simpa using hi)
  rwa [getD_map2] at this
theorem Fill.at {w : World} {base G n k : Nat} {f : Nat → ByteArray} (h : Fill w base G n k f) (i : Nat) (hi : i < k) (hn : i < n) : w.cell? ⟨G, i, none⟩ = some (.string (f i)) := by
  obtain ⟨xs, ho, hx⟩ := h.ex
  rw [ho.cellAt i (by omega)]; exact hx i hi
/-- Behind the three columns. -/
structure Inv3 (w : World) (G2 G3 g2 cap2 n2 Gk Gv Gt : Nat) (ps ps2 : List KV) (wr : World) : Prop where
  two : Inv2 w G2 G3 g2 cap2 n2 ps ps2 wr
  rk : Strs wr w.heap.size (.slice (some ⟨Gk, 0, none⟩) n2 n2) (ps2.map Prod.fst)
  rv : Strs wr w.heap.size (.slice (some ⟨Gv, 0, none⟩) n2 n2) (ps2.map Prod.snd)
  rt : Strs wr w.heap.size (.slice (some ⟨Gt, 0, none⟩) n2 n2) (ps2.map (fun _ => ByteArray.empty))
theorem Inv3.kept {w : World} {G2 G3 g2 cap2 n2 Gk Gv Gt : Nat} {ps ps2 : List KV} {wr w' : World} (h : Inv3 w G2 G3 g2 cap2 n2 Gk Gv Gt ps ps2 wr) (hb : Below wr.heap.size wr w') : Inv3 w G2 G3 g2 cap2 n2 Gk Gv Gt ps ps2 w' :=
  ⟨h.two.kept hb, h.rk.below hb, h.rv.below hb, h.rt.below hb⟩
theorem Inv3.cells {w : World} {G2 G3 g2 cap2 n2 Gk Gv Gt : Nat} {ps ps2 : List KV} {wr : World} (h : Inv3 w G2 G3 g2 cap2 n2 Gk Gv Gt ps ps2 wr) (i : Nat) (hi : i < ps2.length) :
    wr.cell? ⟨Gk, i, none⟩ = some (.string (keyAt ps2 i)) ∧ wr.cell? ⟨Gv, i, none⟩ = some (.string (valAt ps2 i)) ∧ wr.cell? ⟨Gt, i, none⟩ = some (.string ⟨#[]⟩) := by
  have h1 := h.rk.cellAt i (by simpa using hi)
  have h2 := h.rv.cellAt i (by simpa using hi)
  have h3 := h.rt.cellAt i (by simpa using hi)
  rw [getD_map1] at h1
  rw [getD_map2] at h2
  refine ⟨h1, h2, h3.trans ?_⟩
  simp only [List.getD, List.getElem?_map, List.getElem?_eq_getElem hi]
  rfl
theorem below_drewN (w : World) (n : Nat) : Below w.heap.size w (w.drewN n) := ⟨rfl, rfl, rfl, Nat.le_refl _, fun _ _ => rfl⟩

set_option maxRecDepth 100000 in
set_option maxHeartbeats 4000000 in
theorem main_some (b1 o1 c1 b2 o2 c2 : Nat) (ps : List KV) (key val : ByteArray) (w : World) (hn : ps.length ≤ 4096) (hg1 : b1 < w.heap.size) (hg2 : b2 < w.heap.size)
    (hk : ∀ i, i < ps.length → w.cell? ⟨b1, o1 + i, none⟩ = some (.string (keyAt ps i))) (hv : ∀ i, i < ps.length → w.cell? ⟨b2, o2 + i, none⟩ = some (.string (valAt ps i)))
    (hb5 : Calls Try.prog 5 #[.slice (some ⟨b1, o1, none⟩) ps.length c1, .slice (some ⟨b2, o2, none⟩) ps.length c2, .string key, .string val] w (Answers (Short (ps.map Prod.fst) ps.length ∧ Short (ps.map Prod.snd) ps.length ∧ key.size ≤ 1048576 ∧ val.size ≤ 1048576) w)) :
    Calls Try.prog 3 #[.slice (some ⟨b1, o1, none⟩) ps.length c1, .slice (some ⟨b2, o2, none⟩) ps.length c2, .string key, .string val] w (Yes w) := by
  have HK : Hid _ := hk
  have HV : Hid _ := hv
  have H5 : Hid _ := hb5
  clear hk hv hb5
  have hmk := make22 ps.length (by omega)
  obtain ⟨wa, hcp1, hsa, hba⟩ := made_copy w (ps.map Prod.fst) b1 o1 c1 (by simp; omega) hg1 (fun i hi => by rw [getD_map1]; exact HK.out i (by simpa using hi))
  have hg2a : b2 < wa.heap.size := Nat.lt_of_lt_of_le hg2 hba.size
  obtain ⟨wb, hcp2, hsb, hbb⟩ := made_copy wa (ps.map Prod.snd) b2 o2 c2 (by simp; omega) hg2a (fun i hi => by rw [getD_map2, hba.cell (p := ⟨b2, o2 + i, none⟩) hg2]; exact HV.out i (by simpa using hi))
  rw [List.length_map] at hcp1 hcp2
  have HSK : Hid (Strs wb w.heap.size (.slice (some ⟨w.heap.size, 0, none⟩) ps.length ps.length) (ps.map Prod.fst)) := by have := hsa.below hbb; rwa [List.length_map] at this
  have HSV : Hid (Strs wb w.heap.size (.slice (some ⟨wa.heap.size, 0, none⟩) ps.length ps.length) (ps.map Prod.snd)) := by have := hsb.mono hba.size; rwa [List.length_map] at this
  have HBB : Hid (Below w.heap.size w wb) := hba.trans (hbb.mono hba.size)
  have hza : Hid (w.heap.size < wa.heap.size) := (hsa.cases.elim (fun h => by simp at h) (fun ⟨g, c, e, _, h, _⟩ => by simp at e; rw [e.1]; exact h) : _)
  have hzb : Hid (wa.heap.size < wb.heap.size) := (hsb.cases.elim (fun h => by simp at h) (fun ⟨g, c, e, _, h, _⟩ => by simp at e; rw [e.1]; exact h) : _)
  clear hsa hsb hba hbb HK HV
  go_enter Try.func3, Try.ntmps3
  go_wp2_with fail
  refine Calls.mono H5.out ?_
  rintro e w1 ⟨b, rfl, hw1, hb⟩
  obtain rfl : w = w1 := hw1.symm
  cases b with
  | false =>
    clear hb hcp1 hcp2
    go_wp2
    go_ret
    exact ⟨rfl, Below.refl _ _⟩
  | true =>
    obtain ⟨_, _, hs1, hs2⟩ := hb rfl
    clear hb
    go_wp2_with fail
    refine (addStrings _ w.heap.size _ (ps.map Prod.fst) wb HSK.out (by simp; omega)).mono ?_
    rintro e w2 ⟨t1, rfl, hw2⟩
    obtain rfl : wb = w2 := hw2.symm
    clear hcp1 hcp2
    go_wp2_with fail
    refine (addStrings _ w.heap.size _ (ps.map Prod.snd) wb HSV.out (by simp; omega)).mono ?_
    rintro e w2 ⟨t2, rfl, hw2⟩
    obtain rfl : wb = w2 := hw2.symm
    by_cases ht : 1048576 < t2
    · go_wp2
      go_ret
      exact ⟨rfl, HBB.out⟩
    go_wp2_with fail
    refine (zzbuild w.heap.size _ _ ps wb (by omega) HSK.out HSV.out).mono ?_
    rintro e w2 ⟨m, rfl, hm, hbm⟩
    obtain ⟨g, cap, rfl, hgb, hgl, _⟩ := hm.cases
    have hza : w.heap.size < wa.heap.size := hza.out
    have hzb : wa.heap.size < wb.heap.size := hzb.out
    have HI : Hid (Inv1 w wa.heap.size g cap w2.heap.size ps 0 (w2.alloc (.cells (madeCells #[.string ⟨#[]⟩] ps.length) 9))) := by
      have hb1 : Below w2.heap.size w2 (w2.alloc (.cells (madeCells #[.string ⟨#[]⟩] ps.length) 9)) := (Below.refl _ _).alloc (Nat.le_refl _) _
      have hz : w.heap.size ≤ wb.heap.size := HBB.out.size
      exact ⟨(HSK.out.below hbm).below hb1, (HSV.out.below hbm).below hb1, (hm.mono hz).below hb1, Fill.start w2 _ _ _ (by omega) (by omega), (HBB.out.trans (hbm.mono hz)).alloc (by omega) _⟩
    clear hm hbm HSK HSV HBB H5
    go_wp2_with fail
    go_loopw [15] (fun i wr => ∃ k : Nat, k ≤ ps.length ∧ i = .int .i64 k ∧ Inv1 w wa.heap.size g cap w2.heap.size ps k wr) (fun i _ => ps.length - (intOf i).toNat)
    case atStart => exact ⟨0, Nat.zero_le _, rfl, HI.out⟩
    case round =>
      obtain ⟨k, hk, rfl, hinv⟩ := hrel
      have HV1 : Hid (Inv1 w wa.heap.size g cap w2.heap.size ps k wr) := hinv
      clear hinv
      by_cases hlt : k < ps.length
      · have hck := HV1.out.kcell k hlt
        have HJ : Hid (kf ps (keyAt ps k) < ps.length) := Nat.lt_of_le_of_lt (kf_there hlt) hlt
        go_wp2_with fail
        refine (zzget w.heap.size _ ps _ wr HV1.out.m (by omega)).mono ?_
        rintro e w3 ⟨hr, hb3⟩
        rw [decide_eq_true HJ.out] at hr
        subst hr
        have HV2 : Hid (Inv1 w wa.heap.size g cap w2.heap.size ps k w3) := HV1.out.kept hb3
        clear hb3 HV1 hck
        have hck := HV2.out.kcell k hlt
        have hcv := HV2.out.vcell (kf ps (keyAt ps k)) HJ.out
        obtain ⟨⟨y, hy⟩, hfz⟩ := HV2.out.before.cell k hlt
        have HS : Hid (Inv1 w wa.heap.size g cap w2.heap.size ps (k + 1) (w3.setCell ⟨w2.heap.size, k, none⟩ (.string (valAt ps (kf ps (keyAt ps k)))))) := HV2.out.step hlt (by omega) (by omega) (by omega)
        have HF : Hid (first (ps.map Prod.fst) (keyAt ps k) = (kf ps (keyAt ps k) : Int)) := first_hit HJ.out
        go_wp2_with fail
        refine (zzFirst w.heap.size _ (ps.map Prod.fst) _ w3 HV2.out.ks (by simp; omega)).mono ?_
        rintro e w4 ⟨rfl, hw4⟩
        obtain rfl : w3 = w4 := hw4.symm
        rw [HF.out]
        have hj := HJ.out
        go_wp2
        go_roundw
        case rel => exact ⟨k + 1, by omega, by go_num, HS.out⟩
        case measure => simp [intOf]; omega
      · obtain rfl : k = ps.length := by omega
        go_wp2_with fail
        refine (zzFirst w.heap.size _ (ps.map Prod.fst) key wr HV1.out.ks (by simp; omega)).mono ?_
        rintro e w5 ⟨rfl, hw5⟩
        obtain rfl : wr = w5 := hw5.symm
        rcases Nat.lt_or_ge (kf ps key) ps.length with hh | hh <;> (have HH : Hid _ := hh; clear hh)
        · rw [first_hit HH.out]
          have hlen : (setM ps key val).length = ps.length := set_length_hit HH.out
          have HLN : Hid _ := hlen
          clear hlen
          go_wp2_with fail
          refine (zzset w.heap.size _ ps key val wr HV1.out.m (by omega) HV1.out.below.size).mono ?_
          rintro e w6 ⟨m2, rfl, hm2, hgr⟩
          obtain ⟨g2, cap2, rfl, _⟩ := hm2.cases
          have HW : Hid (Inv2 w wa.heap.size w2.heap.size g2 cap2 (setM ps key val).length ps (setM ps key val) w6) := Inv2.mk' HV1.out hgr (by omega) (by omega) (by omega) hm2
          rw [HLN.out] at HW ⊢
          clear hm2 hgr HV1
          go_wp2_with fail
          refine (zzget w.heap.size _ (setM ps key val) key w6 HW.out.m (by rw [HLN.out]; omega)).mono ?_
          rintro e w7 ⟨hr, hb7⟩
          rw [decide_eq_true set_get.1, set_get.2] at hr
          subst hr
          have HW7 : Hid (Inv2 w wa.heap.size w2.heap.size g2 cap2 ps.length ps (setM ps key val) w7) := HW.out.kept hb7
          clear hb7 HW
          go_wp2_with fail
          refine (zzkeys w.heap.size _ (setM ps key val) w7 HW7.out.m (by rw [HLN.out]; omega)).mono ?_
          rintro e w8 ⟨hr, hs8, hb8⟩
          rw [List.length_map, HLN.out] at hr hs8
          subst hr
          have HW8 : Hid (Inv2 w wa.heap.size w2.heap.size g2 cap2 ps.length ps (setM ps key val) w8) := HW7.out.kept hb8
          have HS8 : Hid (Strs w8 w.heap.size (.slice (some ⟨w7.heap.size, 0, none⟩) ps.length ps.length) ((setM ps key val).map Prod.fst)) := hs8.mono HW7.out.below.size
          clear hb8 hs8 HW7
          go_wp2_with fail
          refine (zzvals w.heap.size _ (setM ps key val) w8 HW8.out.m (by rw [HLN.out]; omega)).mono ?_
          rintro e w9 ⟨hr, hs9, hb9⟩
          rw [List.length_map, HLN.out] at hr hs9
          subst hr
          have HW9 : Hid (Inv2 w wa.heap.size w2.heap.size g2 cap2 ps.length ps (setM ps key val) w9) := HW8.out.kept hb9
          have HS9 : Hid (Strs w9 w.heap.size (.slice (some ⟨w8.heap.size, 0, none⟩) ps.length ps.length) ((setM ps key val).map Prod.snd)) := hs9.mono HW8.out.below.size
          have HS8' : Hid (Strs w9 w.heap.size (.slice (some ⟨w7.heap.size, 0, none⟩) ps.length ps.length) ((setM ps key val).map Prod.fst)) := HS8.out.below hb9
          clear hb9 hs9 HW8 HS8
          go_wp2_with fail
          refine (zztags w.heap.size _ (setM ps key val) w9 HW9.out.m (by rw [HLN.out]; omega)).mono ?_
          rintro e w10 ⟨hr, hs10, hb10⟩
          rw [List.length_map, HLN.out] at hr hs10
          subst hr
          have HX : Hid (Inv3 w wa.heap.size w2.heap.size g2 cap2 ps.length w7.heap.size w8.heap.size w9.heap.size ps (setM ps key val) w10) :=
            ⟨HW9.out.kept hb10, HS8'.out.below hb10, HS9.out.below hb10, hs10.mono HW9.out.below.size⟩
          clear hb10 hs10 HW9 HS9 HS8'
          go_wp2_with fail
          go_loopw [26] (fun i wr => ∃ k : Nat, k ≤ ps.length ∧ i = .int .i64 k ∧ Inv3 w wa.heap.size w2.heap.size g2 cap2 ps.length w7.heap.size w8.heap.size w9.heap.size ps (setM ps key val) wr) (fun i _ => ps.length - (intOf i).toNat)
          case atStart => exact ⟨0, Nat.zero_le _, rfl, HX.out⟩
          case round =>
            clear HX
            obtain ⟨k, hk, rfl, hinv⟩ := hrel
            have HX : Hid (Inv3 w wa.heap.size w2.heap.size g2 cap2 ps.length w7.heap.size w8.heap.size w9.heap.size ps (setM ps key val) wr) := hinv
            clear hinv
            by_cases hlt : k < ps.length
            · obtain ⟨d1, d2, d3⟩ := HX.out.cells k (by rw [HLN.out]; omega)
              rw [set_key hlt] at d1
              have d4 := HX.out.two.kcell k hlt
              have d5 := HX.out.two.vcell k hlt
              by_cases hkf : k = kf ps key
              · have e1 : ((k : Int) == (kf ps key : Int)) = true := by simp [hkf]
                have hkey : keyAt ps k = key := by rw [hkf]; exact kf_key HH.out
                rw [hkey] at d1 d4
                have d2' : wr.cell? ⟨w8.heap.size, k, none⟩ = some (.string val) := by rw [d2, hkf, set_val_hit HH.out]
                clear d2 hkf hkey
                go_wp2_with fail
                go_quiet (fail)
                go_wp2
                go_roundw
                case rel => exact ⟨k + 1, by omega, by go_num, HX.out.kept (below_drewN _ _)⟩
                case measure => simp [intOf]; omega
              have e1 : ((k : Int) == (kf ps key : Int)) = false := by simp; omega
              have HKF : Hid (k ≠ kf ps key) := hkf
              clear hkf
              have d2' : wr.cell? ⟨w8.heap.size, k, none⟩ = some (.string (valAt ps k)) := by rw [d2, set_val_other hlt HKF.out]
              clear d2
              have d6 := HX.out.two.before.at k hlt hlt
              have HQ : Hid (keyAt ps k ≠ key → kf (setM ps key val) (keyAt ps k) < (setM ps key val).length ∧ valAt (setM ps key val) (kf (setM ps key val) (keyAt ps k)) = valAt ps (kf ps (keyAt ps k))) := fun h => ⟨(set_get_other hlt h).2.2.1, (set_get_other hlt h).2.2.2⟩
              by_cases he : ((keyAt ps k).toList == key.toList) = true
              · go_wp2_with fail
                go_quiet (fail)
                go_wp2_with fail
                go_quiet (fail)
                go_wp2
                go_roundw
                case rel => exact ⟨k + 1, by omega, by go_num, HX.out.kept (below_drewN _ _)⟩
                case measure => simp [intOf]; omega
              · have he' : ((keyAt ps k).toList == key.toList) = false := by simpa using he
                have HNE : Hid (keyAt ps k ≠ key) := fun h => he (sameS_iff.2 h)
                clear he
                go_wp2_with fail
                go_quiet (fail)
                go_wp2_with fail
                go_quiet (fail)
                go_wp2_with fail
                refine (zzget w.heap.size _ (setM ps key val) _ _ (HX.out.kept (below_drewN _ _)).two.m (by rw [HLN.out]; omega)).mono ?_
                rintro e w11 ⟨hr, hb11⟩
                rw [decide_eq_true (HQ.out HNE.out).1, (HQ.out HNE.out).2] at hr
                subst hr
                have HX2 : Hid (Inv3 w wa.heap.size w2.heap.size g2 cap2 ps.length w7.heap.size w8.heap.size w9.heap.size ps (setM ps key val) w11) := (HX.out.kept (below_drewN _ _)).kept hb11
                clear hb11 d1 d2' d3 d4 d5 d6
                have d6 := HX2.out.two.before.at k hlt hlt
                go_wp2
                go_roundw
                case rel => exact ⟨k + 1, by omega, by go_num, HX2.out⟩
                case measure => simp [intOf]; omega
            · obtain rfl : k = ps.length := by omega
              go_wp2
              go_ret
              exact ⟨rfl, HX.out.two.below⟩
        · rw [first_miss HH.out]
          have hlen : (setM ps key val).length = (ps.length + 1) := set_length_miss HH.out
          have HLN : Hid _ := hlen
          clear hlen
          go_wp2_with fail
          refine (zzset w.heap.size _ ps key val wr HV1.out.m (by omega) HV1.out.below.size).mono ?_
          rintro e w6 ⟨m2, rfl, hm2, hgr⟩
          obtain ⟨g2, cap2, rfl, _⟩ := hm2.cases
          have HW : Hid (Inv2 w wa.heap.size w2.heap.size g2 cap2 (setM ps key val).length ps (setM ps key val) w6) := Inv2.mk' HV1.out hgr (by omega) (by omega) (by omega) hm2
          rw [HLN.out] at HW ⊢
          clear hm2 hgr HV1
          go_wp2_with fail
          refine (zzget w.heap.size _ (setM ps key val) key w6 HW.out.m (by rw [HLN.out]; omega)).mono ?_
          rintro e w7 ⟨hr, hb7⟩
          rw [decide_eq_true set_get.1, set_get.2] at hr
          subst hr
          have HW7 : Hid (Inv2 w wa.heap.size w2.heap.size g2 cap2 (ps.length + 1) ps (setM ps key val) w7) := HW.out.kept hb7
          clear hb7 HW
          go_wp2_with fail
          refine (zzkeys w.heap.size _ (setM ps key val) w7 HW7.out.m (by rw [HLN.out]; omega)).mono ?_
          rintro e w8 ⟨hr, hs8, hb8⟩
          rw [List.length_map, HLN.out] at hr hs8
          subst hr
          have HW8 : Hid (Inv2 w wa.heap.size w2.heap.size g2 cap2 (ps.length + 1) ps (setM ps key val) w8) := HW7.out.kept hb8
          have HS8 : Hid (Strs w8 w.heap.size (.slice (some ⟨w7.heap.size, 0, none⟩) (ps.length + 1) (ps.length + 1)) ((setM ps key val).map Prod.fst)) := hs8.mono HW7.out.below.size
          clear hb8 hs8 HW7
          go_wp2_with fail
          refine (zzvals w.heap.size _ (setM ps key val) w8 HW8.out.m (by rw [HLN.out]; omega)).mono ?_
          rintro e w9 ⟨hr, hs9, hb9⟩
          rw [List.length_map, HLN.out] at hr hs9
          subst hr
          have HW9 : Hid (Inv2 w wa.heap.size w2.heap.size g2 cap2 (ps.length + 1) ps (setM ps key val) w9) := HW8.out.kept hb9
          have HS9 : Hid (Strs w9 w.heap.size (.slice (some ⟨w8.heap.size, 0, none⟩) (ps.length + 1) (ps.length + 1)) ((setM ps key val).map Prod.snd)) := hs9.mono HW8.out.below.size
          have HS8' : Hid (Strs w9 w.heap.size (.slice (some ⟨w7.heap.size, 0, none⟩) (ps.length + 1) (ps.length + 1)) ((setM ps key val).map Prod.fst)) := HS8.out.below hb9
          clear hb9 hs9 HW8 HS8
          go_wp2_with fail
          refine (zztags w.heap.size _ (setM ps key val) w9 HW9.out.m (by rw [HLN.out]; omega)).mono ?_
          rintro e w10 ⟨hr, hs10, hb10⟩
          rw [List.length_map, HLN.out] at hr hs10
          subst hr
          have HX : Hid (Inv3 w wa.heap.size w2.heap.size g2 cap2 (ps.length + 1) w7.heap.size w8.heap.size w9.heap.size ps (setM ps key val) w10) :=
            ⟨HW9.out.kept hb10, HS8'.out.below hb10, HS9.out.below hb10, hs10.mono HW9.out.below.size⟩
          clear hb10 hs10 HW9 HS9 HS8'
          go_wp2_with fail
          go_loopw [26] (fun i wr => ∃ k : Nat, k ≤ ps.length ∧ i = .int .i64 k ∧ Inv3 w wa.heap.size w2.heap.size g2 cap2 (ps.length + 1) w7.heap.size w8.heap.size w9.heap.size ps (setM ps key val) wr) (fun i _ => ps.length - (intOf i).toNat)
          case atStart => exact ⟨0, Nat.zero_le _, rfl, HX.out⟩
          case round =>
            clear HX
            obtain ⟨k, hk, rfl, hinv⟩ := hrel
            have HX : Hid (Inv3 w wa.heap.size w2.heap.size g2 cap2 (ps.length + 1) w7.heap.size w8.heap.size w9.heap.size ps (setM ps key val) wr) := hinv
            clear hinv
            by_cases hlt : k < ps.length
            · obtain ⟨d1, d2, d3⟩ := HX.out.cells k (by rw [HLN.out]; omega)
              rw [set_key hlt] at d1
              have d4 := HX.out.two.kcell k hlt
              have d5 := HX.out.two.vcell k hlt
              have HKF : Hid (k ≠ kf ps key) := by have := HH.out; show _ ≠ _; omega
              have d2' : wr.cell? ⟨w8.heap.size, k, none⟩ = some (.string (valAt ps k)) := by rw [d2, set_val_other hlt HKF.out]
              clear d2
              have d6 := HX.out.two.before.at k hlt hlt
              have HQ : Hid (keyAt ps k ≠ key → kf (setM ps key val) (keyAt ps k) < (setM ps key val).length ∧ valAt (setM ps key val) (kf (setM ps key val) (keyAt ps k)) = valAt ps (kf ps (keyAt ps k))) := fun h => ⟨(set_get_other hlt h).2.2.1, (set_get_other hlt h).2.2.2⟩
              by_cases he : ((keyAt ps k).toList == key.toList) = true
              · go_wp2_with fail
                go_quiet (fail)
                go_wp2_with fail
                go_quiet (fail)
                go_wp2
                go_roundw
                case rel => exact ⟨k + 1, by omega, by go_num, HX.out.kept (below_drewN _ _)⟩
                case measure => simp [intOf]; omega
              · have he' : ((keyAt ps k).toList == key.toList) = false := by simpa using he
                have HNE : Hid (keyAt ps k ≠ key) := fun h => he (sameS_iff.2 h)
                clear he
                go_wp2_with fail
                go_quiet (fail)
                go_wp2_with fail
                go_quiet (fail)
                go_wp2_with fail
                refine (zzget w.heap.size _ (setM ps key val) _ _ (HX.out.kept (below_drewN _ _)).two.m (by rw [HLN.out]; omega)).mono ?_
                rintro e w11 ⟨hr, hb11⟩
                rw [decide_eq_true (HQ.out HNE.out).1, (HQ.out HNE.out).2] at hr
                subst hr
                have HX2 : Hid (Inv3 w wa.heap.size w2.heap.size g2 cap2 (ps.length + 1) w7.heap.size w8.heap.size w9.heap.size ps (setM ps key val) w11) := (HX.out.kept (below_drewN _ _)).kept hb11
                clear hb11 d1 d2' d3 d4 d5 d6
                have d6 := HX2.out.two.before.at k hlt hlt
                go_wp2
                go_roundw
                case rel => exact ⟨k + 1, by omega, by go_num, HX2.out⟩
                case measure => simp [intOf]; omega
            · obtain rfl : k = ps.length := by omega
              obtain ⟨d1, d2, d3⟩ := HX.out.cells ps.length (by rw [HLN.out]; omega)
              rw [set_last_key HH.out] at d1
              rw [set_last_val HH.out] at d2
              go_wp2
              go_ret
              exact ⟨rfl, HX.out.two.below⟩
end Go.Proofs.Qxb6613733a
