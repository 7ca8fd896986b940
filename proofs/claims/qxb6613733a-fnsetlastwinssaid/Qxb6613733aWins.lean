/-
  THE STATEMENT FnSetLastWinsSaid.
-/
import Derived.Test.Qxb6613733aLast
import Derived.Test.Qxb6613733aIn
import Derived.ProofKit
import Derived.OpenShut
import Derived.ShutString
import Derived.ChangeOld
import Derived.SliceStrings
namespace Go.Proofs.Qxb6613733a
open Go.ChangeShapes Go.WideShapes Go.ChangeAt Go.RowKit
open Go.ChangeMaps (open_string shut_string)

/-- At every input: true. -/
theorem core4 (a1 a2 : Option Addr) (n1 c1 n2 c2 : Nat) (ks vs : List ByteArray) (key a b : ByteArray) (w : World) (h1 : InStrs w a1 n1 c1 ks) (h2 : InStrs w a2 n2 c2 vs) (hk : key.size ≤ maxLen) (ha : a.size ≤ maxLen) (hb : b.size ≤ maxLen) :
    Calls Try.prog 4 #[.slice a1 n1 c1, .slice a2 n2 c2, .string key, .string a, .string b] w (Yes w) := by
  have hb5 := bytes14 _ _ ks vs key a b w h1.strAt h2.strAt (by rw [h1.size]; exact h1.max) (by rw [h2.size]; exact h2.max) h1.small h2.small hk ha hb
  by_cases hl : 4096 < n1 ∨ (n1 ≤ 4096 ∧ 4096 < n2)
  · exact long4 _ a1 a2 n1 c1 n2 c2 key a b w h1.max h2.max hl hb5
  have l1 := h1.size
  have l2 := h2.size
  have hp : (Short ks ks.length ∧ Short vs vs.length ∧ key.size ≤ 1048576 ∧ a.size ≤ 1048576 ∧ b.size ≤ 1048576) → key.size ≤ 1048576 ∧ a.size ≤ 1048576 ∧ b.size ≤ 1048576 := fun h => h.2.2
  by_cases z1 : n1 = 0
  · obtain rfl : ks = [] := List.eq_nil_of_length_eq_zero (by omega)
    subst z1
    by_cases z2 : n2 = 0
    · obtain rfl : vs = [] := List.eq_nil_of_length_eq_zero (by omega)
      subst z2
      rcases opt a1 with rfl | ⟨x1, rfl⟩ <;> rcases opt a2 with rfl | ⟨x2, rfl⟩
      · obtain ⟨_, rfl⟩ := h1.nil rfl
        obtain ⟨_, rfl⟩ := h2.nil rfl
        exact zero4_nn _ key a b w hp hb5
      · obtain ⟨_, rfl⟩ := h1.nil rfl
        exact zero4_nz _ x2 c2 key a b w hp hb5
      · obtain ⟨_, rfl⟩ := h2.nil rfl
        exact zero4_zn _ x1 c1 key a b w hp hb5
      · exact zero4_zz _ x1 c1 x2 c2 key a b w hp hb5
    · obtain ⟨b2, o2, rfl, hg2, hc2⟩ := h2.cells (by omega)
      subst l2
      rcases opt a1 with rfl | ⟨x1, rfl⟩
      · obtain ⟨_, rfl⟩ := h1.nil rfl
        exact differ4_ns _ b2 o2 c2 vs key a b w hg2 (by omega) hc2 (by omega) hp hb5
      · exact differ4_zs _ x1 c1 b2 o2 c2 vs key a b w hg2 (by omega) hc2 (by omega) hp hb5
  · obtain ⟨b1, o1, rfl, hg1, hc1⟩ := h1.cells (by omega)
    subst l1
    by_cases z2 : n2 = 0
    · obtain rfl : vs = [] := List.eq_nil_of_length_eq_zero (by omega)
      subst z2
      rcases opt a2 with rfl | ⟨x2, rfl⟩
      · obtain ⟨_, rfl⟩ := h2.nil rfl
        exact differ4_sn _ b1 o1 c1 ks key a b w hg1 (by omega) hc1 (by omega) hp hb5
      · exact differ4_sz _ b1 o1 c1 ks x2 c2 key a b w hg1 (by omega) hc1 (by omega) hp hb5
    · obtain ⟨b2, o2, rfl, hg2, hc2⟩ := h2.cells (by omega)
      subst l2
      by_cases hd : ks.length = vs.length
      · have e1 : (ks.zip vs).map Prod.fst = ks := List.map_fst_zip (by omega)
        have e2 : (ks.zip vs).map Prod.snd = vs := List.map_snd_zip (by omega)
        have el : (ks.zip vs).length = ks.length := by simp; omega
        have m := main4_ss (Short ks ks.length ∧ Short vs ks.length ∧ key.size ≤ 1048576 ∧ a.size ≤ 1048576 ∧ b.size ≤ 1048576) b1 o1 c1 b2 o2 c2 (ks.zip vs) key a b w (by omega) hg1 hg2
          (fun i hi => by unfold keyAt; rw [← getD_map1, e1]; exact hc1 i (by omega)) (fun i hi => by unfold valAt; rw [← getD_map2, e2]; exact hc2 i (by omega))
          (fun h => h.2.2) (by rw [el]; rw [← hd] at hb5; exact hb5)
        rw [el] at m
        rw [← hd]
        exact m
      · exact differ4_ss _ b1 o1 c1 ks b2 o2 c2 vs key a b w hg1 (by omega) hc1 hg2 (by omega) hc2 hd hp hb5

set_option maxRecDepth 100000 in
theorem lifted4 (os : Os) (started : os.Started) (H : Type) (enc : TypeId × Value → H) :
    ReturnsInHanded {} Try.checked os 4 .any (Rows.fnSetLastWinsSpec.pre6 enc Try.prog Try.f4 Rows.fnSetLastWinsRow.domain false) (Rows.fnSetLastWinsSpec.post enc Try.prog Try.f4 false true false false) := by
  refine returnsInHanded_of_change (C := Try.checked) own started (by kernel_rfl) Try.func4
    (ChangeSpec.witness6 (enc := enc) (C := Try.checked) false ⟨#[], #[.slice none 0 0, .slice none 0 0, .string ⟨#[]⟩, .string ⟨#[]⟩, .string ⟨#[]⟩], []⟩ 8 (by kernel_rfl) (by kernel_rfl) (by kernel_rfl) (by kernel_rfl)) ?_
  intro W base args ds gs before hval0 hW hcnd _
  have hval : ∀ (j : Nat) t v, Try.f4.params[j]? = some t → args[j]? = some v → Value.okWide Try.prog W .any base t v := hval0
  have hW' := hW
  obtain ⟨p, q, hA0, hV, rfl, hfz, hnd⟩ := hW
  have hA : DataW.TrodAll enc Try.prog W 0 (fun _ => true) true Try.f4.params.toList args.toList ds p := hA0
  rw [Try.params4] at hA hval
  obtain ⟨v0, vs0, d0, ds0, p0, q0, hargs, rfl, rfl, h0, r0⟩ := trodAll_cons hA
  obtain ⟨v1, vs1, d1, ds1, p1, q1, rfl, rfl, rfl, h1, r1⟩ := trodAll_cons r0
  obtain ⟨v2, vs2, d2, ds2, p2, q2, rfl, rfl, rfl, h2, r2⟩ := trodAll_cons r1
  obtain ⟨v3, vs3, d3, ds3, p3, q3, rfl, rfl, rfl, h3, r3⟩ := trodAll_cons r2
  obtain ⟨v4, vs4, d4, ds4, p4, q4, rfl, rfl, rfl, h4, r4⟩ := trodAll_cons r3
  obtain ⟨rfl, rfl, rfl⟩ := trodAll_nil r4
  obtain rfl : args = #[v0, v1, v2, v3, v4] := by cases args; simp_all
  obtain ⟨rfl, rfl⟩ := trodVars_none hV
  obtain ⟨a0, len0, cap0, rfl⟩ := okWide_slice Try.underlying22 (hval 0 22 v0 rfl rfl)
  obtain ⟨a1, len1, cap1, rfl⟩ := okWide_slice Try.underlying22 (hval 1 22 v1 rfl rfl)
  have k0 := h0
  have k1 := h1
  have lt0 : ∀ x ∈ p0, x.block < W.heap.size := by obtain ⟨m, hm⟩ := k0; exact DataW.trod_lt m _ _ _ hm
  have lt1 : ∀ x ∈ p1, x.block < W.heap.size := by obtain ⟨m, hm⟩ := k1; exact DataW.trod_lt m _ _ _ hm
  obtain ⟨ks, w0⟩ := inStrs h0
  obtain ⟨vs, w1⟩ := inStrs h1
  obtain ⟨s2, rfl, rfl, rfl, w2⟩ := open_string Try.underlying9 (hval 2 9 v2 rfl rfl) h2
  obtain ⟨s3, rfl, rfl, rfl, w3⟩ := open_string Try.underlying9 (hval 3 9 v3 rfl rfl) h3
  obtain ⟨s4, rfl, rfl, rfl, w4⟩ := open_string Try.underlying9 (hval 4 9 v4 rfl rfl) h4
  clear hA0 hval0
  refine (core4 a0 a1 len0 cap0 len1 cap1 ks vs s2 s3 s4 W w0 w1 w2 w3 w4).mono fun e W' ⟨he, bel⟩ => ?_
  subst he
  exact ⟨_, rfl, _, _, _, [], _, [], hW', trodAll_mk1 (shut_bool Try.underlying4 _), (trodAll_cons_mk (Below.trod laidOut (by kernel_rfl) (of_decide_eq_true (by kernel_rfl)) k0 bel lt0) (trodAll_cons_mk (Below.trod laidOut (by kernel_rfl) (of_decide_eq_true (by kernel_rfl)) k1 bel lt1)
    (trodAll_cons_mk (shut_string Try.underlying9 w2) (trodAll_cons_mk (shut_string Try.underlying9 w3) (trodAll_cons_mk (shut_string Try.underlying9 w4) trodAll_mk0))))), rfl, bel.frame _, fun h => by cases h⟩

/-- THE STATEMENT. -/
theorem setLastWins : Rows.FnSetLastWinsSaid :=
  OpenClaim.holds_of_wide 4 Try.f4 rfl rfl rfl rfl rfl rfl rfl ⟨rfl, rfl, rfl, rfl, rfl⟩ rfl rfl rfl rfl rfl (by kernel_rfl) Try.func4 (by kernel_rfl)
    (of_decide_eq_true (by kernel_rfl)) (by unfold Func.isWrapper; first | (rw [if_pos (by decide +kernel)]; kernel_rfl) | (rw [if_neg (by decide +kernel)]; exact ⟨rfl, rfl⟩))
    (fun os started H enc _ => lifted4 os started H enc)
#print axioms setLastWins
end Go.Proofs.Qxb6613733a
