/-
  (Map).set, ZZset: in place, or a new last member.
-/
import Derived.Test.Qxb6613733aGet
namespace Go.Proofs.Qxb6613733a
open Go.RowKit

def keyAt (ps : List KV) (i : Nat) : ByteArray := (ps.getD i (ByteArray.empty, ByteArray.empty)).1
/-- What set makes of the members. -/
def setM (ps : List KV) (key val : ByteArray) : List KV := if kf ps key < ps.length then ps.set (kf ps key) (keyAt ps (kf ps key), val) else ps ++ [(key, val)]

theorem flat_set (ps : List KV) (val : ByteArray) : ∀ (k : Nat), k < ps.length → flat (ps.set k (keyAt ps k, val)) = (flat ps).set (k * 3 + 1) (.iface 9 (.string val)) := by
  induction ps with
  | nil => intro k h; simp at h
  | cons p ps ih =>
    intro k h
    cases k with
    | zero => simp [flat, memV, keyAt]
    | succ k =>
      have hk : k < ps.length := by simpa using h
      have e : keyAt (p :: ps) (k + 1) = keyAt ps k := by simp [keyAt]
      rw [e]
      show memV p ++ flat (ps.set k (keyAt ps k, val)) = (memV p ++ flat ps).set ((k + 1) * 3 + 1) _
      rw [ih k hk, List.set_append_right _ _ (by simp [memV]; omega)]
      congr 2
      simp [memV]; omega

/-- What set leaves: a row of the call's own; of old blocks the row's own alone may have turned. -/
structure SetPost (ps' : List KV) (base : Nat) (v : Value) (w : World) (e : Ending) (w' : World) : Prop where
  ex : ∃ v', e = .returned v' ∧ Mems w' base v' ps' ∧ w.grownBy w' v.ownBlock

theorem setM_hit {ps : List KV} {key val : ByteArray} {k : Nat} (h : kf ps key = k) (hk : k < ps.length) : setM ps key val = ps.set k (keyAt ps k, val) := by
  unfold setM; rw [h, if_pos hk]
theorem setM_miss {ps : List KV} {key val : ByteArray} (h : ps.length ≤ kf ps key) : setM ps key val = ps ++ [(key, val)] := by
  unfold setM; rw [if_neg (by omega)]

theorem set_hit {w : World} {base g cap : Nat} {ps : List KV} {key val : ByteArray} {k : Nat} (hm : Mems w base (.slice (some ⟨g, 0, none⟩) ps.length cap) ps) (h : kf ps key = k) (hk : k < ps.length) :
    SetPost (setM ps key val) base (.slice (some ⟨g, 0, none⟩) ps.length cap) w (.returned (.slice (some ⟨g, 0, none⟩) ps.length cap)) (w.setCell ⟨g, k * 3 + 1, none⟩ (.iface 9 (.string val))) := by
  obtain ⟨h1, h2⟩ := hm.own.stored (k * 3 + 1) (.iface 9 (.string val))
  refine ⟨⟨_, rfl, ⟨by simp, ?_⟩, h2⟩⟩
  rw [setM_hit h hk, flat_set ps val k hk, List.length_set]
  exact h1

set_option maxHeartbeats 1000000 in
theorem set_any (base : Nat) (v : Value) (ps : List KV) (key val : ByteArray) (w : World) (hm : Mems w base v ps) (hn : ps.length ≤ 65536) (hbase : base ≤ w.heap.size) :
    Calls Try.prog 17 #[v, .string key, .iface 9 (.string val)] w (SetPost (setM ps key val) base v w) := by
  obtain ⟨g, cap, rfl, hbg, hg, hc, hf⟩ := hm.cases
  have HC : Hid _ := hc
  have HM : Hid (Mems w base (.slice (some ⟨g, 0, none⟩) ps.length cap) ps) := hm
  clear hc hm
  go_enter Try.func17, Try.ntmps17
  go_wp2
  go_loop [10] (fun i => ∃ k : Nat, k ≤ ps.length ∧ i = .int .i64 k ∧ k ≤ kf ps key) (fun i => ps.length - (intOf i).toNat)
  case atStart => exact ⟨0, Nat.zero_le _, rfl, Nat.zero_le _⟩
  case round =>
    obtain ⟨k, hk, rfl, hle⟩ := hrel
    have HL : Hid (k ≤ kf ps key) := hle
    clear hle
    by_cases hlt : k < ps.length
    · obtain ⟨c1, c2, c3⟩ := HC.out k hlt
      have HH : Hid (sameS (ps.getD k (ByteArray.empty, ByteArray.empty)).1 key = true → SetPost (setM ps key val) base (.slice (some ⟨g, 0, none⟩) ps.length cap) w (.returned (.slice (some ⟨g, 0, none⟩) ps.length cap)) (w.setCell ⟨g, k * 3 + 1, none⟩ (.iface 9 (.string val)))) := fun he => set_hit HM.out (kf_hit HL.out hlt he) hlt
      have HN : Hid (sameS (ps.getD k (ByteArray.empty, ByteArray.empty)).1 key = false → k + 1 ≤ kf ps key) := kf_miss HL.out hlt
      generalize ps.getD k (ByteArray.empty, ByteArray.empty) = p at c1 c2 c3 HH HN
      by_cases he : (p.1.toList == key.toList) = true
      · go_wp2
        go_ret
        exact HH.out he
      · have he' : (p.1.toList == key.toList) = false := by simpa using he
        clear he
        go_wp2
        go_round
        case rel => exact ⟨k + 1, by omega, by go_num, HN.out he'⟩
        case measure => simp [intOf]; omega
    · have HS : Hid (setM ps key val = ps ++ [(key, val)]) := setM_miss (by have := HL.out; omega)
      have HO : Hid ((w.alloc (.cells #[.string key, .iface 9 (.string val), .string ⟨#[]⟩] 37)).ownsRow base 37 3 (.slice (some ⟨g, 0, none⟩) ps.length cap) ps.length (flat ps)) := HM.out.own.alloc _
      have HW : Hid (∀ j u, (memV (key, val))[j]? = some u → (w.alloc (.cells #[.string key, .iface 9 (.string val), .string ⟨#[]⟩] 37)).cell? ((⟨w.heap.size, 0, none⟩ : Addr).add j) = some u) := cell_new3 w _ _ _
      go_wp2_with (at_builtin; refine wpList_append_own _ rfl (.tmp 27) (.tmp 31) 26 rfl base 37 Try.t37 _ 3 48 Try.underlying26 info37 rfl rfl rfl rfl (by omega) (.slice (some ⟨g, 0, none⟩) ps.length cap) ps.length (flat ps) rfl HO.out ⟨w.heap.size, 0, none⟩ 1 1 (memV (key, val)) rfl rfl HW.out (one_mem _) (by unfold maxLen; omega) (by omega) (by simp; omega) ?_; intro v1 w1 ho hgr hnn)
      have HO1 : Hid _ := ho
      have HG1 : Hid _ := hgr
      have HN1 : Hid _ := hnn
      clear ho hgr hnn
      go_wp2
      go_ret
      refine ⟨⟨_, rfl, ⟨?_, ?_⟩, ?_⟩⟩
      · intro e
        have := HN1.out.1 e
        simp at this
      · rw [HS.out, flat_snoc, List.length_append]
        exact HO1.out
      · exact (World.grownBy_alloc w _ _).trans HG1.out

set_option maxHeartbeats 400000 in
theorem zzset (base : Nat) (v : Value) (ps : List KV) (key val : ByteArray) (w : World) (hm : Mems w base v ps) (hn : ps.length ≤ 65536) (hbase : base ≤ w.heap.size) :
    Calls Try.prog 10 #[v, .string key, .string val] w (SetPost (setM ps key val) base v w) := by
  have H := set_any base v ps key val w hm hn hbase
  obtain ⟨g, cap, rfl, _⟩ := hm.cases
  have HH : Hid _ := H
  clear H hm
  go_enter Try.func10, Try.ntmps10
  go_wp2_with fail
  refine Calls.mono HH.out ?_
  rintro e w1 ⟨v', rfl, h1, h2⟩
  have HP : Hid (SetPost (setM ps key val) base (.slice (some ⟨g, 0, none⟩) ps.length cap) w (.returned v') w1) := ⟨⟨v', rfl, h1, h2⟩⟩
  clear h1 h2
  go_wp2
  go_ret
  exact HP.out
end Go.Proofs.Qxb6613733a
