/-
  (Map).Get, ZZget: the first member of that key.
-/
import Derived.Test.Qxb6613733aBuild
namespace Go.Proofs.Qxb6613733a
open Go.RowKit

def kf (ps : List KV) (key : ByteArray) : Nat := fi (ps.map Prod.fst) key
def valAt (ps : List KV) (i : Nat) : ByteArray := (ps.getD i (ByteArray.empty, ByteArray.empty)).2
theorem kf_le (ps : List KV) (key : ByteArray) : kf ps key ≤ ps.length := by have := fi_le (ps.map Prod.fst) key; simpa [kf] using this
theorem kf_hit {ps : List KV} {s : ByteArray} {k : Nat} (h : k ≤ kf ps s) (hk : k < ps.length) (he : sameS (ps.getD k (ByteArray.empty, ByteArray.empty)).1 s = true) : kf ps s = k :=
  fi_hit (ss := ps.map Prod.fst) h (by simpa using hk) (by rw [getD_map1]; exact he)
theorem kf_miss {ps : List KV} {s : ByteArray} {k : Nat} (h : k ≤ kf ps s) (hk : k < ps.length) (he : sameS (ps.getD k (ByteArray.empty, ByteArray.empty)).1 s = false) : k + 1 ≤ kf ps s :=
  fi_miss (ss := ps.map Prod.fst) h (by simpa using hk) (by rw [getD_map1]; exact he)

/-- What Get answers. -/
def gotV (ps : List KV) (key : ByteArray) : Value := if kf ps key < ps.length then .iface 9 (.string (valAt ps (kf ps key))) else .nilIface
structure Got (ps : List KV) (key : ByteArray) (w : World) (e : Ending) (w' : World) : Prop where
  ret : e = .returned (.tuple #[gotV ps key, .bool (decide (kf ps key < ps.length))])
  below : Below w.heap.size w w'

theorem got_yes {ps : List KV} {key : ByteArray} {w w' : World} {k : Nat} (h : kf ps key = k) (hk : k < ps.length) (hb : Below w.heap.size w w') :
    Got ps key w (.returned (.tuple #[.iface 9 (.string (ps.getD k (ByteArray.empty, ByteArray.empty)).2), .bool true])) w' := by
  refine ⟨?_, hb⟩
  unfold gotV valAt
  rw [h, if_pos hk, decide_eq_true hk]
theorem got_no {ps : List KV} {key : ByteArray} {w w' : World} (h : ps.length ≤ kf ps key) (hb : Below w.heap.size w w') :
    Got ps key w (.returned (.tuple #[.nilIface, .bool false])) w' := by
  refine ⟨?_, hb⟩
  unfold gotV
  rw [if_neg (by omega), decide_eq_false (by omega)]

set_option maxHeartbeats 1000000 in
theorem get_any (base : Nat) (v : Value) (ps : List KV) (key : ByteArray) (w : World) (hm : Mems w base v ps) (hn : ps.length ≤ 65536) :
    Calls Try.prog 16 #[v, .string key] w (Got ps key w) := by
  obtain ⟨g, cap, rfl, hbg, hg, hc, hf⟩ := hm.cases
  have HC : Hid _ := hc
  clear hc hf hm
  go_enter Try.func16, Try.ntmps16
  go_wp2
  go_loopw [10] (fun i wr => ∃ k : Nat, k ≤ ps.length ∧ i = .int .i64 k ∧ k ≤ kf ps key ∧ Below w.heap.size w wr) (fun i _ => ps.length - (intOf i).toNat)
  case atStart => exact ⟨0, Nat.zero_le _, rfl, Nat.zero_le _, Below.refl _ _⟩
  case round =>
    obtain ⟨k, hk, rfl, hle, hb⟩ := hrel
    have HL : Hid (k ≤ kf ps key) := hle
    have HB : Hid (Below w.heap.size w wr) := hb
    clear hle
    by_cases hlt : k < ps.length
    · obtain ⟨c1, c2, c3⟩ := HC.out k hlt
      rw [← hb.cell (p := ⟨g, k * 3, none⟩) hg] at c1
      rw [← hb.cell (p := ⟨g, k * 3 + 1, none⟩) hg] at c2
      rw [← hb.cell (p := ⟨g, k * 3 + 2, none⟩) hg] at c3
      have HH : Hid (sameS (ps.getD k (ByteArray.empty, ByteArray.empty)).1 key = true → ∀ w', Below w.heap.size w w' → Got ps key w (.returned (.tuple #[.iface 9 (.string (ps.getD k (ByteArray.empty, ByteArray.empty)).2), .bool true])) w') := fun he w' hb => got_yes (kf_hit HL.out hlt he) hlt hb
      have HM : Hid (sameS (ps.getD k (ByteArray.empty, ByteArray.empty)).1 key = false → k + 1 ≤ kf ps key) := kf_miss HL.out hlt
      generalize ps.getD k (ByteArray.empty, ByteArray.empty) = p at c1 c2 c3 HH HM
      have hgz : g < wr.heap.size := Nat.lt_of_lt_of_le hg hb.size
      clear hb
      by_cases he : (p.1.toList == key.toList) = true
      · go_wp2
        go_ret2
        exact HH.out he _ (HB.out.alloc HB.out.size _)
      · have he' : (p.1.toList == key.toList) = false := by simpa using he
        clear he
        go_wp2
        go_roundw
        case rel => exact ⟨k + 1, by omega, by go_num, HM.out he', HB.out.alloc HB.out.size _⟩
        case measure => simp [intOf]; omega
    · clear hb
      go_wp2
      go_ret2
      exact got_no (by have := HL.out; omega) HB.out

theorem as9 (v : Value) (w : World) : (Instr.typeAssert (.iface 9 v) 35 9 true).run Try.prog w = .ok (.tuple #[v, .bool true]) w := by kernel_rfl
theorem asNil (w : World) : (Instr.typeAssert .nilIface 35 9 true).run Try.prog w = .ok (.tuple #[.string ⟨#[]⟩, .bool false]) w := by kernel_rfl
attribute [local go_sem] as9 asNil

/-- What ZZget answers. -/
structure ZGot (ps : List KV) (key : ByteArray) (w : World) (e : Ending) (w' : World) : Prop where
  ret : e = .returned (.tuple #[.string (valAt ps (kf ps key)), .bool (decide (kf ps key < ps.length))])
  below : Below w.heap.size w w'

set_option maxHeartbeats 1000000 in
theorem zzget (base : Nat) (v : Value) (ps : List KV) (key : ByteArray) (w : World) (hm : Mems w base v ps) (hn : ps.length ≤ 65536) :
    Calls Try.prog 8 #[v, .string key] w (ZGot ps key w) := by
  have H := get_any base v ps key w hm hn
  obtain ⟨g, cap, rfl, _⟩ := hm.cases
  have HH : Hid _ := H
  clear H hm
  by_cases hk : kf ps key < ps.length
  · have HG : Hid (gotV ps key = .iface 9 (.string (valAt ps (kf ps key)))) := by show _ = _; unfold gotV; rw [if_pos hk]
    have HD : Hid (decide (kf ps key < ps.length) = true) := decide_eq_true hk
    have HZ : Hid (∀ w', Below w.heap.size w w' → ZGot ps key w (.returned (.tuple #[.string (valAt ps (kf ps key)), .bool true])) w') := fun w' hb => ⟨by rw [HD.out], hb⟩
    go_enter Try.func8, Try.ntmps8
    go_wp2_with fail
    refine Calls.mono HH.out ?_
    rintro e w1 ⟨hr, hb⟩
    rw [HG.out, HD.out] at hr
    subst hr
    have HB : Hid _ := hb
    clear hb hk
    generalize valAt ps (kf ps key) = x at HZ
    go_wp2
    go_ret2
    exact HZ.out _ HB.out
  · have HG : Hid (gotV ps key = .nilIface) := by show _ = _; unfold gotV; rw [if_neg hk]
    have HD : Hid (decide (kf ps key < ps.length) = false) := decide_eq_false hk
    have HZ : Hid (∀ w', Below w.heap.size w w' → ZGot ps key w (.returned (.tuple #[.string ⟨#[]⟩, .bool false])) w') := fun w' hb => ⟨by
      rw [HD.out]
      have : valAt ps (kf ps key) = ⟨#[]⟩ := by unfold valAt; rw [List.getD, List.getElem?_eq_none (by omega)]; rfl
      rw [this], hb⟩
    go_enter Try.func8, Try.ntmps8
    go_wp2_with fail
    refine Calls.mono HH.out ?_
    rintro e w1 ⟨hr, hb⟩
    rw [HG.out, HD.out] at hr
    subst hr
    have HB : Hid _ := hb
    clear hb hk
    go_wp2
    go_ret2
    exact HZ.out _ HB.out
end Go.Proofs.Qxb6613733a
