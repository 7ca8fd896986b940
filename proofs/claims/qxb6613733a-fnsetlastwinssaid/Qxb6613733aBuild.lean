/-
  ZZbuild: a row of members, key by key.
-/
import Derived.Test.Qxb6613733aSum
import Derived.Laws.MakeOwn
import Derived.Deep.RegionLaw
namespace Go.Proofs.Qxb6613733a
open Go.RowKit

abbrev KV := ByteArray × ByteArray
def memV (p : KV) : List Value := [.string p.1, .iface 9 (.string p.2), .string ⟨#[]⟩]
def flat (ps : List KV) : List Value := ps.flatMap memV
theorem flat_snoc (ps : List KV) (p : KV) : flat (ps ++ [p]) = flat ps ++ memV p := by simp [flat]
theorem flat_length (ps : List KV) : (flat ps).length = ps.length * 3 := by
  induction ps with
  | nil => rfl
  | cons p ps ih => simp only [flat, List.flatMap_cons, List.length_append, List.length_cons] at *; rw [ih]; simp [memV]; omega
theorem flat_at (ps : List KV) : ∀ (k : Nat) (h : k < ps.length) (j : Nat), j < 3 → (flat ps)[k * 3 + j]? = (memV ps[k])[j]? := by
  induction ps with
  | nil => intro k h; simp at h
  | cons p ps ih =>
    intro k h j hj
    cases k with
    | zero =>
      show (memV p ++ flat ps)[0 * 3 + j]? = _
      rw [List.getElem?_append_left (by simp [memV]; omega)]
      simp
    | succ k =>
      show (memV p ++ flat ps)[(k + 1) * 3 + j]? = _
      rw [List.getElem?_append_right (by simp [memV]; omega)]
      have : (k + 1) * 3 + j - (memV p).length = k * 3 + j := by simp [memV]; omega
      rw [this]
      simpa using ih k (by simpa using h) j hj

/-- A row of members that the call owns; not nil. -/
structure Mems (w : World) (base : Nat) (v : Value) (ps : List KV) : Prop where
  some : v ≠ .slice none 0 0
  own : w.ownsRow base 37 3 v ps.length (flat ps)

theorem Mems.mono {w : World} {b c : Nat} {v : Value} {ps : List KV} (h : Mems w b v ps) (hc : c ≤ b) : Mems w c v ps := by
  refine ⟨h.some, h.own.1, ?_⟩
  rcases h.own.2 with h | ⟨g, cap, cur, e, hb, r⟩
  · exact .inl h
  · exact .inr ⟨g, cap, cur, e, Nat.le_trans hc hb, r⟩
theorem Mems.cases {w : World} {base : Nat} {v : Value} {ps : List KV} (h : Mems w base v ps) :
    ∃ g cap, v = .slice (Option.some ⟨g, 0, none⟩) ps.length cap ∧ base ≤ g ∧ g < w.heap.size ∧ (∀ i, i < ps.length → w.cell? ⟨g, i * 3, none⟩ = Option.some (.string (ps.getD i (ByteArray.empty, ByteArray.empty)).1) ∧
      w.cell? ⟨g, i * 3 + 1, none⟩ = Option.some (.iface 9 (.string (ps.getD i (ByteArray.empty, ByteArray.empty)).2)) ∧ w.cell? ⟨g, i * 3 + 2, none⟩ = Option.some (.string ⟨#[]⟩)) ∧ (∀ j, w.frozen? ⟨g, j, none⟩ = false) := by
  obtain ⟨hs, h1, h2⟩ := h
  have h3 : w.ownsRow base 37 3 v ps.length (flat ps) := ⟨h1, h2⟩
  rcases h2 with ⟨rfl, h0⟩ | ⟨g, cap, cur, rfl, hb, hg, hn, hm, hc, ht⟩
  · exact absurd rfl hs
  · refine ⟨g, cap, rfl, hb, (Array.getElem?_eq_some_iff.1 hg).1, fun i hi => ?_, fun j => h3.frozenAt j⟩
    have e : ps.getD i (ByteArray.empty, ByteArray.empty) = ps[i] := by simp [List.getD, hi]
    refine ⟨?_, ?_, ?_⟩
    · rw [h3.cellAt (i * 3) (by omega), ← Nat.add_zero (i * 3), flat_at ps i hi 0 (by omega), e]; rfl
    · rw [h3.cellAt (i * 3 + 1) (by omega), flat_at ps i hi 1 (by omega), e]; rfl
    · rw [h3.cellAt (i * 3 + 2) (by omega), flat_at ps i hi 2 (by omega)]; rfl

theorem info37 : Try.prog.info? 37 = some Try.t37 := by kernel_rfl
theorem info9 : Try.prog.info? 9 = some Try.t9 := by kernel_rfl

theorem make26 (n : Nat) (hn : n ≤ 65536) (w : World) : (Instr.makeSlice 26 (.int .i64 0) (.int .i64 (n : Int))).run Try.prog w = .ok (.slice (some ⟨w.heap.size, 0, none⟩) 0 n) (w.alloc (.cells (madeCells #[.string ⟨#[]⟩, .nilIface, .string ⟨#[]⟩] (n * 3)) 37)) := by
  have h := run_make (P := Try.prog) w 26 37 Try.t37 _ Try.underlying26 info37 rfl .i64 .i64 0 (n : Int) (by omega) (by omega) (by show (48 : Int) * _ ≤ _; omega) (by omega)
  simp only [Int.toNat_natCast] at h
  exact h

/-- What ZZbuild leaves. -/
structure Built (ps : List KV) (w : World) (e : Ending) (w' : World) : Prop where
  ex : ∃ v, e = .returned v ∧ Mems w' w.heap.size v ps ∧ Below w.heap.size w w'

theorem one_mem (p : KV) : ∀ u ∈ memV p, u.oneCell' = true := by
  intro u hu
  simp only [memV, List.mem_cons, List.not_mem_nil, or_false] at hu
  rcases hu with rfl | rfl | rfl <;> rfl

/-- append onto a row of the call's own, as one step of a region that draws. -/
theorem step_append_own {P : Program} {ops : Array Oper} {o : Oper} {a : Act} {w : World} {K : Act → World → Prop} {Q : Exit → Act → World → Prop} {E : Prop}
    (hg : o.guard = none) (s x : Operand) (t : TypeId) (hop : o.op = Op.call { callee := Callee.builtin Builtin.append, args := #[s, x], argTypes := #[t, t] })
    (base : Nat) (e : TypeId) (i : TypeInfo) (z : Value) (size bytes : Nat) (h1 : P.underlying t = some (.slice e)) (h2 : P.info? e = some i) (h3 : i.zero = some z) (h4 : i.size = size) (h5 : i.bytes = bytes) (h6 : z.cells.size = size) (h7 : 0 < size)
    (v : Value) (n : Nat) (xs : List Value) (hs : a.eval s = v) (hown : w.ownsRow base e size v n xs)
    (ad : Addr) (m c : Nat) (news : List Value) (hx : a.eval x = .slice (some ad) m c) (hn : news.length = m * size) (hc : ∀ j u, news[j]? = some u → w.cell? (ad.add j) = some u) (h1c : ∀ u ∈ news, u.oneCell' = true)
    (b1 : n + m ≤ maxLen) (b2 : (n + m) * bytes ≤ 140737488355328) (hbase : base ≤ w.heap.size)
    (hK : ∀ v' w', w'.ownsRow base e size v' (n + m) (xs ++ news) → w.grownBy w' v.ownBlock → (v' = .slice none 0 0 ↔ v = .slice none 0 0 ∧ m = 0) → K (a.put o.dst v') w') :
    if Region.wanted o (yielded ops a.tmps) = true then Oper.wp P o a w K Q else E := by
  have hw : Region.wanted o (yielded ops a.tmps) = true := by simp [Region.wanted, hg]
  rw [if_pos hw]
  obtain ⟨v', w', hrun, r1, r2, r3⟩ := run_append_own (P := P) w base t o.type e i z size bytes h1 h2 h3 h4 h5 h6 h7 v n xs hown ad m c news hn hc h1c b1 b2 hbase
  unfold Oper.wp
  simp [execOp, hop, resolve, invoke, builtin, hs, hx, hrun, Result.andThen]
  exact hK v' w' r1 r2 r3

theorem cell_new3 (w : World) (x y z : Value) : ∀ (j : Nat) u, [x, y, z][j]? = some u → (w.alloc (.cells #[x, y, z] 37)).drew.cell? ((⟨w.heap.size, 0, none⟩ : Addr).add j) = some u := by
  intro j u h
  have hb : (w.alloc (.cells #[x, y, z] 37)).drew.heap[w.heap.size]? = some (.cells #[x, y, z] 37) := by show (w.heap.push _)[w.heap.size]? = _; simp
  have ha : (⟨w.heap.size, 0, none⟩ : Addr).add j = ⟨w.heap.size, j, none⟩ := by unfold Addr.add; split <;> simp_all
  rw [ha]
  unfold World.cell?
  rw [hb]
  simpa using h

set_option maxHeartbeats 1000000 in
theorem build_some (g1 c1 g2 c2 : Nat) (ps : List KV) (w : World) (hn : ps.length ≤ 4096) (hg1 : g1 < w.heap.size) (hg2 : g2 < w.heap.size)
    (hk : ∀ i, i < ps.length → w.cell? ⟨g1, i, none⟩ = some (.string (ps.getD i (ByteArray.empty, ByteArray.empty)).1)) (hv : ∀ i, i < ps.length → w.cell? ⟨g2, i, none⟩ = some (.string (ps.getD i (ByteArray.empty, ByteArray.empty)).2)) :
    Calls Try.prog 7 #[.slice (some ⟨g1, 0, none⟩) ps.length c1, .slice (some ⟨g2, 0, none⟩) ps.length c2] w (Built ps w) := by
  have HK : Hid _ := hk
  have HV : Hid _ := hv
  clear hk hv
  have hmk := make26 ps.length (by omega)
  go_enter Try.func7, Try.ntmps7
  go_wp2
  go_loopw [5, 12] (fun v i wr => ∃ k : Nat, k ≤ ps.length ∧ i = .int .i64 k ∧ Mems wr w.heap.size v (ps.take k) ∧ Below w.heap.size w wr) (fun _ i _ => ps.length - (intOf i).toNat)
  case atStart =>
    refine ⟨0, Nat.zero_le _, rfl, ⟨by simp, ?_⟩, (Below.refl _ _).alloc (Nat.le_refl _) _⟩
    exact World.ownsRow_made w _ ps.length (Nat.le_refl _) (by unfold maxLen; omega) (size_madeCells _ _)
  case round =>
    obtain ⟨k, hk, rfl, hm, hb⟩ := hrel
    by_cases hlt : k < ps.length
    · have hck := HK.out k hlt
      have hcv := HV.out k hlt
      rw [← hb.cell (p := ⟨g1, k, none⟩) hg1] at hck
      rw [← hb.cell (p := ⟨g2, k, none⟩) hg2] at hcv
      have HT : Hid (ps.take (k + 1) = ps.take k ++ [ps.getD k (ByteArray.empty, ByteArray.empty)]) := by show _ = _; rw [List.take_succ_eq_append_getElem hlt]; simp [List.getD, hlt]
      generalize ps.getD k (ByteArray.empty, ByteArray.empty) = p at hck hcv HT
      have HM : Hid _ := hm
      have HB : Hid _ := hb
      clear hm hb
      have hz : w.heap.size ≤ wr.heap.size := HB.out.size
      go_wp2
      have HO : Hid ((wr.alloc (.cells #[.string p.1, .iface 9 (.string p.2), .string ⟨#[]⟩] 37)).drew.ownsRow w.heap.size 37 3 u5 k (flat (ps.take k))) := by
        have h := (HM.out.own.alloc (.cells #[.string p.1, .iface 9 (.string p.2), .string ⟨#[]⟩] 37))
        rw [List.length_take, Nat.min_eq_left hk] at h
        exact h
      have HC : Hid (∀ j u, (memV p)[j]? = some u → (wr.alloc (.cells #[.string p.1, .iface 9 (.string p.2), .string ⟨#[]⟩] 37)).drew.cell? ((⟨wr.heap.size, 0, none⟩ : Addr).add j) = some u) := cell_new3 wr _ _ _
      go_region_law (refine step_append_own rfl (.tmp 15) (.tmp 26) 26 rfl w.heap.size 37 Try.t37 _ 3 48 Try.underlying26 info37 rfl rfl rfl rfl (by omega) u5 k (flat (ps.take k)) (by simp [Act.eval]) HO.out ⟨wr.heap.size, 0, none⟩ 1 1 (memV p) (by simp [Act.eval]) rfl HC.out (one_mem p) (by unfold maxLen; omega) (by omega) (by simp; omega) ?_; intro v1 w1 ho hgr hnn; have HO1 : Hid (w1.ownsRow w.heap.size 37 3 v1 (k + 1) (flat (ps.take k) ++ memV p)) := ho; have HG1 : Hid _ := hgr; have HN1 : Hid _ := hnn; clear ho hgr hnn)
      go_wp2
      all_goals
        go_roundw
        case rel =>
          refine ⟨k + 1, by omega, by go_num, ⟨?_, ?_⟩, ?_⟩
          · intro e
            have := HN1.out.1 e
            simp at this
          · rw [HT.out, flat_snoc]
            simp only [List.length_append, List.length_take, List.length_cons, List.length_nil]
            rw [Nat.min_eq_left hk]
            exact HO1.out
          · refine Below.grown ((HB.out.alloc HB.out.size _).drew) HG1.out (by simp; omega) ?_
            intro j hj
            have := HM.out.own.lt j hj
            exact this.1
        case measure => simp [intOf]; omega
    · have e : k = ps.length := by omega
      subst e
      have HM : Hid _ := hm
      have HB : Hid _ := hb
      clear hm hb
      go_wp2
      go_ret
      refine ⟨⟨_, rfl, ?_, HB.out⟩⟩
      have := HM.out
      rwa [List.take_length] at this

theorem build_nil (v1 v2 : Option Addr) (c1 c2 : Nat) (w : World) : Calls Try.prog 7 #[.slice v1 0 c1, .slice v2 0 c2] w (Built [] w) := by
  have hmk := make26 0 (by omega)
  simp only [Int.natCast_zero] at hmk
  go_enter Try.func7, Try.ntmps7
  go_wp2
  refine wp_loop_rounds 1 ?_
  rw [rounds_succ]
  go_wp2
  go_ret
  refine ⟨⟨_, rfl, ⟨by simp, ?_⟩, (Below.refl _ _).alloc (Nat.le_refl _) _⟩⟩
  exact World.ownsRow_made w _ 0 (Nat.le_refl _) (by unfold maxLen; omega) (size_madeCells _ _)

theorem getD_map1 (ps : List KV) (i : Nat) : (ps.map Prod.fst).getD i ByteArray.empty = (ps.getD i (ByteArray.empty, ByteArray.empty)).1 := by
  simp only [List.getD, List.getElem?_map]; cases ps[i]? <;> rfl
theorem getD_map2 (ps : List KV) (i : Nat) : (ps.map Prod.snd).getD i ByteArray.empty = (ps.getD i (ByteArray.empty, ByteArray.empty)).2 := by
  simp only [List.getD, List.getElem?_map]; cases ps[i]? <;> rfl

theorem zzbuild (base : Nat) (v1 v2 : Value) (ps : List KV) (w : World) (hn : ps.length ≤ 4096) (h1 : Strs w base v1 (ps.map Prod.fst)) (h2 : Strs w base v2 (ps.map Prod.snd)) :
    Calls Try.prog 7 #[v1, v2] w (Built ps w) := by
  by_cases h0 : ps = []
  · subst h0
    rcases h1.cases with ⟨rfl, _⟩ | ⟨g1, c1, rfl, _⟩ <;> rcases h2.cases with ⟨rfl, _⟩ | ⟨g2, c2, rfl, _⟩
    · exact build_nil _ _ _ _ w
    · exact build_nil _ _ _ _ w
    · exact build_nil _ _ _ _ w
    · exact build_nil _ _ _ _ w
  · rcases h1.cases with ⟨_, h⟩ | ⟨g1, c1, rfl, _, l1, hc1⟩
    · simp at h; exact absurd h h0
    rcases h2.cases with ⟨_, h⟩ | ⟨g2, c2, rfl, _, l2, hc2⟩
    · simp at h; exact absurd h h0
    simp only [List.length_map, getD_map1, getD_map2] at hc1 hc2 ⊢
    exact build_some g1 c1 g2 c2 ps w hn l1 l2 hc1 hc2
end Go.Proofs.Qxb6613733a
