/-
  (*Repeats).Enter: what one call does, in four ways.
-/
import Derived.Test.Qxb6613733aFmtErr
import Derived.BigQuiet
import Derived.Deep.QuietTactic
namespace Go.Proofs.Qxb6613733aFmt
open Go.RowKit Go.Extern.Stop Go.Stop Go.Extern

theorem as25_29 (v : Value) (w : World) : (Instr.typeAssert (.iface 25 v) 40 29 true).run Tryf.prog w = .ok (.tuple #[.slice none 0 0, .bool false]) w := by kernel_rfl
theorem as25_25 (v : Value) (w : World) : (Instr.typeAssert (.iface 25 v) 40 25 true).run Tryf.prog w = .ok (.tuple #[v, .bool true]) w := by kernel_rfl
theorem as29_29 (v : Value) (w : World) : (Instr.typeAssert (.iface 29 v) 40 29 true).run Tryf.prog w = .ok (.tuple #[v, .bool true]) w := by kernel_rfl
attribute [local go_sem] as25_29 as25_25 as29_29

/-- But for blocks M and R, what was there is as it was. -/
structure Kept (M R : Nat) (w w' : World) : Prop where
  os : w'.os = w.os
  tape : w'.tape = w.tape
  output : w'.output = w.output
  size : w.heap.size ≤ w'.heap.size
  block : ∀ k : Nat, k < w.heap.size → k ≠ M → k ≠ R → w'.heap[k]? = w.heap[k]?

theorem Kept.refl (M R : Nat) (w : World) : Kept M R w w := ⟨rfl, rfl, rfl, Nat.le_refl _, fun _ _ _ _ => rfl⟩
theorem Kept.trans {M R : Nat} {a b c : World} (h : Kept M R a b) (k : Kept M R b c) : Kept M R a c :=
  ⟨k.os.trans h.os, k.tape.trans h.tape, k.output.trans h.output, Nat.le_trans h.size k.size, fun i hi h1 h2 => (k.block i (Nat.lt_of_lt_of_le hi h.size) h1 h2).trans (h.block i hi h1 h2)⟩
theorem Kept.alloc {M R : Nat} {a w : World} (h : Kept M R a w) (o : Obj) : Kept M R a (w.alloc o) :=
  h.trans ⟨rfl, rfl, rfl, by simp, fun k hk _ _ => Below.heap_alloc _ _ _ hk⟩
theorem Kept.drewN {M R : Nat} {a w : World} (h : Kept M R a w) (n : Nat) : Kept M R a (w.drewN n) := ⟨h.os, h.tape, h.output, h.size, h.block⟩
theorem Kept.drew {M R : Nat} {a w : World} (h : Kept M R a w) : Kept M R a w.drew := ⟨h.os, h.tape, h.output, h.size, h.block⟩
theorem Kept.setCell {M R : Nat} {a w : World} (h : Kept M R a w) (o : Nat) (u : Value) : Kept M R a (w.setCell ⟨R, o, none⟩ u) :=
  h.trans ⟨rfl, rfl, rfl, by simp [World.setCell], fun k _ _ hk => Below.heap_setCell _ _ _ _ hk⟩
theorem Kept.setMap {M R : Nat} {a w : World} (h : Kept M R a w) (o : Obj) : Kept M R a { w with heap := w.heap.setIfInBounds M o } :=
  h.trans ⟨rfl, rfl, rfl, by simp, fun k _ hk _ => by simp [Ne.symm hk]⟩
theorem Kept.below {M R : Nat} {a w w' : World} (h : Kept M R w w') (hb : Below a.heap.size a w) (hM : a.heap.size ≤ M) (hR : a.heap.size ≤ R) : Below a.heap.size a w' :=
  hb.trans ⟨h.os, h.tape, h.output, h.size, fun k hk => h.block k (Nat.lt_of_lt_of_le hk hb.size) (by omega) (by omega)⟩
theorem Kept.ofBelow {M R : Nat} {w w' : World} (h : Below w.heap.size w w') : Kept M R w w' := ⟨h.os, h.tape, h.output, h.size, fun k hk _ _ => h.block k hk⟩

/-- The Repeats at block R: its map at block M holds the keys ks; 'left' is left. -/
structure St (w : World) (R M t : Nat) (left : Int) (ks : List (Addr × Nat)) : Prop where
  cells : w.heap[R]? = some (.cells #[.map (some M), .int .i64 left] 38)
  holds : Holds w M t ks

theorem at_alloc {w : World} {b : Nat} {x : Obj} (h : w.heap[b]? = some x) (o : Obj) : (w.alloc o).heap[b]? = some x := by
  rw [Below.heap_alloc _ _ _ (Array.getElem?_eq_some_iff.1 h).1]; exact h
theorem holds_heap {w w' : World} (h : w'.heap = w.heap) {M t : Nat} {ks : List (Addr × Nat)} (hh : Holds w M t ks) : Holds w' M t ks := by
  obtain ⟨es, c, h1, h2, h3⟩ := hh
  exact ⟨es, c, by rw [h]; exact h1, h2, fun p hp => by obtain ⟨c', e', h4⟩ := h3 p hp; exact ⟨c', e', by rw [h]; exact h4⟩⟩
theorem plain_alloc {w : World} {a : Addr} (h : Plain w a) (o : Obj) : Plain (w.alloc o) a := by
  obtain ⟨c', e', h4⟩ := h
  exact ⟨c', e', at_alloc h4 o⟩
theorem holds_alloc {w : World} {M t : Nat} {ks : List (Addr × Nat)} (hh : Holds w M t ks) (o : Obj) : Holds (w.alloc o) M t ks := by
  obtain ⟨es, c, h1, h2, h3⟩ := hh
  exact ⟨es, c, at_alloc h1 o, h2, fun p hp => plain_alloc (h3 p hp) o⟩
theorem St.alloc {w : World} {R M t : Nat} {left : Int} {ks : List (Addr × Nat)} (h : St w R M t left ks) (o : Obj) : St (w.alloc o) R M t left ks := ⟨at_alloc h.1 o, holds_alloc h.2 o⟩
theorem St.heap {w w' : World} (e : w'.heap = w.heap) {R M t : Nat} {left : Int} {ks : List (Addr × Nat)} (h : St w R M t left ks) : St w' R M t left ks := ⟨by rw [e]; exact h.1, holds_heap e h.2⟩
theorem St.drewN {w : World} {R M t : Nat} {left : Int} {ks : List (Addr × Nat)} (h : St w R M t left ks) (n : Nat) : St (w.drewN n) R M t left ks := ⟨h.1, holds_heap rfl h.2⟩
theorem St.drew {w : World} {R M t : Nat} {left : Int} {ks : List (Addr × Nat)} (h : St w R M t left ks) : St w.drew R M t left ks := ⟨h.1, holds_heap rfl h.2⟩
theorem St.ne {w : World} {R M t : Nat} {left : Int} {ks : List (Addr × Nat)} (h : St w R M t left ks) : R ≠ M := by
  obtain ⟨h1, es, c, h2, _⟩ := h
  intro e; subst e; rw [h1] at h2; cases h2
theorem St.lt {w : World} {R M t : Nat} {left : Int} {ks : List (Addr × Nat)} (h : St w R M t left ks) : R < w.heap.size := (Array.getElem?_eq_some_iff.1 h.1).1
theorem plain_setCell {w : World} {a : Addr} (h : Plain w a) (p : Addr) (u : Value) : Plain (w.setCell p u) a := by
  obtain ⟨c, e, h⟩ := h
  by_cases hb : a.block = p.block
  · refine ⟨if p.spot.isSome then c else c.setIfInBounds p.off u, e, ?_⟩
    simp only [World.setCell, Array.getElem?_modify, hb, if_true]
    rw [hb] at h; rw [h]; rfl
  · exact ⟨c, e, by rw [Below.heap_setCell _ _ _ _ hb]; exact h⟩
theorem St.spend {w : World} {R M t : Nat} {left : Int} {ks : List (Addr × Nat)} (h : St w R M t left ks) (l : Int) : St (w.setCell ⟨R, 1, none⟩ (.int .i64 l)) R M t l ks := by
  have hne := h.ne
  obtain ⟨h1, es, c, h2, h3, h4⟩ := h
  refine ⟨?_, es, c, by rw [Below.heap_setCell _ _ _ _ (Ne.symm hne)]; exact h2, h3, fun p hp => plain_setCell (h4 p hp) _ _⟩
  simp only [World.setCell, Array.getElem?_modify, if_true]
  rw [h1]; rfl
theorem plain_setMap {w : World} {M : Nat} {es : Array MapEntry} {c : Nat} (hM : w.heap[M]? = some (.map es c)) {a : Addr} (h : Plain w a) (o : Obj) : Plain { w with heap := w.heap.setIfInBounds M o } a := by
  obtain ⟨c', e, h⟩ := h
  refine ⟨c', e, ?_⟩
  have : M ≠ a.block := by intro e; rw [e, h] at hM; cases hM
  show (w.heap.setIfInBounds M o)[a.block]? = _
  rw [Array.getElem?_setIfInBounds_ne this]; exact h
theorem St.put {w : World} {R M t : Nat} {left : Int} {ks : List (Addr × Nat)} (h : St w R M t left ks) {a : Addr} {n : Nat} (ha : Plain w a) {es : Array MapEntry} {c : Nat} (hM : w.heap[M]? = some (.map es c))
    (he : es.toList.map (fun e => (e.key, e.val)) = ks.map (fun p => (keyV t p.1 p.2, .bool true))) :
    St { w with heap := w.heap.setIfInBounds M (.map (es.push { key := keyV t a n, val := .bool true, born := c }) (c + 1)) } R M t left (ks ++ [(a, n)]) := by
  have hne := h.ne
  obtain ⟨h1, _, _, _, _, h4⟩ := h
  refine ⟨?_, es.push { key := keyV t a n, val := .bool true, born := c }, c + 1, ?_, ?_, ?_⟩
  · show (w.heap.setIfInBounds M _)[R]? = _
    rw [Array.getElem?_setIfInBounds_ne (Ne.symm hne)]; exact h1
  · show (w.heap.setIfInBounds M _)[M]? = _
    rw [Array.getElem?_setIfInBounds_self_of_lt (Array.getElem?_eq_some_iff.1 hM).1]
  · simp [he]
  · intro p hp
    apply plain_setMap hM
    rcases List.mem_append.1 hp with hp | hp
    · exact h4 p hp
    · simp at hp; subst hp; exact ha

/-- the world with another object at block M -/
def putW (M : Nat) (w : World) (o : Obj) : World := { w with heap := w.heap.setIfInBounds M o }

theorem St.facts {w : World} {R M t : Nat} {left : Int} {ks : List (Addr × Nat)} (h : St w R M t left ks) :
    w.cell? ⟨R, 0, none⟩ = some (.map (some M)) ∧ w.cell? ⟨R, 1, none⟩ = some (.int .i64 left) ∧ w.frozen? ⟨R, 1, none⟩ = false := by
  obtain ⟨h1, _⟩ := h
  simp [World.cell?, World.frozen?, h1]

def Kinds (T t : Nat) : Prop := (T = 25 ∧ t = 44) ∨ (T = 29 ∧ t = 43)
theorem Kinds.key {T t : Nat} (h : Kinds T t) : t = 43 ∨ t = 44 := by rcases h with ⟨_, h⟩ | ⟨_, h⟩ <;> simp [h]

set_option maxHeartbeats 400000 in
theorem enter_none (T t : Nat) (hT : Kinds T t) (R M : Nat) (a : Option Addr) (cap : Nat) (left cost : Int) (w : World) (ks : List (Addr × Nat)) (hst : St w R M t left ks) :
    Calls Tryf.prog 9 #[.pointer (some ⟨R, 0, none⟩), .iface T (.slice a 0 cap), .int .i64 cost] w fun e w' =>
      e = .returned .nilIface ∧ St w' R M t left ks ∧ Kept M R w w' := by
  have HS : Hid (St w R M t left ks) := hst
  clear hst
  rcases hT with ⟨rfl, rfl⟩ | ⟨rfl, rfl⟩
  all_goals
    go_enter Tryf.func9, Tryf.ntmps9
    go_wp2
    go_ret
    exact ⟨rfl, HS.out.alloc _, (Kept.refl _ _ _).alloc _⟩

set_option maxHeartbeats 400000 in
theorem enter_ok (T t : Nat) (hT : Kinds T t) (R M S off len cap : Nat) (left cost : Int) (w : World) (ks : List (Addr × Nat)) (hst : St w R M t left ks)
    (hlen : 0 < len) (_hle : len ≤ 65536) (hS : Plain w ⟨S, off, none⟩) (hin : (⟨S, off, none⟩, len) ∈ ks)
    (hb1 : -4611686018427387904 ≤ left) (hb2 : left ≤ 65536) (hb3 : 0 ≤ cost) (hb4 : cost ≤ 1152921504606846976) (hok : 0 ≤ left - cost) :
    Calls Tryf.prog 9 #[.pointer (some ⟨R, 0, none⟩), .iface T (.slice (some ⟨S, off, none⟩) len cap), .int .i64 cost] w fun e w' =>
      e = .returned .nilIface ∧ St w' R M t (left - cost) ks ∧ Kept M R w w' := by
  have hlk : ∀ n, (Instr.lookup 36 (.map (some M)) (keyV t ⟨S, off, none⟩ len) false).run Tryf.prog ((w.alloc (.cells #[.iface t (.pointer (some ⟨S, off, none⟩)), .int .i64 len] 42)).drewN n) = .ok (.bool true) ((w.alloc (.cells #[.iface t (.pointer (some ⟨S, off, none⟩)), .int .i64 len] 42)).drewN n) := fun n =>
    look_in hT.key (holds_heap (w' := (w.alloc (.cells #[.iface t (.pointer (some ⟨S, off, none⟩)), .int .i64 len] 42)).drewN n) rfl (holds_alloc hst.2 (.cells #[.iface t (.pointer (some ⟨S, off, none⟩)), .int .i64 len] 42))) (plain_alloc hS _) hin
  unfold keyV at hlk
  obtain ⟨hr0, hr1, hfz⟩ := hst.facts
  have hR := hst.lt
  have HS : Hid (St w R M t left ks) := hst
  clear hst hS hin
  rcases hT with ⟨rfl, rfl⟩ | ⟨rfl, rfl⟩
  all_goals
    go_enter Tryf.func9, Tryf.ntmps9
    go_wp2
    go_quiet (fail)
    go_wp2
    go_ret
    refine ⟨rfl, ?_, ?_⟩
    · exact ((HS.out.alloc _).drewN _).spend _
    · exact (((Kept.refl _ _ _).alloc _).drewN _).setCell _ _

theorem St.grown {w w' : World} {R M t : Nat} {left : Int} {ks : List (Addr × Nat)} (h : St w R M t left ks) (hb : Below w.heap.size w w') : St w' R M t left ks := by
  obtain ⟨h1, es, c, h2, h3, h4⟩ := h
  refine ⟨by rw [hb.block _ (Array.getElem?_eq_some_iff.1 h1).1]; exact h1, es, c, by rw [hb.block _ (Array.getElem?_eq_some_iff.1 h2).1]; exact h2, h3, fun p hp => ?_⟩
  obtain ⟨c', e', h5⟩ := h4 p hp
  exact ⟨c', e', by rw [hb.block _ (Array.getElem?_eq_some_iff.1 h5).1]; exact h5⟩

set_option maxHeartbeats 400000 in
theorem enter_err (T t : Nat) (hT : Kinds T t) (R M S off len cap : Nat) (left cost : Int) (w : World) (ks : List (Addr × Nat)) (hst : St w R M t left ks)
    (hlen : 0 < len) (_hle : len ≤ 65536) (hS : Plain w ⟨S, off, none⟩) (hin : (⟨S, off, none⟩, len) ∈ ks)
    (hb1 : -4611686018427387904 ≤ left) (hb2 : left ≤ 65536) (hb3 : 0 ≤ cost) (hb4 : cost ≤ 1152921504606846976) (hok : left - cost < 0) :
    Calls Tryf.prog 9 #[.pointer (some ⟨R, 0, none⟩), .iface T (.slice (some ⟨S, off, none⟩) len cap), .int .i64 cost] w fun e w' =>
      ∃ p, e = .returned (.iface 51 (.pointer (some p))) ∧ St w' R M t (left - cost) ks ∧ Kept M R w w' := by
  have hlk : ∀ n, (Instr.lookup 36 (.map (some M)) (keyV t ⟨S, off, none⟩ len) false).run Tryf.prog ((w.alloc (.cells #[.iface t (.pointer (some ⟨S, off, none⟩)), .int .i64 len] 42)).drewN n) = .ok (.bool true) ((w.alloc (.cells #[.iface t (.pointer (some ⟨S, off, none⟩)), .int .i64 len] 42)).drewN n) := fun n =>
    look_in hT.key (holds_heap (w' := (w.alloc (.cells #[.iface t (.pointer (some ⟨S, off, none⟩)), .int .i64 len] 42)).drewN n) rfl (holds_alloc hst.2 (.cells #[.iface t (.pointer (some ⟨S, off, none⟩)), .int .i64 len] 42))) (plain_alloc hS _) hin
  unfold keyV at hlk
  obtain ⟨hr0, hr1, hfz⟩ := hst.facts
  have hR := hst.lt
  have HS : Hid (St w R M t left ks) := hst
  clear hst hS hin
  rcases hT with ⟨rfl, rfl⟩ | ⟨rfl, rfl⟩
  all_goals
    go_enter Tryf.func9, Tryf.ntmps9
    go_wp2
    go_quiet (fail)
    go_wp2_with fail
    refine (errorf_any (w.heap.size + 1) 65536 _ ?hc).mono ?_
    case hc => go_simp
    rintro e w' ⟨rfl, hb⟩
    go_wp2
    go_ret
    refine ⟨_, rfl, ?_, ?_⟩
    · exact ((((HS.out.alloc _).drewN _).spend _).alloc _).grown hb
    · exact (((((Kept.refl _ _ _).alloc _).drewN _).setCell _ _).alloc _).trans (Kept.ofBelow hb)

set_option maxHeartbeats 400000 in
theorem enter_new (T t : Nat) (hT : Kinds T t) (R M S off len cap : Nat) (left cost : Int) (w : World) (ks : List (Addr × Nat)) (hst : St w R M t left ks)
    (hlen : 0 < len) (_hle : len ≤ 65536) (hS : Plain w ⟨S, off, none⟩) (hin : (⟨S, off, none⟩, len) ∉ ks) :
    Calls Tryf.prog 9 #[.pointer (some ⟨R, 0, none⟩), .iface T (.slice (some ⟨S, off, none⟩) len cap), .int .i64 cost] w fun e w' =>
      e = .returned .nilIface ∧ St w' R M t left (ks ++ [(⟨S, off, none⟩, len)]) ∧ Kept M R w w' := by
  have hlk : ∀ n, (Instr.lookup 36 (.map (some M)) (keyV t ⟨S, off, none⟩ len) false).run Tryf.prog ((w.alloc (.cells #[.iface t (.pointer (some ⟨S, off, none⟩)), .int .i64 len] 42)).drewN n) = .ok (.bool false) ((w.alloc (.cells #[.iface t (.pointer (some ⟨S, off, none⟩)), .int .i64 len] 42)).drewN n) := fun n =>
    look_out hT.key (holds_heap (w' := (w.alloc (.cells #[.iface t (.pointer (some ⟨S, off, none⟩)), .int .i64 len] 42)).drewN n) rfl (holds_alloc hst.2 (.cells #[.iface t (.pointer (some ⟨S, off, none⟩)), .int .i64 len] 42))) (plain_alloc hS _) hin
  unfold keyV at hlk
  obtain ⟨es, c, hM, he, hup0⟩ := put_new hT.key (holds_alloc hst.2 (.cells #[.iface t (.pointer (some ⟨S, off, none⟩)), .int .i64 len] 42)) (plain_alloc hS _) hin
  have hup : ∀ n, (Instr.mapUpdate 36 (.map (some M)) (.agg #[.iface t (.pointer (some ⟨S, off, none⟩)), .int .i64 len]) (.bool true)).run Tryf.prog ((w.alloc (.cells #[.iface t (.pointer (some ⟨S, off, none⟩)), .int .i64 len] 42)).drewN n) =
      .ok () (putW M ((w.alloc (.cells #[.iface t (.pointer (some ⟨S, off, none⟩)), .int .i64 len] 42)).drewN n) (.map (es.push { key := keyV t ⟨S, off, none⟩ len, val := .bool true, born := c }) (c + 1))) := by
    intro n
    obtain ⟨es', c', hM', _, hup1⟩ := put_new hT.key (holds_heap (w' := ((w.alloc (.cells #[.iface t (.pointer (some ⟨S, off, none⟩)), .int .i64 len] 42)).drewN n)) rfl (holds_alloc hst.2 (.cells #[.iface t (.pointer (some ⟨S, off, none⟩)), .int .i64 len] 42))) (plain_alloc hS _) hin
    have hM'' : (w.alloc (.cells #[.iface t (.pointer (some ⟨S, off, none⟩)), .int .i64 len] 42)).heap[M]? = some (.map es' c') := hM'
    rw [hM] at hM''
    simp only [Option.some.injEq, Obj.map.injEq] at hM''
    obtain ⟨rfl, rfl⟩ := hM''
    exact hup1
  clear hup0
  have HM : Hid ((w.alloc (.cells #[.iface t (.pointer (some ⟨S, off, none⟩)), .int .i64 len] 42)).heap[M]? = some (.map es c)) := hM
  have HE : Hid (es.toList.map (fun e => (e.key, e.val)) = ks.map (fun p => (keyV t p.1 p.2, .bool true))) := he
  clear hM he
  obtain ⟨hr0, hr1, hfz⟩ := hst.facts
  have hR := hst.lt
  have HS : Hid (St w R M t left ks) := hst
  have HP : Hid (Plain w ⟨S, off, none⟩) := hS
  have HI : Hid ((⟨S, off, none⟩, len) ∉ ks) := hin
  clear hst hS hin
  rcases hT with ⟨rfl, rfl⟩ | ⟨rfl, rfl⟩
  all_goals
    go_enter Tryf.func9, Tryf.ntmps9
    go_wp2
    go_quiet (fail)
    go_wp2
    go_region
    go_wp2
    go_ret
    refine ⟨rfl, ?_, ?_⟩
    · exact ((HS.out.alloc _).drewN _).put (plain_alloc HP.out _) HM.out HE.out
    · exact (((Kept.refl _ _ _).alloc _).drewN _).setMap _
end Go.Proofs.Qxb6613733aFmt
