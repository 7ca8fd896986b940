/-
  The map 'entered' of Repeats: keys are (address, length). What a look-up and a store do to a map whose keys are known.
-/
import Derived.Test.Qxb6613733aFmtRows
import Derived.WalkKit
import Derived.WalkSpells
import Derived.WalkLawsBesides
import Derived.LaidEql
import Derived.MapKept
import Derived.WideKeyRuns
namespace Go.Proofs.Qxb6613733aFmt
open Go.RowKit

/-- A key: the interface value over a pointer of type t, and the length. -/
def keyV (t : Nat) (a : Addr) (n : Nat) : Value := .agg #[.iface t (.pointer (some a)), .int .i64 n]

def entV (t : Nat) (p : Addr × Nat) (c : Nat) : MapEntry := { key := keyV t p.1 p.2, val := .bool true, born := c }

/-- the block of a is a plain row of cells -/
def Plain (w : World) (a : Addr) : Prop := ∃ c e, w.heap[a.block]? = some (.cells c e (0, 0))

theorem part0 (w : World) (x y : Value) : (part 20 #[x, y] 0).run Tryf.prog w = .ok x w := by kernel_rfl
theorem part1 (w : World) (x y : Value) : (part 3 #[x, y] 1).run Tryf.prog w = .ok y w := by kernel_rfl
theorem flds : Tryf.prog.underlying 42 = some (.struct (Tryf.prog.fieldsOf 42)) := by kernel_rfl
theorem fldl : (Tryf.prog.fieldsOf 42).toList = [{ name := "first", type := 20, offset := 0, embedded := false, tag := "", pkgPath := (Tryf.prog.fieldsOf 42)[0]!.pkgPath, byteOffset := 0 }, { name := "n", type := 3, offset := 1, embedded := false, tag := "", pkgPath := (Tryf.prog.fieldsOf 42)[1]!.pkgPath, byteOffset := 16 }] := by kernel_rfl
theorem stood : Tryf.prog.stoodInHeld 42 = false := by kernel_rfl
theorem info43 : Tryf.prog.info? 43 = some Tryf.t43 := by kernel_rfl
theorem info44 : Tryf.prog.info? 44 = some Tryf.t44 := by kernel_rfl
theorem info40 : Tryf.prog.info? 40 = some Tryf.t40 := by kernel_rfl
theorem info46 : Tryf.prog.info? 46 = some Tryf.t46 := by kernel_rfl

theorem eq_iface (w : World) (t : Nat) (ht : t = 43 ∨ t = 44) (a b : Addr) (ha : Plain w a) (hb : Plain w b) (d : Nat) :
    (Op.equalIn (d + 2) 20 (.iface t (.pointer (some a))) (.iface t (.pointer (some b)))).run Tryf.prog w = .ok (decide (a = b)) w := by
  obtain ⟨ca, ea, ha⟩ := ha
  obtain ⟨cb, eb, hb⟩ := hb
  by_cases h : a = b
  · subst h
    rcases ht with rfl | rfl
    · simpa using run_equalIn_iface_ptr_same w d a Tryf.underlying20 Tryf.underlying43 info43 rfl info40
    · simpa using run_equalIn_iface_ptr_same w d a Tryf.underlying20 Tryf.underlying44 info44 rfl info46
  · rcases ht with rfl | rfl
    · simpa [h] using run_equalIn_iface_ptr_other w d Tryf.underlying20 Tryf.underlying43 info43 rfl info40 (by decide) h ha hb
    · simpa [h] using run_equalIn_iface_ptr_other w d Tryf.underlying20 Tryf.underlying44 info44 rfl info46 (by decide) h ha hb

theorem eq_key (w : World) (t : Nat) (ht : t = 43 ∨ t = 44) (a b : Addr) (n m : Nat) (ha : Plain w a) (hb : Plain w b) :
    (Op.equal 42 (keyV t a n) (keyV t b m)).run Tryf.prog w = .ok (decide (a = b ∧ n = m)) w := by
  have h : ∀ d : Nat, (Op.equalIn (d + 3) 42 (keyV t a n) (keyV t b m)).run Tryf.prog w = .ok (decide (a = b ∧ n = m)) w := by
    intro d
    unfold keyV
    rw [run_equalIn_struct w (d + 2) 42 _ _ flds stood, fldl]
    have hi := run_equalIn_int (P := Tryf.prog) w (d + 1) 3 .i64 .i64 n m Tryf.underlying3
    simp only [Op.eqFields, Sem.run_ite, Sem.run_bind, part0, part1, eq_iface w t ht a b ha hb d, Result.andThen_ok]
    by_cases hab : a = b
    · by_cases hnm : n = m
      · subst hab; subst hnm; simp [hi]
      · have : ((n : Int) == (m : Int)) = false := by simp; omega
        simp only [hi, this, Result.andThen_ok]
        simp [hab, hnm]
    · simp [hab]
  exact h 9997

theorem check_key (w : World) (t : Nat) (ht : t = 43 ∨ t = 44) (a : Addr) (n : Nat) (em : Bool) :
    (Instr.checkKey em 10000 42 (keyV t a n)).run Tryf.prog w = .ok () w := by
  rcases ht with rfl | rfl <;> cases em <;> kernel_rfl

theorem find_key (w : World) (t : Nat) (ht : t = 43 ∨ t = 44) (a : Addr) (n : Nat) (ha : Plain w a) :
    ∀ (ks : List (Addr × Nat)) (es : List MapEntry) (i : Nat), es.map (fun e => (e.key, e.val)) = ks.map (fun p => (keyV t p.1 p.2, .bool true)) → (∀ p ∈ ks, Plain w p.1) →
      (((a, n) ∈ ks → ∃ j, (Instr.findAsking 42 (keyV t a n) es i).run Tryf.prog w = .ok (some (j, .bool true)) w) ∧ ((a, n) ∉ ks → (Instr.findAsking 42 (keyV t a n) es i).run Tryf.prog w = .ok none w)) := by
  intro ks
  induction ks with
  | nil => intro es i he _; simp at he; subst he; simp [Instr.findAsking]
  | cons p ks ih =>
    intro es i he hp
    match es, he with
    | e :: es, he =>
      simp only [List.map_cons, List.cons.injEq, Prod.mk.injEq] at he
      obtain ⟨⟨hk, hv⟩, he⟩ := he
      simp only [Instr.findAsking, Sem.run_bind, hk, hv, eq_key w t ht a p.1 n p.2 ha (hp p (by simp)), Result.andThen_ok]
      by_cases hh : a = p.1 ∧ n = p.2
      · obtain ⟨h1, h2⟩ := hh
        have : (a, n) = p := by rw [h1, h2]
        subst this
        simp
      · have hne' : (a, n) ≠ p := by intro e; apply hh; rw [← e]; exact ⟨rfl, rfl⟩
        rw [decide_eq_false hh]
        simp only [Bool.false_eq_true, if_false]
        have hi := ih es (i + 1) he (fun q hq => hp q (by simp [hq]))
        simpa only [List.mem_cons, hne', false_or] using hi

/-- the map at block M holds the keys ks, in whatever order they were laid -/
def Holds (w : World) (M : Nat) (t : Nat) (ks : List (Addr × Nat)) : Prop :=
  ∃ es c, w.heap[M]? = some (.map es c) ∧ es.toList.map (fun e => (e.key, e.val)) = ks.map (fun p => (keyV t p.1 p.2, .bool true)) ∧ ∀ p ∈ ks, Plain w p.1

theorem zero4 (w : World) : (zeroValue 4).run Tryf.prog w = .ok (.bool false) w := by kernel_rfl
theorem wide42 : (match Tryf.prog.underlying 42 with | some (.array _ _) | some (.struct _) => true | _ => false) = true := by kernel_rfl

theorem look_in {w : World} {M t : Nat} {ks : List (Addr × Nat)} (ht : t = 43 ∨ t = 44) (h : Holds w M t ks) {a : Addr} {n : Nat} (ha : Plain w a) (hm : (a, n) ∈ ks) :
    (Instr.lookup 36 (.map (some M)) (keyV t a n) false).run Tryf.prog w = .ok (.bool true) w := by
  obtain ⟨es, c, hM, he, hp⟩ := h
  obtain ⟨j, hf⟩ := (find_key w t ht a n ha ks es.toList 0 he hp).1 hm
  simp only [Instr.lookup, Sem.run_bind, run_underlying Tryf.underlying36, Result.andThen_ok, MapKept.run_getObj_map hM, check_key w t ht a n, Sem.run_pure]
  rw [run_findKey_eq w wide42, hf]
  simp

theorem look_out {w : World} {M t : Nat} {ks : List (Addr × Nat)} (ht : t = 43 ∨ t = 44) (h : Holds w M t ks) {a : Addr} {n : Nat} (ha : Plain w a) (hm : (a, n) ∉ ks) :
    (Instr.lookup 36 (.map (some M)) (keyV t a n) false).run Tryf.prog w = .ok (.bool false) w := by
  obtain ⟨es, c, hM, he, hp⟩ := h
  have hf := (find_key w t ht a n ha ks es.toList 0 he hp).2 hm
  simp only [Instr.lookup, Sem.run_bind, run_underlying Tryf.underlying36, Result.andThen_ok, MapKept.run_getObj_map hM, check_key w t ht a n, Sem.run_pure]
  rw [run_findKey_eq w wide42, hf]
  simp

theorem put_new {w : World} {M t : Nat} {ks : List (Addr × Nat)} (ht : t = 43 ∨ t = 44) (h : Holds w M t ks) {a : Addr} {n : Nat} (ha : Plain w a) (hm : (a, n) ∉ ks) :
    ∃ es c, w.heap[M]? = some (.map es c) ∧ es.toList.map (fun e => (e.key, e.val)) = ks.map (fun p => (keyV t p.1 p.2, .bool true)) ∧
    (Instr.mapUpdate 36 (.map (some M)) (keyV t a n) (.bool true)).run Tryf.prog w = .ok () { w with heap := w.heap.setIfInBounds M (.map (es.push { key := keyV t a n, val := .bool true, born := c }) (c + 1)) } := by
  obtain ⟨es, c, hM, he, hp⟩ := h
  refine ⟨es, c, hM, he, ?_⟩
  have hf := (find_key w t ht a n ha ks es.toList 0 he hp).2 hm
  simp only [Instr.mapUpdate, Sem.run_bind, run_underlying Tryf.underlying36, Result.andThen_ok, MapKept.run_getObj_map hM, check_key w t ht a n]
  rw [run_findKey_eq w wide42, hf]
  simp [MapKept.run_setObj_map _ hM]

end Go.Proofs.Qxb6613733aFmt
