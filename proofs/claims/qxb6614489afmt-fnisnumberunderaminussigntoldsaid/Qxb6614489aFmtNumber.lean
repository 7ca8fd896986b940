/-
  (*jsonDecoder).number: the walk, cut stage by stage.
-/
import Derived.Test.Qxb6614489aFmtFail
import Derived.Deep.DeepCutAuto
import Derived.Deep.CutBlock
namespace Go.Proofs.Qxb6614489aFmt
open Go.RowKit

/-- The decoder stands at a place from which F gives what the whole text gives. -/
structure Stage (F : List UInt8 → Option (List UInt8)) (R T cap : Nat) (l : List UInt8) (B : Nat) (w0 wx : World) : Prop where
  ex : ∃ i, i ≤ l.length ∧ sSigned l = F (l.drop i) ∧ Dec wx R T cap l i ∧ Below B w0 wx

/-- What number leaves. -/
structure NumPost (R T cap : Nat) (l : List UInt8) (B : Nat) (w0 : World) (e : Ending) (w' : World) : Prop where
  below : Below B w0 w'
  ex : (sSigned l = none ∧ ∃ p, e = .returned (.tuple #[.nilIface, .iface 39 (.pointer (some p))])) ∨ ∃ i v, i ≤ l.length ∧ sSigned l = some (l.drop i) ∧ Dec w' R T cap l i ∧ e = .returned (.tuple #[v, .nilIface])

theorem NumPost.fails {R T cap : Nat} {l : List UInt8} {B : Nat} {w0 w' : World} (h : sSigned l = none) (hb : Below B w0 w') (p : Addr) : NumPost R T cap l B w0 (.returned (.tuple #[.nilIface, .iface 39 (.pointer (some p))])) w' := ⟨hb, .inl ⟨h, p, rfl⟩⟩

def isAt (l : List UInt8) (i k : Nat) : Bool := decide (i < l.length) && decide ((l.getD i 0).toNat = k)
theorem isAt_true {l : List UInt8} {i k : Nat} (h : isAt l i k = true) : i < l.length ∧ (l.getD i 0).toNat = k := by
  unfold isAt at h
  rw [Bool.and_eq_true] at h
  exact ⟨of_decide_eq_true h.1, of_decide_eq_true h.2⟩
theorem isAt_false {l : List UInt8} {i k : Nat} (h : isAt l i k = false) : i < l.length → (l.getD i 0).toNat ≠ k := by
  intro h1 h2
  unfold isAt at h
  rw [decide_eq_true h1, decide_eq_true h2] at h
  cases h
theorem isAt_or {l : List UInt8} {i k m : Nat} (h : (isAt l i k || isAt l i m) = true) : i < l.length ∧ ((l.getD i 0).toNat = k ∨ (l.getD i 0).toNat = m) := by
  rw [Bool.or_eq_true] at h
  rcases h with h | h
  · exact ⟨(isAt_true h).1, .inl (isAt_true h).2⟩
  · exact ⟨(isAt_true h).1, .inr (isAt_true h).2⟩
theorem isAt_nor {l : List UInt8} {i k m : Nat} (h : (isAt l i k || isAt l i m) = false) : i < l.length → (l.getD i 0).toNat ≠ k ∧ (l.getD i 0).toNat ≠ m := by
  rw [Bool.or_eq_false_iff] at h
  exact fun hi => ⟨isAt_false h.1 hi, isAt_false h.2 hi⟩
theorem conv_back {w : World} {R T cap : Nat} {l : List UInt8} {i : Nat} (h : Dec w R T cap l i) (hi : i ≤ l.length) (n : Nat) :
    (convert 24 36 (.slice (some ⟨T, 0, none⟩) i cap)).run Tryf.prog (w.drewN n) = .ok (.string ⟨(l.take i).toArray⟩) (w.drewN n) := by
  have hl : (l.take i).length = i := by simp; omega
  have := run_convert_bytes_back (P := Tryf.prog) (w.drewN n) 24 36 5 ⟨T, 0, none⟩ cap (l.take i) Tryf.underlying24 Tryf.underlying5 Tryf.underlying36 (fun j hj => by
    have hj' : j < i := by omega
    have ha : (⟨T, 0, none⟩ : Addr).add j = ⟨T, j, none⟩ := by unfold Addr.add; split <;> simp_all
    rw [ha]
    have := h.txt j (by omega)
    show w.cell? _ = _
    rw [this]
    simp [List.getD, show j < l.length by omega])
  rw [hl] at this
  exact this

set_option maxRecDepth 100000 in
set_option maxHeartbeats 4000000 in
theorem number (R T cap : Nat) (l : List UInt8) (B : Nat) (w0 w : World) (hd : Dec w R T cap l 0) (hl : 0 < l.length) (hn : l.length ≤ 2097152) (hcap : l.length ≤ cap) (hB : Below B w0 w) (hB0 : B ≤ w0.heap.size) (hR : B ≤ R) :
    Calls Tryf.prog 8 #[.pointer (some ⟨R, 0, none⟩)] w (NumPost R T cap l B w0) := by
  have HD : Hid (Dec w R T cap l 0) := hd
  have HB : Hid (Below B w0 w) := hB
  obtain ⟨c0, c1, fz⟩ := hd.facts
  have ct := hd.txt 0 hl
  have hRl := hd.lt
  have HB0 : Hid (B ≤ w0.heap.size) := hB0
  have hTl : T < w.heap.size := World.block_lt_of_cell? w _ ct
  have HY : Hid ((l.getD 0 0).toNat = 45 → sSigned l = sNum (l.drop 1)) := minus_yes hl
  have HN : Hid ((l.getD 0 0).toNat ≠ 45 → sSigned l = sNum (l.drop 0)) := minus_no hl
  generalize l.getD 0 0 = x at ct HY HN
  clear hd hB hB0
  go_enter Tryf.func8, Tryf.ntmps8
  go_upto_region 2 with fail
  go_cut [19] (fun s19 wx => s19 = .bool (decide ((x.toNat : Int) = 45)) ∧ ∃ n, wx = w.drewN n)
  case first =>
    as_aux_lemma =>
      by_cases hx : (x.toNat : Int) = 45
      · have e1 : ((x.toNat : Int) == 45) = true := by simp [hx]
        go_quiet (fail)
        go_wp2_with fail
        go_meet
        exact ⟨by simp [hx], _, rfl⟩
      · have e1 : ((x.toNat : Int) == 45) = false := by simp [hx]
        go_quiet (fail)
        go_wp2_with fail
        go_meet
        exact ⟨by simp [hx], _, rfl⟩
  case rest =>
    obtain ⟨rfl, nd, rfl⟩ := hcut
    go_upto_if 19 with fail
    go_cut [] (fun wx => Stage sNum R T cap l B w0 wx)
    case first =>
      as_aux_lemma =>
        by_cases hx : (x.toNat : Int) = 45
        · have e1 : decide ((x.toNat : Int) = 45) = true := decide_eq_true hx
          go_wp2_with fail
          go_meet
          exact ⟨1, by omega, HY.out (by omega), (HD.out.kept (below_drewN _ _)).set 1, below_set (below_dn HB.out _) hR _ _⟩
        · have e1 : decide ((x.toNat : Int) = 45) = false := decide_eq_false hx
          go_wp2_with fail
          go_meet
          exact ⟨0, by omega, HN.out (by omega), HD.out.kept (below_drewN _ _), below_dn HB.out _⟩
    case rest =>
      obtain ⟨i, hi, hs, hdec, hbel⟩ := hcut.ex
      have HS : Hid (sSigned l = sNum (l.drop i)) := hs
      have HDD : Hid (Dec wc R T cap l i) := hdec
      have HBB : Hid (Below B w0 wc) := hbel
      clear hs hdec hbel hcut HY HN HD HB c0 c1 fz ct hRl hTl
      go_upto_block 0 with fail
      go_cut [] (fun wx => Stage sFE R T cap l B w0 wx)
      case first =>
        as_aux_lemma =>
          obtain ⟨c0, c1, fz⟩ := HDD.out.facts
          have hRl := HDD.out.lt
          by_cases hlt : i < l.length
          · have ct := HDD.out.txt i hlt
            have HZ : Hid ((l.getD i 0).toNat = 48 → sNum (l.drop i) = sFE (l.drop (i + 1))) := int_zero hlt
            have HOT : Hid ((l.getD i 0).toNat ≠ 48 → sNum (l.drop i) = if dEnd l i = i then none else sFE (l.drop (dEnd l i))) := fun h => int_other hi (fun _ => h)
            generalize l.getD i 0 = x at ct HZ HOT
            have xl : (0 : Int) ≤ (x.toNat : Int) := by omega
            by_cases hx : (x.toNat : Int) = 48
            · have e1 : ((x.toNat : Int) == 48) = true := by simp [hx]
              have HE : Hid (sSigned l = sFE (l.drop (i + 1))) := HS.out.trans (HZ.out (by omega))
              clear hx
              go_wp2_with fail
              go_quiet (fail)
              go_wp2_with fail
              go_meet
              exact ⟨i + 1, by omega, HE.out, (HDD.out.kept (below_drewN _ _)).inc, below_set (below_dn HBB.out _) hR _ _⟩
            · have e1 : ((x.toNat : Int) == 48) = false := by simp [hx]
              have HE : Hid (sSigned l = if dEnd l i = i then none else sFE (l.drop (dEnd l i))) := HS.out.trans (HOT.out (by omega))
              clear hx
              go_wp2_with fail
              go_quiet (fail)
              go_wp2_with fail
              refine (digits R T cap l (i) B w0 _ (HDD.out.kept (below_drewN _ _)) (by omega) hn (below_dn HBB.out _) hR).mono ?_
              rintro e w1 ⟨hr, hdec, hbel⟩
              subst hr
              have HD1 : Hid (Dec w1 R T cap l (dEnd l (i))) := hdec
              have HB1 : Hid (Below B w0 w1) := hbel
              obtain ⟨ge1, ge2⟩ := (dEnd_drop l (i) (by omega)).2
              clear hdec hbel
              by_cases hz0 : dEnd l (i) = i
              · have HF : Hid (sSigned l = none) := by show _ = _; rw [HE.out, if_pos hz0]
                have hb0 : (((dEnd l (i) : Nat) : Int) - (i : Int) == 0) = true := by simp; omega
                generalize dEnd l (i) = j at HD1 ge1 ge2 hb0
                clear hz0
                go_wp2_with fail
                refine (fail_any R T cap l j _ w1 HD1.out ge2 hn).mono ?_
                rintro e w2 ⟨⟨pp, hp⟩, hb2⟩
                subst hp
                have HB2 : Hid (Below B w0 w2) := HB1.out.trans (hb2.mono (Nat.le_trans HB0.out HB1.out.size))
                clear hb2
                go_wp2
                go_ret2
                exact NumPost.fails HF.out HB2.out _
              · have hb0 : (((dEnd l (i) : Nat) : Int) - (i : Int) == 0) = false := by simp; omega
                have HO : Hid (sSigned l = sFE (l.drop (dEnd l (i)))) := by show _ = _; rw [HE.out, if_neg hz0]
                generalize dEnd l (i) = j at HD1 ge1 ge2 hb0 HO
                clear hz0
                go_wp2_with fail
                go_meet
                exact ⟨j, ge2, HO.out, HD1.out, HB1.out⟩
          · have HE : Hid (sSigned l = if dEnd l i = i then none else sFE (l.drop (dEnd l i))) := HS.out.trans (int_other hi (fun h => absurd h hlt))
            go_wp2_with fail
            go_quiet (fail)
            go_wp2_with fail
            refine (digits R T cap l (i) B w0 _ (HDD.out.kept (below_drewN _ _)) (by omega) hn (below_dn HBB.out _) hR).mono ?_
            rintro e w1 ⟨hr, hdec, hbel⟩
            subst hr
            have HD1 : Hid (Dec w1 R T cap l (dEnd l (i))) := hdec
            have HB1 : Hid (Below B w0 w1) := hbel
            obtain ⟨ge1, ge2⟩ := (dEnd_drop l (i) (by omega)).2
            clear hdec hbel
            by_cases hz0 : dEnd l (i) = i
            · have HF : Hid (sSigned l = none) := by show _ = _; rw [HE.out, if_pos hz0]
              have hb0 : (((dEnd l (i) : Nat) : Int) - (i : Int) == 0) = true := by simp; omega
              generalize dEnd l (i) = j at HD1 ge1 ge2 hb0
              clear hz0
              go_wp2_with fail
              refine (fail_any R T cap l j _ w1 HD1.out ge2 hn).mono ?_
              rintro e w2 ⟨⟨pp, hp⟩, hb2⟩
              subst hp
              have HB2 : Hid (Below B w0 w2) := HB1.out.trans (hb2.mono (Nat.le_trans HB0.out HB1.out.size))
              clear hb2
              go_wp2
              go_ret2
              exact NumPost.fails HF.out HB2.out _
            · have hb0 : (((dEnd l (i) : Nat) : Int) - (i : Int) == 0) = false := by simp; omega
              have HO : Hid (sSigned l = sFE (l.drop (dEnd l (i)))) := by show _ = _; rw [HE.out, if_neg hz0]
              generalize dEnd l (i) = j at HD1 ge1 ge2 hb0 HO
              clear hz0
              go_wp2_with fail
              go_meet
              exact ⟨j, ge2, HO.out, HD1.out, HB1.out⟩
      case rest =>
        clear HS HDD HBB hi
        obtain ⟨i, hi, hs, hdec, hbel⟩ := hcut.ex
        obtain ⟨wA, hwA⟩ : ∃ x, x = wc := ⟨_, rfl⟩
        rw [← hwA] at hdec hbel ⊢
        have HS : Hid (sSigned l = sFE (l.drop i)) := hs
        have HDD : Hid (Dec wA R T cap l i) := hdec
        have HBB : Hid (Below B w0 wA) := hbel
        obtain ⟨c0, c1, fz⟩ := HDD.out.facts
        have hRl := HDD.out.lt
        clear hs hdec hbel hcut hwA
        go_upto_region 8 with fail
        go_cut [86] (fun s86 wx => ∃ (b : Bool) (n : Nat), s86 = .bool b ∧ b = isAt l i 46 ∧ wx = wA.drewN n)
        case first =>
          as_aux_lemma =>
            by_cases hlt : i < l.length
            · have ct := HDD.out.txt i hlt
              have HB8 : Hid (isAt l i 46 = decide ((l.getD i 0).toNat = 46)) := by show _ = _; simp [isAt, hlt]
              generalize l.getD i 0 = x at ct HB8
              by_cases hx : (x.toNat : Int) = 46
              · have e1 : ((x.toNat : Int) == 46) = true := by simp [hx]
                have HB9 : Hid (isAt l i 46 = true) := by show _ = _; rw [HB8.out]; simp; omega
                clear hx
                go_quiet (fail)
                go_wp2_with fail
                go_meet
                exact ⟨_, _, rfl, HB9.out.symm, rfl⟩
              · have e1 : ((x.toNat : Int) == 46) = false := by simp [hx]
                have HB9 : Hid (isAt l i 46 = false) := by show _ = _; rw [HB8.out]; simp; omega
                clear hx
                go_quiet (fail)
                go_wp2_with fail
                go_meet
                exact ⟨_, _, rfl, HB9.out.symm, rfl⟩
            · have HB9 : Hid (isAt l i 46 = false) := by show _ = _; simp [isAt, hlt]
              go_quiet (fail)
              go_wp2_with fail
              go_meet
              exact ⟨_, _, rfl, HB9.out.symm, rfl⟩
        case rest =>
          obtain ⟨b8, nd, rfl, hb8, rfl⟩ := hcut
          have HQ : Hid (b8 = isAt l i 46) := hb8
          clear hb8
          go_upto_if 86 with fail
          go_cut [] (fun wx => Stage sExp R T cap l B w0 wx)
          case first =>
            as_aux_lemma =>
              rcases Bool.eq_false_or_eq_true b8 with hb8 | hb8
              · subst hb8
                obtain ⟨hlt, hc⟩ := isAt_true HQ.out.symm
                have HE : Hid (sSigned l = if dEnd l (i + 1) = i + 1 then none else sExp (l.drop (dEnd l (i + 1)))) := HS.out.trans (frac_dot hlt hc)
                clear hc
                go_wp2_with fail
                refine (digits R T cap l (i + 1) B w0 _ ((HDD.out.kept (below_drewN _ _)).inc) (by omega) hn (below_set (below_dn HBB.out _) hR _ _) hR).mono ?_
                rintro e w1 ⟨hr, hdec, hbel⟩
                subst hr
                have HD1 : Hid (Dec w1 R T cap l (dEnd l (i + 1))) := hdec
                have HB1 : Hid (Below B w0 w1) := hbel
                obtain ⟨ge1, ge2⟩ := (dEnd_drop l (i + 1) (by omega)).2
                clear hdec hbel
                by_cases hz0 : dEnd l (i + 1) = i + 1
                · have HF : Hid (sSigned l = none) := by show _ = _; rw [HE.out, if_pos hz0]
                  have hb0 : (((dEnd l (i + 1) : Nat) : Int) - ((i : Int) + 1) == 0) = true := by simp; omega
                  generalize dEnd l (i + 1) = j at HD1 ge1 ge2 hb0
                  clear hz0
                  go_wp2_with fail
                  refine (fail_any R T cap l j _ w1 HD1.out ge2 hn).mono ?_
                  rintro e w2 ⟨⟨pp, hp⟩, hb2⟩
                  subst hp
                  have HB2 : Hid (Below B w0 w2) := HB1.out.trans (hb2.mono (Nat.le_trans HB0.out HB1.out.size))
                  clear hb2
                  go_wp2
                  go_ret2
                  exact NumPost.fails HF.out HB2.out _
                · have hb0 : (((dEnd l (i + 1) : Nat) : Int) - ((i : Int) + 1) == 0) = false := by simp; omega
                  have HO : Hid (sSigned l = sExp (l.drop (dEnd l (i + 1)))) := by show _ = _; rw [HE.out, if_neg hz0]
                  generalize dEnd l (i + 1) = j at HD1 ge1 ge2 hb0 HO
                  clear hz0
                  go_wp2_with fail
                  go_meet
                  exact ⟨j, ge2, HO.out, HD1.out, HB1.out⟩
              · subst hb8
                have HE : Hid (sSigned l = sExp (l.drop i)) := HS.out.trans (frac_none (isAt_false HQ.out.symm))
                go_wp2_with fail
                go_meet
                exact ⟨i, hi, HE.out, HDD.out.kept (below_drewN _ _), below_dn HBB.out _⟩
          case rest =>
            clear HS HDD HBB hi c0 c1 fz hRl
            obtain ⟨i, hi, hs, hdec, hbel⟩ := hcut.ex
            obtain ⟨wA, hwA⟩ : ∃ x, x = wc := ⟨_, rfl⟩
            rw [← hwA] at hdec hbel ⊢
            have HS : Hid (sSigned l = sExp (l.drop i)) := hs
            have HDD : Hid (Dec wA R T cap l i) := hdec
            have HBB : Hid (Below B w0 wA) := hbel
            obtain ⟨c0, c1, fz⟩ := HDD.out.facts
            have hRl := HDD.out.lt
            clear hs hdec hbel hcut hwA
            go_upto_region 12 with fail
            go_cut [134] (fun s wx => ∃ (b : Bool) (n : Nat), s = .bool b ∧ b = (isAt l i 101 || isAt l i 69) ∧ wx = wA.drewN n)
            case first =>
              as_aux_lemma =>
                by_cases hlt : i < l.length
                · have ct := HDD.out.txt i hlt
                  have HB8 : Hid ((isAt l i 101 || isAt l i 69) = (decide ((l.getD i 0).toNat = 101) || decide ((l.getD i 0).toNat = 69))) := by show _ = _; simp [isAt, hlt]
                  generalize l.getD i 0 = x at ct HB8
                  by_cases hx : (x.toNat : Int) = 101
                  · have e1 : ((x.toNat : Int) == 101) = true := by simp [hx]
                    have HB9 : Hid ((isAt l i 101 || isAt l i 69) = true) := by show _ = _; rw [HB8.out]; simp; omega
                    clear hx
                    go_quiet (fail)
                    go_wp2_with fail
                    go_meet
                    exact ⟨_, _, rfl, HB9.out.symm, rfl⟩
                  · have e1 : ((x.toNat : Int) == 101) = false := by simp [hx]
                    by_cases hy : (x.toNat : Int) = 69
                    · have e2 : ((x.toNat : Int) == 69) = true := by simp [hy]
                      have HB9 : Hid ((isAt l i 101 || isAt l i 69) = true) := by show _ = _; rw [HB8.out]; simp; omega
                      clear hx hy
                      go_quiet (fail)
                      go_wp2_with fail
                      go_meet
                      exact ⟨_, _, rfl, HB9.out.symm, rfl⟩
                    · have e2 : ((x.toNat : Int) == 69) = false := by simp [hy]
                      have HB9 : Hid ((isAt l i 101 || isAt l i 69) = false) := by show _ = _; rw [HB8.out]; simp; omega
                      clear hx hy
                      go_quiet (fail)
                      go_wp2_with fail
                      go_meet
                      exact ⟨_, _, rfl, HB9.out.symm, rfl⟩
                · have HB9 : Hid ((isAt l i 101 || isAt l i 69) = false) := by show _ = _; simp [isAt, hlt]
                  go_quiet (fail)
                  go_wp2_with fail
                  go_meet
                  exact ⟨_, _, rfl, HB9.out.symm, rfl⟩
            case rest =>
              obtain ⟨b8, nd, rfl, hb8, rfl⟩ := hcut
              have HQ : Hid (b8 = (isAt l i 101 || isAt l i 69)) := hb8
              clear hb8
              go_upto_if 134 with fail
              go_cut [] (fun wx => Stage some R T cap l B w0 wx)
              case first =>
                as_aux_lemma =>
                  rcases Bool.eq_false_or_eq_true b8 with hb8 | hb8
                  · subst hb8
                    obtain ⟨hlt, hc⟩ := isAt_or HQ.out.symm
                    have HE0 : Hid (sSigned l = sDig (skipSign (l.drop (i + 1)))) := HS.out.trans (exp_e hlt hc)
                    clear hc
                    go_wp2_with fail
                    have HD5 : Dec ((wA.drewN nd).setCell ⟨R, 1, none⟩ (.int .i64 ((i : Int) + 1))) R T cap l (i + 1) := (HDD.out.kept (below_drewN _ _)).inc
                    have HB5 : Below B w0 ((wA.drewN nd).setCell ⟨R, 1, none⟩ (.int .i64 ((i : Int) + 1))) := below_set (below_dn HBB.out _) hR _ _
                    have hk : i + 1 ≤ l.length := hlt
                    generalize ((wA.drewN nd).setCell ⟨R, 1, none⟩ (.int .i64 ((i : Int) + 1))) = wB at HD5 HB5 ⊢
                    generalize i + 1 = k at HD5 hk HE0
                    have HD6 : Hid (Dec wB R T cap l k) := HD5
                    have HB6 : Hid (Below B w0 wB) := HB5
                    clear c0 c1 fz hRl HD5 HB5 HDD HBB HS hlt hi
                    obtain ⟨c0, c1, fz⟩ := HD6.out.facts
                    have hRl := HD6.out.lt
                    by_cases hlt2 : k < l.length
                    · have ct := HD6.out.txt k hlt2
                      have HY : Hid ((l.getD k 0).toNat = 43 ∨ (l.getD k 0).toNat = 45 → skipSign (l.drop k) = l.drop (k + 1)) := sign_yes hlt2
                      have HN : Hid ((l.getD k 0).toNat ≠ 43 ∧ (l.getD k 0).toNat ≠ 45 → skipSign (l.drop k) = l.drop k) := fun h => sign_no (fun _ => h)
                      generalize l.getD k 0 = x at ct HY HN
                      by_cases hx : (x.toNat : Int) = 43
                      · have e1 : ((x.toNat : Int) == 43) = true := by simp [hx]
                        have HE : Hid (sSigned l = if dEnd l (k + 1) = k + 1 then none else some (l.drop (dEnd l (k + 1)))) := by show _ = _; rw [HE0.out, HY.out (.inl (by omega)), sDig_at (by omega)]
                        clear hx
                        go_quiet (fail)
                        go_wp2_with fail
                        refine (digits R T cap l (k + 1) B w0 _ ((HD6.out.kept (below_drewN _ _)).inc) (by omega) hn (below_set (below_dn HB6.out _) hR _ _) hR).mono ?_
                        rintro e w1 ⟨hr, hdec, hbel⟩
                        subst hr
                        have HD1 : Hid (Dec w1 R T cap l (dEnd l (k + 1))) := hdec
                        have HB1 : Hid (Below B w0 w1) := hbel
                        obtain ⟨ge1, ge2⟩ := (dEnd_drop l (k + 1) (by omega)).2
                        clear hdec hbel
                        by_cases hz0 : dEnd l (k + 1) = k + 1
                        · have HF : Hid (sSigned l = none) := by show _ = _; rw [HE.out, if_pos hz0]
                          have hb0 : (((dEnd l (k + 1) : Nat) : Int) - ((k : Int) + 1) == 0) = true := by simp; omega
                          generalize dEnd l (k + 1) = j at HD1 ge1 ge2 hb0
                          clear hz0
                          go_wp2_with fail
                          refine (fail_any R T cap l j _ w1 HD1.out ge2 hn).mono ?_
                          rintro e w2 ⟨⟨pp, hp⟩, hb2⟩
                          subst hp
                          have HB2 : Hid (Below B w0 w2) := HB1.out.trans (hb2.mono (Nat.le_trans HB0.out HB1.out.size))
                          clear hb2
                          go_wp2
                          go_ret2
                          exact NumPost.fails HF.out HB2.out _
                        · have hb0 : (((dEnd l (k + 1) : Nat) : Int) - ((k : Int) + 1) == 0) = false := by simp; omega
                          have HO : Hid (sSigned l = some (l.drop (dEnd l (k + 1)))) := by show _ = _; rw [HE.out, if_neg hz0]
                          generalize dEnd l (k + 1) = j at HD1 ge1 ge2 hb0 HO
                          clear hz0
                          go_wp2_with fail
                          go_meet
                          exact ⟨j, ge2, HO.out, HD1.out, HB1.out⟩
                      · have e1 : ((x.toNat : Int) == 43) = false := by simp [hx]
                        by_cases hy : (x.toNat : Int) = 45
                        · have e2 : ((x.toNat : Int) == 45) = true := by simp [hy]
                          have HE : Hid (sSigned l = if dEnd l (k + 1) = k + 1 then none else some (l.drop (dEnd l (k + 1)))) := by show _ = _; rw [HE0.out, HY.out (.inr (by omega)), sDig_at (by omega)]
                          clear hx hy
                          go_quiet (fail)
                          go_wp2_with fail
                          refine (digits R T cap l (k + 1) B w0 _ ((HD6.out.kept (below_drewN _ _)).inc) (by omega) hn (below_set (below_dn HB6.out _) hR _ _) hR).mono ?_
                          rintro e w1 ⟨hr, hdec, hbel⟩
                          subst hr
                          have HD1 : Hid (Dec w1 R T cap l (dEnd l (k + 1))) := hdec
                          have HB1 : Hid (Below B w0 w1) := hbel
                          obtain ⟨ge1, ge2⟩ := (dEnd_drop l (k + 1) (by omega)).2
                          clear hdec hbel
                          by_cases hz0 : dEnd l (k + 1) = k + 1
                          · have HF : Hid (sSigned l = none) := by show _ = _; rw [HE.out, if_pos hz0]
                            have hb0 : (((dEnd l (k + 1) : Nat) : Int) - ((k : Int) + 1) == 0) = true := by simp; omega
                            generalize dEnd l (k + 1) = j at HD1 ge1 ge2 hb0
                            clear hz0
                            go_wp2_with fail
                            refine (fail_any R T cap l j _ w1 HD1.out ge2 hn).mono ?_
                            rintro e w2 ⟨⟨pp, hp⟩, hb2⟩
                            subst hp
                            have HB2 : Hid (Below B w0 w2) := HB1.out.trans (hb2.mono (Nat.le_trans HB0.out HB1.out.size))
                            clear hb2
                            go_wp2
                            go_ret2
                            exact NumPost.fails HF.out HB2.out _
                          · have hb0 : (((dEnd l (k + 1) : Nat) : Int) - ((k : Int) + 1) == 0) = false := by simp; omega
                            have HO : Hid (sSigned l = some (l.drop (dEnd l (k + 1)))) := by show _ = _; rw [HE.out, if_neg hz0]
                            generalize dEnd l (k + 1) = j at HD1 ge1 ge2 hb0 HO
                            clear hz0
                            go_wp2_with fail
                            go_meet
                            exact ⟨j, ge2, HO.out, HD1.out, HB1.out⟩
                        · have e2 : ((x.toNat : Int) == 45) = false := by simp [hy]
                          have HE : Hid (sSigned l = if dEnd l k = k then none else some (l.drop (dEnd l k))) := by show _ = _; rw [HE0.out, HN.out ⟨by omega, by omega⟩, sDig_at (by omega)]
                          clear hx hy
                          go_quiet (fail)
                          go_wp2_with fail
                          refine (digits R T cap l (k) B w0 _ (HD6.out.kept (below_drewN _ _)) (by omega) hn (below_dn HB6.out _) hR).mono ?_
                          rintro e w1 ⟨hr, hdec, hbel⟩
                          subst hr
                          have HD1 : Hid (Dec w1 R T cap l (dEnd l (k))) := hdec
                          have HB1 : Hid (Below B w0 w1) := hbel
                          obtain ⟨ge1, ge2⟩ := (dEnd_drop l (k) (by omega)).2
                          clear hdec hbel
                          by_cases hz0 : dEnd l (k) = k
                          · have HF : Hid (sSigned l = none) := by show _ = _; rw [HE.out, if_pos hz0]
                            have hb0 : (((dEnd l (k) : Nat) : Int) - (k : Int) == 0) = true := by simp; omega
                            generalize dEnd l (k) = j at HD1 ge1 ge2 hb0
                            clear hz0
                            go_wp2_with fail
                            refine (fail_any R T cap l j _ w1 HD1.out ge2 hn).mono ?_
                            rintro e w2 ⟨⟨pp, hp⟩, hb2⟩
                            subst hp
                            have HB2 : Hid (Below B w0 w2) := HB1.out.trans (hb2.mono (Nat.le_trans HB0.out HB1.out.size))
                            clear hb2
                            go_wp2
                            go_ret2
                            exact NumPost.fails HF.out HB2.out _
                          · have hb0 : (((dEnd l (k) : Nat) : Int) - (k : Int) == 0) = false := by simp; omega
                            have HO : Hid (sSigned l = some (l.drop (dEnd l (k)))) := by show _ = _; rw [HE.out, if_neg hz0]
                            generalize dEnd l (k) = j at HD1 ge1 ge2 hb0 HO
                            clear hz0
                            go_wp2_with fail
                            go_meet
                            exact ⟨j, ge2, HO.out, HD1.out, HB1.out⟩
                    · have HE : Hid (sSigned l = if dEnd l k = k then none else some (l.drop (dEnd l k))) := by show _ = _; rw [HE0.out, sign_no (fun h => absurd h hlt2), sDig_at (by omega)]
                      go_quiet (fail)
                      go_wp2_with fail
                      refine (digits R T cap l (k) B w0 _ (HD6.out.kept (below_drewN _ _)) (by omega) hn (below_dn HB6.out _) hR).mono ?_
                      rintro e w1 ⟨hr, hdec, hbel⟩
                      subst hr
                      have HD1 : Hid (Dec w1 R T cap l (dEnd l (k))) := hdec
                      have HB1 : Hid (Below B w0 w1) := hbel
                      obtain ⟨ge1, ge2⟩ := (dEnd_drop l (k) (by omega)).2
                      clear hdec hbel
                      by_cases hz0 : dEnd l (k) = k
                      · have HF : Hid (sSigned l = none) := by show _ = _; rw [HE.out, if_pos hz0]
                        have hb0 : (((dEnd l (k) : Nat) : Int) - (k : Int) == 0) = true := by simp; omega
                        generalize dEnd l (k) = j at HD1 ge1 ge2 hb0
                        clear hz0
                        go_wp2_with fail
                        refine (fail_any R T cap l j _ w1 HD1.out ge2 hn).mono ?_
                        rintro e w2 ⟨⟨pp, hp⟩, hb2⟩
                        subst hp
                        have HB2 : Hid (Below B w0 w2) := HB1.out.trans (hb2.mono (Nat.le_trans HB0.out HB1.out.size))
                        clear hb2
                        go_wp2
                        go_ret2
                        exact NumPost.fails HF.out HB2.out _
                      · have hb0 : (((dEnd l (k) : Nat) : Int) - (k : Int) == 0) = false := by simp; omega
                        have HO : Hid (sSigned l = some (l.drop (dEnd l (k)))) := by show _ = _; rw [HE.out, if_neg hz0]
                        generalize dEnd l (k) = j at HD1 ge1 ge2 hb0 HO
                        clear hz0
                        go_wp2_with fail
                        go_meet
                        exact ⟨j, ge2, HO.out, HD1.out, HB1.out⟩
                  · subst hb8
                    have HE : Hid (sSigned l = some (l.drop i)) := HS.out.trans (exp_none (isAt_nor HQ.out.symm))
                    go_wp2_with fail
                    go_meet
                    exact ⟨i, hi, HE.out, HDD.out.kept (below_drewN _ _), below_dn HBB.out _⟩
              case rest =>
                clear HS HDD HBB hi c0 c1 fz hRl
                obtain ⟨i, hi, hs, hdec, hbel⟩ := hcut.ex
                obtain ⟨wA, hwA⟩ : ∃ x, x = wc := ⟨_, rfl⟩
                rw [← hwA] at hdec hbel ⊢
                have HS : Hid (sSigned l = some (l.drop i)) := hs
                have HDD : Hid (Dec wA R T cap l i) := hdec
                have HBB : Hid (Below B w0 wA) := hbel
                obtain ⟨c0, c1, fz⟩ := HDD.out.facts
                have hcv : ∀ n, (convert 24 36 (.slice (some ⟨T, 0, none⟩) i cap)).run Tryf.prog (wA.drewN n) = .ok (.string ⟨(l.take i).toArray⟩) (wA.drewN n) := fun n => conv_back HDD.out hi n
                clear hs hdec hbel hcut hwA
                go_upto_region 18 with fail
                go_quiet (fail)
                go_wp2
                go_ret2
                exact ⟨below_dn HBB.out _, .inr ⟨i, _, hi, HS.out, HDD.out.kept (below_drewN _ _), rfl⟩⟩
end Go.Proofs.Qxb6614489aFmt
