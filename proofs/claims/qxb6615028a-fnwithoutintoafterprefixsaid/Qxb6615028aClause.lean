/-
  The contract of zzClause: the model's scan and automaton.
-/
import Derived.Test.Qxb6615028aMem
import Derived.Deep.DeepCutAuto
import Derived.Deep.CutBlock
namespace Go.Proofs.Qxb6615028a
open Go.ChangeShapes Go.WideShapes Go.ChangeAt Go.RowKit
set_option linter.unusedVariables false

def cStart (ts : List Tk) : Int := match fsF ts 0 0 with
  | none => -1
  | some s => s
def cEnd (ts : List Tk) : Int := match fsF ts 0 0 with
  | none => -1
  | some s => clauseEnd ts s

def ClausePost (ts : List Tk) (w : World) (e : Ending) (w' : World) : Prop := e = .returned (.tuple #[.int .i64 (cStart ts), .int .i64 (cEnd ts)]) ∧ Below w.heap.size w w'
theorem ClausePost.none {ts : List Tk} {w w' : World} (h : fsF ts 0 0 = none) (hb : Below w.heap.size w w') : ClausePost ts w (.returned (.tuple #[.int .i64 (-1), .int .i64 (-1)])) w' := ⟨by simp [cStart, cEnd, h], hb⟩
theorem ClausePost.some {ts : List Tk} {w w' : World} {s e : Nat} (h : fsF ts 0 0 = some s) (he : clauseEnd ts s = e) (hb : Below w.heap.size w w') : ClausePost ts w (.returned (.tuple #[.int .i64 s, .int .i64 e])) w' := ⟨by simp [cStart, cEnd, h, he], hb⟩

/-- What holds behind the first loop. -/
def CutA (ts : List Tk) (w : World) (s : Value) (w1 : World) : Prop := ((fsF ts 0 0 = none ∧ s = .int .i64 (-1)) ∨ ∃ k : Nat, fsF ts 0 0 = some k ∧ s = .int .i64 k) ∧ Below w.heap.size w w1
theorem CutA.none {ts : List Tk} {w w1 : World} (h : fsF ts 0 0 = none) (hb : Below w.heap.size w w1) : CutA ts w (.int .i64 (-1)) w1 := ⟨.inl ⟨h, rfl⟩, hb⟩
theorem CutA.some {ts : List Tk} {w w1 : World} {k : Nat} (h : fsF ts 0 0 = some k) (hb : Below w.heap.size w w1) : CutA ts w (.int .i64 k) w1 := ⟨.inr ⟨k, h, rfl⟩, hb⟩

/-- What the test for STRICT says. -/
def CutS (ts : List Tk) (w : World) (k : Nat) (v : Value) (w1 : World) : Prop := (∃ bs : Bool, v = .bool bs ∧ afterStrict ts (k + 1) = k + 1 + (if bs = true then 1 else 0)) ∧ Below w.heap.size w w1

/-- What holds behind the test for STRICT: j is where the names may start. -/
def CutB (ts : List Tk) (w : World) (k : Nat) (j : Value) (w1 : World) : Prop := j = .int .i64 (afterStrict ts (k + 1) : Nat) ∧ Below w.heap.size w w1

/-- The second loop's relation. -/
def RelB (ts : List Tk) (w : World) (n k : Nat) (j st : Value) (wr : World) : Prop := ∃ jj s : Nat, jj ≤ n ∧ s ≤ 2 ∧ j = .int .i64 jj ∧ st = .int .i64 s ∧ autF ts s jj = clauseEnd ts k ∧ Below w.heap.size w wr

theorem strict_yes {ts : List Tk} {j : Nat} {t : Tk} (h : ts[j]? = some t) (hs : isW t cStrict = true) : afterStrict ts j = j + 1 := by simp [afterStrict, h, hs]
theorem strict_no {ts : List Tk} {j : Nat} {t : Tk} (h : ts[j]? = some t) (hs : isW t cStrict = false) : afterStrict ts j = j := by simp [afterStrict, h, hs]
theorem strict_end {ts : List Tk} {j : Nat} (h : ts.length ≤ j) : afterStrict ts j = j := by simp [afterStrict, List.getElem?_eq_none h]

set_option maxRecDepth 100000 in
set_option maxHeartbeats 2000000 in
theorem clause_any (ao : Option Addr) (n c : Nat) (ts : List Tk) (w : World) (hs : TokSlice w ao n ts) (hn : n ≤ 1048576) :
    Calls Try.prog 8 #[.slice ao n c] w (ClausePost ts w) := by
  go_enter Try.func8, Try.ntmps8
  go_upto_block 0 with fail
  go_cut [4] (fun s w1 => CutA ts w s w1)
  case first =>
    go_wp2_with fail
    go_loopw [4, 5, 6] (fun s d i wr => ∃ k dd : Nat, k ≤ n ∧ s = .int .i64 (-1) ∧ d = .int .i64 dd ∧ i = .int .i64 k ∧ dd ≤ k ∧ fsF ts dd k = fsF ts 0 0 ∧ Below w.heap.size w wr) (fun _ _ i _ => n - (intOf i).toNat)
    case atStart => exact ⟨0, 0, Nat.zero_le _, rfl, rfl, rfl, Nat.le_refl _, rfl, Below.refl _ _⟩
    case round =>
      obtain ⟨k, d, hk, rfl, rfl, rfl, hdk, hfs, hbr⟩ := hrel
      by_cases hlt : k < n
      · obtain ⟨b, off, rfl, hr0⟩ := hs.row (by omega)
        obtain ⟨t, ht⟩ := getTk hs.len hlt
        have hr := hr0.below hbr hr0.lt
        have h0 := hr.c0 k t ht
        have h1 := hr.c1 k t ht
        have h2 := hr.c2 k t ht
        have hbw : b < wr.heap.size := hr.lt
        obtain ⟨bo, hbo⟩ : ∃ bo, opener t = bo := ⟨_, rfl⟩
        obtain ⟨bc, hbc⟩ : ∃ bc, closer t = bc := ⟨_, rfl⟩
        obtain ⟨bi, hbi⟩ : ∃ bi, isW t cInto = bi := ⟨_, rfl⟩
        have Ho : Hid (opener t = bo) := hbo
        have Hc : Hid (closer t = bc) := hbc
        have Hi : Hid (isW t cInto = bi) := hbi
        have Hfs : Hid (fsF ts d k = fsF ts 0 0) := hfs
        have Ht : Hid (ts[k]? = some t) := ht
        clear hfs ht hbo hbc hbi
        have hi : (k : Int) < (n : Int) := by omega
        by_cases hd : d = 0
        · subst hd
          go_wp2_with fail
          refine (isWord_is t _ _ bi _ toLInto Hi.out).mono ?_
          rintro e wa ⟨rfl, ha⟩
          have hra := hr.below ha hr.lt
          have hBa : Below w.heap.size w wa := hbr.trans (ha.mono hbr.size)
          clear h0 h1 h2
          cases bi
          · have Hno : Hid ((0 == 0 && isW t cInto && !afterVerb ts k) = false) := by simp [Hid, Hi.out]
            obtain ⟨wx, rfl, hx, hrx⟩ : ∃ wx, wa = wx ∧ Below w.heap.size w wx ∧ TokRow wx b off ts := ⟨wa, rfl, hBa, hra⟩
            have h0 := hrx.c0 k t Ht.out
            have h1 := hrx.c1 k t Ht.out
            have h2 := hrx.c2 k t Ht.out
            go_wp2_with fail
            refine (opener_is t bo _ Ho.out).mono ?_
            rintro e wy ⟨rfl, hy⟩
            have hry := hrx.below hy hrx.lt
            have hB : Below w.heap.size w wy := hx.trans (hy.mono hx.size)
            cases bo
            · go_wp2_with fail
              go_roundw
              case rel => exact ⟨k + 1, 0, by omega, rfl, rfl, by go_num, by omega, by rw [← Hfs.out]; exact (fsF_other Ht.out Hno.out Ho.out (by simp)).symm, hB⟩
              case measure => simp [intOf]; omega
            · go_wp2_with fail
              go_roundw
              case rel => exact ⟨k + 1, 1, by omega, rfl, by go_num, by go_num, by omega, by rw [← Hfs.out]; exact (fsF_open Ht.out Hno.out Ho.out).symm, hB⟩
              case measure => simp [intOf]; omega
          · cases k with
            | zero =>
              have Hhit : Hid (fsF ts 0 0 = some 0) := fsF_hit Ht.out Hi.out rfl
              go_wp2_with fail
              go_meet
              case rel => exact CutA.some Hhit.out hBa
            | succ k =>
              obtain ⟨tp, htp⟩ := getTk hs.len (show k < n by omega)
              have Htp : Hid (ts[k]? = some tp) := htp
              have g0 := hra.c0 k tp htp
              have g1 := hra.c1 k tp htp
              have g2 := hra.c2 k tp htp
              obtain ⟨b1, hb1⟩ : ∃ b1, isW tp cInsert = b1 := ⟨_, rfl⟩
              obtain ⟨b2, hb2⟩ : ∃ b2, isW tp cMerge = b2 := ⟨_, rfl⟩
              have H1 : Hid (isW tp cInsert = b1) := hb1
              have H2 : Hid (isW tp cMerge = b2) := hb2
              have HV : Hid (afterVerb ts (k + 1) = (b1 || b2)) := by simp [Hid, afterVerb, htp, verb, hb1, hb2]
              clear htp hb1 hb2
              go_wp2_with fail
              refine (isWord_is tp _ _ b1 _ toLInsert H1.out).mono ?_
              rintro e wb ⟨rfl, hb⟩
              have hrb := hra.below hb hra.lt
              have hBb : Below w.heap.size w wb := hBa.trans (hb.mono hBa.size)
              clear g0 g1 g2
              cases b1
              · have g0 := hrb.c0 k tp Htp.out
                have g1 := hrb.c1 k tp Htp.out
                have g2 := hrb.c2 k tp Htp.out
                go_wp2_with fail
                refine (isWord_is tp _ _ b2 _ toLMerge H2.out).mono ?_
                rintro e wx ⟨rfl, hc⟩
                have hrx := hrb.below hc hrb.lt
                have hx : Below w.heap.size w wx := hBb.trans (hc.mono hBb.size)
                clear g0 g1 g2
                cases b2
                · have Hhit : Hid (fsF ts 0 0 = some (k + 1)) := by unfold Hid; rw [← Hfs.out]; exact fsF_hit Ht.out Hi.out HV.out
                  go_wp2_with fail
                  go_meet
                  case rel => exact CutA.some Hhit.out hx
                · have Hno : Hid ((0 == 0 && isW t cInto && !afterVerb ts (k + 1)) = false) := by simp [Hid, HV.out]
                  have h0 := hrx.c0 (k + 1) t Ht.out
                  have h1 := hrx.c1 (k + 1) t Ht.out
                  have h2 := hrx.c2 (k + 1) t Ht.out
                  go_wp2_with fail
                  refine (opener_is t bo _ Ho.out).mono ?_
                  rintro e wy ⟨rfl, hy⟩
                  have hry := hrx.below hy hrx.lt
                  have hB : Below w.heap.size w wy := hx.trans (hy.mono hx.size)
                  cases bo
                  · go_wp2_with fail
                    go_roundw
                    case rel => exact ⟨(k + 1) + 1, 0, by omega, rfl, rfl, by go_num, by omega, by rw [← Hfs.out]; exact (fsF_other Ht.out Hno.out Ho.out (by simp)).symm, hB⟩
                    case measure => simp [intOf]; omega
                  · go_wp2_with fail
                    go_roundw
                    case rel => exact ⟨(k + 1) + 1, 1, by omega, rfl, by go_num, by go_num, by omega, by rw [← Hfs.out]; exact (fsF_open Ht.out Hno.out Ho.out).symm, hB⟩
                    case measure => simp [intOf]; omega
              · obtain ⟨wx, rfl, hx, hrx⟩ : ∃ wx, wb = wx ∧ Below w.heap.size w wx ∧ TokRow wx b off ts := ⟨wb, rfl, hBb, hrb⟩
                have Hno : Hid ((0 == 0 && isW t cInto && !afterVerb ts (k + 1)) = false) := by simp [Hid, HV.out]
                have h0 := hrx.c0 (k + 1) t Ht.out
                have h1 := hrx.c1 (k + 1) t Ht.out
                have h2 := hrx.c2 (k + 1) t Ht.out
                go_wp2_with fail
                refine (opener_is t bo _ Ho.out).mono ?_
                rintro e wy ⟨rfl, hy⟩
                have hry := hrx.below hy hrx.lt
                have hB : Below w.heap.size w wy := hx.trans (hy.mono hx.size)
                cases bo
                · go_wp2_with fail
                  go_roundw
                  case rel => exact ⟨(k + 1) + 1, 0, by omega, rfl, rfl, by go_num, by omega, by rw [← Hfs.out]; exact (fsF_other Ht.out Hno.out Ho.out (by simp)).symm, hB⟩
                  case measure => simp [intOf]; omega
                · go_wp2_with fail
                  go_roundw
                  case rel => exact ⟨(k + 1) + 1, 1, by omega, rfl, by go_num, by go_num, by omega, by rw [← Hfs.out]; exact (fsF_open Ht.out Hno.out Ho.out).symm, hB⟩
                  case measure => simp [intOf]; omega
        · obtain ⟨d, rfl⟩ : ∃ q, d = q + 1 := ⟨d - 1, by omega⟩
          have hd' : (((d + 1 : Nat) : Int) == 0) = false := beq_eq_false_iff_ne.2 (by omega)
          have Hno : Hid ((d + 1 == 0 && isW t cInto && !afterVerb ts k) = false) := by simp [Hid]
          obtain ⟨wx, rfl, hx, hrx⟩ : ∃ wx, wr = wx ∧ Below w.heap.size w wx ∧ TokRow wx b off ts := ⟨wr, rfl, hbr, hr⟩
          go_wp2_with fail
          refine (opener_is t bo _ Ho.out).mono ?_
          rintro e wy ⟨rfl, hy⟩
          have hry := hrx.below hy hrx.lt
          have hB : Below w.heap.size w wy := hx.trans (hy.mono hx.size)
          cases bo
          · have g0 := hry.c0 k t Ht.out
            have g1 := hry.c1 k t Ht.out
            have g2 := hry.c2 k t Ht.out
            go_wp2_with fail
            refine (closer_is t bc _ Hc.out).mono ?_
            rintro e wz ⟨rfl, hz⟩
            have hB2 : Below w.heap.size w wz := hB.trans (hz.mono hB.size)
            cases bc
            · go_wp2_with fail
              go_roundw
              case rel => exact ⟨k + 1, d + 1, by omega, rfl, by go_num, by go_num, by omega, by rw [← Hfs.out]; exact (fsF_other Ht.out Hno.out Ho.out (by simp [Hc.out])).symm, hB2⟩
              case measure => simp [intOf]; omega
            · go_wp2_with fail
              go_roundw
              case rel => exact ⟨k + 1, d, by omega, rfl, by go_num, by go_num, by omega, by rw [← Hfs.out]; exact (fsF_close Ht.out (Nat.succ_pos d) Ho.out Hc.out).symm, hB2⟩
              case measure => simp [intOf]; omega
          · go_wp2_with fail
            go_roundw
            case rel => exact ⟨k + 1, d + 2, by omega, rfl, by go_num, by go_num, by omega, by rw [← Hfs.out]; exact (fsF_open Ht.out Hno.out Ho.out).symm, hB⟩
            case measure => simp [intOf]; omega
      · have HN : Hid (fsF ts 0 0 = none) := by
          unfold Hid; rw [← hfs]; exact fsF_end (by have := hs.len; omega)
        clear hfs hs
        go_wp2_with fail
        go_meet
        case rel => exact CutA.none HN.out hbr
  case rest =>
    obtain ⟨hor, hbc⟩ := hcut
    rcases hor with ⟨hN, rfl⟩ | ⟨k, hK, rfl⟩
    · have HN : Hid (fsF ts 0 0 = none) := hN
      clear hN
      go_wp2_with fail
      go_ret2
      exact ClausePost.none HN.out hbc
    have HK : Hid (fsF ts 0 0 = some k) := hK
    have hkn : k < n := by have := fsF_lt hK; have := hs.len; omega
    clear hK
    obtain ⟨b, off, rfl, hr0⟩ := hs.row (by omega)
    have hr := hr0.below hbc hr0.lt
    go_upto_region 17 with fail
    go_cut [80] (fun v w1 => CutS ts w k v w1)
    case first =>
      by_cases hj : k + 1 < n
      · obtain ⟨t, ht⟩ := getTk hs.len hj
        have h0 := hr.c0 (k + 1) t ht
        have h1 := hr.c1 (k + 1) t ht
        have h2 := hr.c2 (k + 1) t ht
        obtain ⟨bs, hbs⟩ : ∃ bs, isW t cStrict = bs := ⟨_, rfl⟩
        have HS : Hid (isW t cStrict = bs) := hbs
        have Ht : Hid (ts[k + 1]? = some t) := ht
        clear ht hbs
        go_wp2_with fail
        refine (isWord_is t _ _ bs _ toLStrict HS.out).mono ?_
        rintro e wa ⟨rfl, ha⟩
        have hB : Below w.heap.size w wa := hbc.trans (ha.mono hbc.size)
        go_wp2_with fail
        go_meet
        case rel =>
          refine ⟨⟨bs, rfl, ?_⟩, hB⟩
          cases bs
          · simpa using strict_no Ht.out HS.out
          · simpa using strict_yes Ht.out HS.out
      · have hd : decide (((k : Int) + 1) < (n : Int)) = false := decide_eq_false (by omega)
        have HE : Hid (afterStrict ts (k + 1) = k + 1) := strict_end (by have := hs.len; omega)
        go_wp2_with fail
        go_meet
        case rel => exact ⟨⟨false, rfl, by simpa using HE.out⟩, hbc⟩
    case rest =>
      obtain ⟨⟨bs, rfl, has⟩, hbd⟩ := hcut
      have HA : Hid (afterStrict ts (k + 1) = k + 1 + (if bs = true then 1 else 0)) := has
      clear has
      go_upto_if 80 with fail
      go_cut [8] (fun j w1 => CutB ts w k j w1)
      case first =>
        cases bs
        · go_wp2_with fail
          go_meet
          case rel => exact ⟨by rw [HA.out]; go_num, hbd⟩
        · go_wp2_with fail
          go_meet
          case rel => exact ⟨by rw [HA.out]; go_num, hbd⟩
      case rest =>
        obtain ⟨rfl, hbe⟩ := hcut
        have HJ : Hid (autF ts 0 (afterStrict ts (k + 1)) = clauseEnd ts k) := rfl
        have hj0 := (afterStrict_le (ts := ts) (j := k + 1) (by have := hs.len; omega)).2
        rw [hs.len] at hj0
        clear HA
        generalize afterStrict ts (k + 1) = j0 at HJ hj0 ⊢
        go_wp2_with fail
        go_loopw [8, 9] (fun j st wr => RelB ts w n k j st wr) (fun j _ _ => n - (intOf j).toNat)
        case atStart => exact ⟨j0, 0, hj0, by omega, rfl, rfl, HJ.out, hbe⟩
        case round =>
          obtain ⟨j, st, hj, hst, rfl, rfl, haut, hbr⟩ := hrel
          have Haut : Hid (autF ts st j = clauseEnd ts k) := haut
          clear haut HJ hj0
          by_cases hlt : j < n
          · obtain ⟨t, ht⟩ := getTk hs.len hlt
            have hrr := hr0.below hbr hr0.lt
            have h0 := hrr.c0 j t ht
            have h1 := hrr.c1 j t ht
            have h2 := hrr.c2 j t ht
            have Ht : Hid (ts[j]? = some t) := ht
            clear ht
            have hi : (j : Int) < (n : Int) := by omega
            obtain ⟨bn, hbn⟩ : ∃ b, namePart t = b := ⟨_, rfl⟩
            obtain ⟨bd, hbd'⟩ : ∃ b, isO t [46] = b := ⟨_, rfl⟩
            obtain ⟨bm, hbm⟩ : ∃ b, isO t [44] = b := ⟨_, rfl⟩
            have Hn : Hid (namePart t = bn) := hbn
            have Hd : Hid (isO t [46] = bd) := hbd'
            have Hm : Hid (isO t [44] = bm) := hbm
            clear hbn hbd' hbm
            have hB0 : Below w.heap.size w (wr.alloc (.cells #[.int .i64 t.kind, .string t.text, .int .i64 t.line] 28)) := hbr.alloc hbr.size _
            have hst3 : st = 0 ∨ st = 1 ∨ st = 2 := by omega
            rcases hst3 with rfl | rfl | rfl
            · go_wp2_with fail
              refine (namePart_is t bn _ Hn.out).mono ?_
              rintro e wa ⟨rfl, ha⟩
              have hB : Below w.heap.size w wa := hB0.trans (ha.mono hB0.size)
              cases bn
              · have HE : Hid (clauseEnd ts k = j) := by unfold Hid; rw [← Haut.out]; exact autF_stop Ht.out (by simp [next, Hn.out])
                go_wp2_with fail
                go_ret2
                exact ClausePost.some HK.out HE.out hB
              · have HE : Hid (autF ts 1 (j + 1) = clauseEnd ts k) := by unfold Hid; rw [← Haut.out]; exact (autF_go Ht.out (by simp [next, Hn.out])).symm
                go_wp2_with fail
                go_roundw
                case rel => exact ⟨j + 1, 1, by omega, by omega, by go_num, by go_num, HE.out, hB⟩
                case measure => simp [intOf]; omega
            · go_wp2_with fail
              refine (isOp_is t _ _ bd _ toL46 Hd.out).mono ?_
              rintro e wa ⟨rfl, ha⟩
              have hB : Below w.heap.size w wa := hB0.trans (ha.mono hB0.size)
              cases bd
              · obtain ⟨hc1, hf1⟩ := bcell ha
                go_wp2_with fail
                refine (isOp_is t _ _ bm _ toL44 Hm.out).mono ?_
                rintro e wb ⟨rfl, hb⟩
                have hB2 : Below w.heap.size w wb := hB.trans (hb.mono hB.size)
                clear hc1 hf1
                cases bm
                · have HE : Hid (clauseEnd ts k = j) := by unfold Hid; rw [← Haut.out]; exact autF_stop Ht.out (by simp [next, Hd.out, Hm.out])
                  go_wp2_with fail
                  go_ret2
                  exact ClausePost.some HK.out HE.out hB2
                · have HE : Hid (autF ts 0 (j + 1) = clauseEnd ts k) := by unfold Hid; rw [← Haut.out]; exact (autF_go Ht.out (by simp [next, Hd.out, Hm.out])).symm
                  go_wp2_with fail
                  go_roundw
                  case rel => exact ⟨j + 1, 0, by omega, by omega, by go_num, by go_num, HE.out, hB2⟩
                  case measure => simp [intOf]; omega
              · have HE : Hid (autF ts 2 (j + 1) = clauseEnd ts k) := by unfold Hid; rw [← Haut.out]; exact (autF_go Ht.out (by simp [next, Hd.out])).symm
                go_wp2_with fail
                go_roundw
                case rel => exact ⟨j + 1, 2, by omega, by omega, by go_num, by go_num, HE.out, hB⟩
                case measure => simp [intOf]; omega
            · go_wp2_with fail
              refine (namePart_is t bn _ Hn.out).mono ?_
              rintro e wa ⟨rfl, ha⟩
              have hB : Below w.heap.size w wa := hB0.trans (ha.mono hB0.size)
              cases bn
              · obtain ⟨hc1, hf1⟩ := bcell ha
                go_wp2_with fail
                refine (isOp_is t _ _ bm _ toL44 Hm.out).mono ?_
                rintro e wb ⟨rfl, hb⟩
                have hB2 : Below w.heap.size w wb := hB.trans (hb.mono hB.size)
                clear hc1 hf1
                cases bm
                · have HE : Hid (clauseEnd ts k = j) := by unfold Hid; rw [← Haut.out]; exact autF_stop Ht.out (by simp [next, Hn.out, Hm.out])
                  go_wp2_with fail
                  go_ret2
                  exact ClausePost.some HK.out HE.out hB2
                · have HE : Hid (autF ts 0 (j + 1) = clauseEnd ts k) := by unfold Hid; rw [← Haut.out]; exact (autF_go Ht.out (by simp [next, Hn.out, Hm.out])).symm
                  go_wp2_with fail
                  go_roundw
                  case rel => exact ⟨j + 1, 0, by omega, by omega, by go_num, by go_num, HE.out, hB2⟩
                  case measure => simp [intOf]; omega
              · have HE : Hid (autF ts 1 (j + 1) = clauseEnd ts k) := by unfold Hid; rw [← Haut.out]; exact (autF_go Ht.out (by simp [next, Hn.out])).symm
                go_wp2_with fail
                go_roundw
                case rel => exact ⟨j + 1, 1, by omega, by omega, by go_num, by go_num, HE.out, hB⟩
                case measure => simp [intOf]; omega
          · have HE : Hid (clauseEnd ts k = j) := by unfold Hid; rw [← Haut.out]; exact autF_end (by have := hs.len; omega)
            go_wp2_with fail
            go_ret2
            exact ClausePost.some HK.out HE.out hbr
end Go.Proofs.Qxb6615028a
