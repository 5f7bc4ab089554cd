/-
  zzPrefixOK.
-/
import Derived.Test.Qxb6615028aPre
namespace Go.Proofs.Qxb6615028a
open Go.ChangeShapes Go.WideShapes Go.ChangeAt Go.RowKit
set_option linter.unusedVariables false

/-- What a prefix that is all right is good for: the scan comes through it to the INTO behind it. -/
def Good (ps : List Tk) : Prop := ∀ (t : Tk) (us : List Tk), isW t cInto = true → fsF (ps ++ t :: us) 0 0 = some ps.length
def PrefixPost (ps : List Tk) (w : World) (e : Ending) (w' : World) : Prop := ∃ b, e = .returned (.bool b) ∧ (b = true → Good ps) ∧ Below w.heap.size w w'
theorem PrefixPost.no {ps : List Tk} {w w' : World} (hb : Below w.heap.size w w') : PrefixPost ps w (.returned (.bool false)) w' := ⟨false, rfl, (by intro h; cases h), hb⟩
theorem PrefixPost.yes {ps : List Tk} {w w' : World} (hg : Good ps) (hb : Below w.heap.size w w') : PrefixPost ps w (.returned (.bool true)) w' := ⟨true, rfl, fun _ => hg, hb⟩
def PrefixRel (n : Nat) (ps : List Tk) (w : World) (dv i : Value) (wr : World) : Prop := ∃ k d : Nat, k ≤ n ∧ dv = .int .i64 d ∧ i = .int .i64 k ∧ d ≤ k ∧ (∀ us, fsF (ps ++ us) d k = fsF (ps ++ us) 0 0) ∧ Below w.heap.size w wr

theorem pre_at {ps us : List Tk} {k : Nat} {t : Tk} (h : ps[k]? = some t) : (ps ++ us)[k]? = some t := by
  rw [List.getElem?_append_left (List.getElem?_eq_some_iff.1 h).1]; exact h
theorem good_of {ps : List Tk} {n : Nat} (hl : ps.length = n) (hf : ∀ us, fsF (ps ++ us) 0 n = fsF (ps ++ us) 0 0) (hv : ∀ us, afterVerb (ps ++ us) n = false) : Good ps := by
  intro t us ht
  subst hl
  rw [← hf]
  exact fsF_hit (by rw [List.getElem?_append_right (Nat.le_refl _)]; simp) ht (hv _)

set_option maxRecDepth 100000 in
set_option maxHeartbeats 2000000 in
theorem prefix_any (ao : Option Addr) (n c : Nat) (ps : List Tk) (w : World) (hs : TokSlice w ao n ps) (hn : n ≤ 1048576) :
    Calls Try.prog 16 #[.slice ao n c] w (PrefixPost ps w) := by
  have HS : Hid (TokSlice w ao n ps) := hs
  clear hs
  go_enter Try.func16, Try.ntmps16
  go_wp2_with fail
  go_loopw [3, 4] (fun dv i wr => PrefixRel n ps w dv i wr) (fun _ i _ => n - (intOf i).toNat)
  case atStart => exact ⟨0, 0, Nat.zero_le _, rfl, rfl, Nat.le_refl _, fun _ => rfl, Below.refl _ _⟩
  case round =>
    obtain ⟨k, d, hk, rfl, rfl, hdk, hfs, hbr⟩ := hrel
    have Hfs : Hid (∀ us, fsF (ps ++ us) d k = fsF (ps ++ us) 0 0) := hfs
    clear hfs
    by_cases hlt : k < n
    · obtain ⟨b, off, rfl, hr0⟩ := HS.out.row (by omega)
      obtain ⟨t, ht⟩ := getTk HS.out.len hlt
      have hr := hr0.below hbr hr0.lt
      have h0 := hr.c0 k t ht
      have h1 := hr.c1 k t ht
      have h2 := hr.c2 k t ht
      obtain ⟨bo, hbo⟩ : ∃ bo, opener t = bo := ⟨_, rfl⟩
      obtain ⟨bc, hbc⟩ : ∃ bc, closer t = bc := ⟨_, rfl⟩
      obtain ⟨bi, hbi⟩ : ∃ bi, isW t cInto = bi := ⟨_, rfl⟩
      have Ho : Hid (opener t = bo) := hbo
      have Hc : Hid (closer t = bc) := hbc
      have Hi : Hid (isW t cInto = bi) := hbi
      have Ht : Hid (ps[k]? = some t) := ht
      clear ht hbo hbc hbi
      have hi : (k : Int) < (n : Int) := by omega
      by_cases hd : d = 0
      · subst hd
        go_wp2_with fail
        refine (isWord_is t _ _ bi _ toLInto Hi.out).mono ?_
        rintro e wx ⟨rfl, ha⟩
        have hrx := hr.below ha hr.lt
        have hx : Below w.heap.size w wx := hbr.trans (ha.mono hbr.size)
        clear h0 h1 h2 ha
        cases bi
        · have Hno : Hid (∀ us, (0 == 0 && isW t cInto && !afterVerb (ps ++ us) k) = false) := fun us => by simp [Hi.out]
          have h0 := hrx.c0 k t Ht.out
          have h1 := hrx.c1 k t Ht.out
          have h2 := hrx.c2 k t Ht.out
          go_wp2_with fail
          refine (opener_is t bo _ Ho.out).mono ?_
          rintro e wy ⟨rfl, hy⟩
          have hB : Below w.heap.size w wy := hx.trans (hy.mono hx.size)
          cases bo
          · go_wp2_with fail
            go_roundw
            case rel => exact ⟨k + 1, 0, by omega, rfl, by go_num, by omega, fun us => by rw [← Hfs.out us]; exact (fsF_other (pre_at Ht.out) (Hno.out us) Ho.out (by simp)).symm, hB⟩
            case measure => simp [intOf]; omega
          · go_wp2_with fail
            go_roundw
            case rel => exact ⟨k + 1, 1, by omega, by go_num, by go_num, by omega, fun us => by rw [← Hfs.out us]; exact (fsF_open (pre_at Ht.out) (Hno.out us) Ho.out).symm, hB⟩
            case measure => simp [intOf]; omega
        · go_wp2_with fail
          go_ret
          exact PrefixPost.no hx
      · obtain ⟨d, rfl⟩ : ∃ q, d = q + 1 := ⟨d - 1, by omega⟩
        have hd' : (((d + 1 : Nat) : Int) == 0) = false := beq_eq_false_iff_ne.2 (by omega)
        have Hno : Hid (∀ us, (d + 1 == 0 && isW t cInto && !afterVerb (ps ++ us) k) = false) := fun us => by simp
        go_wp2_with fail
        refine (opener_is t bo _ Ho.out).mono ?_
        rintro e wy ⟨rfl, hy⟩
        have hry := hr.below hy hr.lt
        have hB : Below w.heap.size w wy := hbr.trans (hy.mono hbr.size)
        clear h0 h1 h2
        cases bo
        · have g0 := hry.c0 k t Ht.out
          have g1 := hry.c1 k t Ht.out
          have g2 := hry.c2 k t Ht.out
          go_wp2_with fail
          refine (closer_is t bc _ Hc.out).mono ?_
          rintro e wz ⟨rfl, hz⟩
          have hB2 : Below w.heap.size w wz := hB.trans (hz.mono hB.size)
          cases bc
          · go_wp2_with fail
            go_roundw
            case rel => exact ⟨k + 1, d + 1, by omega, by go_num, by go_num, by omega, fun us => by rw [← Hfs.out us]; exact (fsF_other (pre_at Ht.out) (Hno.out us) Ho.out (by simp [Hc.out])).symm, hB2⟩
            case measure => simp [intOf]; omega
          · go_wp2_with fail
            go_roundw
            case rel => exact ⟨k + 1, d, by omega, by go_num, by go_num, by omega, fun us => by rw [← Hfs.out us]; exact (fsF_close (pre_at Ht.out) (Nat.succ_pos d) Ho.out Hc.out).symm, hB2⟩
            case measure => simp [intOf]; omega
        · go_wp2_with fail
          go_roundw
          case rel => exact ⟨k + 1, d + 2, by omega, by go_num, by go_num, by omega, fun us => by rw [← Hfs.out us]; exact (fsF_open (pre_at Ht.out) (Hno.out us) Ho.out).symm, hB⟩
          case measure => simp [intOf]; omega
    · have hkn : k = n := by omega
      subst hkn
      by_cases hd : d = 0
      · subst hd
        by_cases hn0 : k = 0
        · subst hn0
          have HG : Hid (Good ps) := good_of HS.out.len Hfs.out (fun _ => rfl)
          go_wp2_with fail
          go_ret
          exact PrefixPost.yes HG.out hbr
        · obtain ⟨j, rfl⟩ : ∃ j, k = j + 1 := ⟨k - 1, by omega⟩
          obtain ⟨b, off, rfl, hr0⟩ := HS.out.row (by omega)
          obtain ⟨t, ht⟩ := getTk HS.out.len (show j < j + 1 by omega)
          have hr := hr0.below hbr hr0.lt
          have h0 := hr.c0 j t ht
          have h1 := hr.c1 j t ht
          have h2 := hr.c2 j t ht
          obtain ⟨b1, hb1⟩ : ∃ b1, isW t cInsert = b1 := ⟨_, rfl⟩
          obtain ⟨b2, hb2⟩ : ∃ b2, isW t cMerge = b2 := ⟨_, rfl⟩
          have H1 : Hid (isW t cInsert = b1) := hb1
          have H2 : Hid (isW t cMerge = b2) := hb2
          have HV : Hid (∀ us, afterVerb (ps ++ us) (j + 1) = (b1 || b2)) := fun us => by simp [afterVerb, pre_at ht, verb, hb1, hb2]
          clear ht hb1 hb2
          have hB0 : Below w.heap.size w (wr.alloc (.cells #[.int .i64 t.kind, .string t.text, .int .i64 t.line] 28)) := hbr.alloc hbr.size _
          go_wp2_with fail
          refine (isWord_is t _ _ b1 _ toLInsert H1.out).mono ?_
          rintro e wa ⟨rfl, ha⟩
          have hB : Below w.heap.size w wa := hB0.trans (ha.mono hB0.size)
          cases b1
          · obtain ⟨hc1, hf1⟩ := bcell ha
            go_wp2_with fail
            refine (isWord_is t _ _ b2 _ toLMerge H2.out).mono ?_
            rintro e wb ⟨rfl, hb⟩
            have hB2 : Below w.heap.size w wb := hB.trans (hb.mono hB.size)
            clear hc1 hf1
            cases b2
            · have HG : Hid (Good ps) := good_of HS.out.len Hfs.out (fun us => HV.out us)
              go_wp2_with fail
              go_ret
              exact PrefixPost.yes HG.out hB2
            · go_wp2_with fail
              go_ret
              exact PrefixPost.no hB2
          · go_wp2_with fail
            go_ret
            exact PrefixPost.no hB
      · have hd' : ((d : Int) == 0) = false := beq_eq_false_iff_ne.2 (by omega)
        go_wp2_with fail
        go_ret
        exact PrefixPost.no hbr
end Go.Proofs.Qxb6615028a
