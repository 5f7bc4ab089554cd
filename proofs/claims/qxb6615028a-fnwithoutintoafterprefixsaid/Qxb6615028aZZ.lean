/-
  ZZwithoutInto.
-/
import Derived.Test.Qxb6615028aFill
namespace Go.Proofs.Qxb6615028a
open Go.ChangeShapes Go.WideShapes Go.ChangeAt Go.RowKit
set_option linter.unusedVariables false
attribute [local go_sem ↓] Go.wp_at_zero Go.wp_at_succ

theorem cut_len (ts : List Tk) : (cut ts).length ≤ ts.length := by
  unfold cut
  split
  · exact Nat.le_refl _
  · rename_i s hs
    have h1 := fsF_lt hs
    have h2 := clauseEnd_le h1.2
    simp
    omega

def ZZPost (ts : List Tk) (w : World) (e : Ending) (w' : World) : Prop := ∃ a b c m, e = .returned (.tuple #[.slice (some ⟨a, 0, none⟩) m m, .slice (some ⟨b, 0, none⟩) m m, .slice (some ⟨c, 0, none⟩) m m]) ∧ (cut ts).length = m ∧ Cols w' a b c (cut ts) ∧ Below w.heap.size w w'
def ToksRel (g n : Nat) (ts : List Tk) (w : World) (i : Value) (wr : World) : Prop := ∃ k : Nat, k ≤ n ∧ i = .int .i64 k ∧ FillT wr g 43 n k ts ∧ Below w.heap.size w wr

set_option maxHeartbeats 4000000 in
theorem zz_any (a b c n : Nat) (ts : List Tk) (w : World) (hc : Cols w a b c ts) (hl : ts.length = n) (hsz : ∀ t ∈ ts, t.text.size ≤ maxLen) (hn : n ≤ 1048576) :
    Calls Try.prog 10 #[.slice (some ⟨a, 0, none⟩) n n, .slice (some ⟨b, 0, none⟩) n n, .slice (some ⟨c, 0, none⟩) n n] w (ZZPost ts w) := by
  obtain ⟨i43, hi, hz0, hz1, hz2⟩ := info_parts Try.info43
  have I43 : Hid (Try.prog.info? 43 = some i43 ∧ i43.zero = some (.agg #[.int .i64 0, .string (ByteArray.mk #[]), .int .i64 0]) ∧ i43.size = 3 ∧ i43.bytes = 32) := ⟨hi, hz0, hz1, hz2⟩
  clear hi hz0 hz1 hz2
  obtain ⟨i3, hi, hz0, hz1, hz2⟩ := info_parts Try.info3
  have I3 : Hid (Try.prog.info? 3 = some i3 ∧ i3.zero = some (.int .i64 0) ∧ i3.size = 1 ∧ i3.bytes = 8) := ⟨hi, hz0, hz1, hz2⟩
  clear hi hz0 hz1 hz2
  obtain ⟨i9, hi, hz0, hz1, hz2⟩ := info_parts Try.info9
  have I9 : Hid (Try.prog.info? 9 = some i9 ∧ i9.zero = some (.string (ByteArray.mk #[])) ∧ i9.size = 1 ∧ i9.bytes = 16) := ⟨hi, hz0, hz1, hz2⟩
  clear hi hz0 hz1 hz2
  have B43 : Hid (i43.bytes * n ≤ 281474976710656) := by unfold Hid; rw [I43.out.2.2.2]; omega
  have BM : Hid (n ≤ maxLen) := by unfold Hid maxLen; omega
  have HC : Hid (Cols w a b c ts) := hc
  have Hl : Hid (ts.length = n) := hl
  have Hsz : Hid (∀ t ∈ ts, t.text.size ≤ maxLen) := hsz
  have la := hc.la
  have lb := hc.lb
  have lc := hc.lc
  clear hc hl hsz
  go_enter Try.func10, Try.ntmps10
  go_wp2_with (at_make; refine wpList_make_full _ rfl (.tmp 17) (.tmp 17) 40 rfl w.heap.size 43 i43 (.agg #[.int .i64 0, .string (ByteArray.mk #[]), .int .i64 0]) 3 Try.underlying40 I43.out.1 I43.out.2.1 I43.out.2.2.1 .i64 .i64 _ _ n rfl rfl rfl rfl B43.out BM.out (Nat.le_refl _) ?_; intro w1 o1 g1)
  have F1 : Hid (FillT w1 w.heap.size 43 n 0 ts) := FillT.start o1
  have hB1 : Below w.heap.size w w1 := (Below.refl _ _).grown g1 (Nat.le_refl _) (by simp)
  clear o1 g1
  go_loopw [21] (fun i wr => ToksRel w.heap.size n ts w i wr) (fun i _ => n - (intOf i).toNat)
  case atStart => exact ⟨0, Nat.zero_le _, rfl, F1.out, hB1⟩
  case round =>
    obtain ⟨k, hk, rfl, f1, hbr⟩ := hrel
    have G1 : Hid (FillT wr w.heap.size 43 n k ts) := f1
    clear F1 hB1
    by_cases hlt : k < n
    · obtain ⟨t, ht⟩ := getTk Hl.out hlt
      have CR := HC.out.below hbr (Nat.le_refl _)
      have h0 := CR.ka k t ht
      have h1 := CR.kb k t ht
      have h2 := CR.kc k t ht
      obtain ⟨x1, hx1⟩ := f1.old (j := k * 3) (by omega)
      obtain ⟨x2, hx2⟩ := f1.old (j := k * 3 + 1) (by omega)
      obtain ⟨x3, hx3⟩ := f1.old (j := k * 3 + 2) (by omega)
      have y1 := f1.free (k * 3)
      have y2 := f1.free (k * 3 + 1)
      have y3 := f1.free (k * 3 + 2)
      have Ht : Hid (ts[k]? = some t) := ht
      clear f1 ht CR
      have hi0 : (0 : Int) ≤ (k : Int) := by omega
      have hi : (k : Int) < (n : Int) := by omega
      have e1 : a ≠ w.heap.size := by omega
      have e2 : b ≠ w.heap.size := by omega
      have e3 : c ≠ w.heap.size := by omega
      have e4 : w.heap.size ≠ a := by omega
      have e5 : w.heap.size ≠ b := by omega
      have e6 : w.heap.size ≠ c := by omega
      go_wp2_with fail
      go_region_held3 (fun w' => w'.cell? ⟨a, k, none⟩ = some (.int .i64 t.kind) ∧ w'.cell? ⟨b, k, none⟩ = some (.string t.text) ∧ w'.cell? ⟨c, k, none⟩ = some (.int .i64 t.line)) (go_keep) (fail)
      all_goals go_wp2_with fail
      go_roundw
      case rel => exact ⟨k + 1, by omega, by go_num, (G1.out.put Ht.out hlt).same rfl, (((hbr.setCell (Nat.le_refl _) _).setCell (Nat.le_refl _) _).setCell (Nat.le_refl _) _).drew⟩
      case measure => simp [intOf]; omega
    · have hkn : k = n := by omega
      subst hkn
      have hR : TokRow wr w.heap.size 0 ts := f1.row (by have := Hl.out; omega) Hsz.out
      have HR : Hid (TokRow wr w.heap.size 0 ts) := hR
      clear f1 hR G1 B43
      go_wp2_with fail
      refine (into_any w.heap.size k ts _ HR.out Hl.out hn).mono ?_
      rintro e w2 ⟨ao, m, cc, rfl, hs, hb2⟩
      have hB2 : Below w.heap.size w w2 := hbr.trans (hb2.mono hbr.size)
      have hm : m ≤ 1048576 := by have h1 := cut_len ts; have h2 := hs.len; have h3 := Hl.out; omega
      have HS : Hid (TokSlice w2 ao m (cut ts)) := hs
      have B3 : Hid (i3.bytes * m ≤ 281474976710656) := by unfold Hid; rw [I3.out.2.2.2]; omega
      have B9 : Hid (i9.bytes * m ≤ 281474976710656) := by unfold Hid; rw [I9.out.2.2.2]; omega
      have BM2 : Hid (m ≤ maxLen) := by unfold Hid maxLen; omega
      clear hs hb2 BM
      go_wp2_with (first
        | (at_make; refine wpList_make_full _ rfl (.tmp 44) (.tmp 44) 29 rfl w2.heap.size 3 i3 (.int .i64 0) 1 Try.underlying29 I3.out.1 I3.out.2.1 I3.out.2.2.1 .i64 .i64 _ _ m rfl rfl rfl rfl B3.out BM2.out (Nat.le_refl _) ?_; intro w3 o3 g3)
        | (at_make; refine wpList_make_full _ rfl (.tmp 47) (.tmp 47) 30 rfl w2.heap.size 9 i9 (.string (ByteArray.mk #[])) 1 Try.underlying30 I9.out.1 I9.out.2.1 I9.out.2.2.1 .i64 .i64 _ _ m rfl rfl rfl rfl B9.out BM2.out g3.size ?_; intro w4 o4 g4)
        | (at_make; refine wpList_make_full _ rfl (.tmp 50) (.tmp 50) 29 rfl w2.heap.size 3 i3 (.int .i64 0) 1 Try.underlying29 I3.out.1 I3.out.2.1 I3.out.2.2.1 .i64 .i64 _ _ m rfl rfl rfl rfl B3.out BM2.out (Nat.le_trans g3.size g4.size) ?_; intro w5 o5 g5))
      have z1 := g3.size
      have z2 := g4.size
      have z3 := g5.size
      have q1 : w2.heap.size < w3.heap.size := (FillC.start (ts := cut ts) (fv := fK) o3).lt
      have q2 : w3.heap.size < w4.heap.size := (FillC.start (ts := cut ts) (fv := fX) o4).lt
      have q3 : w4.heap.size < w5.heap.size := (FillC.start (ts := cut ts) (fv := fL) o5).lt
      have F1 : Hid (FillC w5 w2.heap.size 3 m 0 (cut ts) fK) := ((FillC.start o3).same (g4.block _ q1 (by simp))).same (g5.block _ (by omega) (by simp))
      have F2 : Hid (FillC w5 w3.heap.size 9 m 0 (cut ts) fX) := (FillC.start o4).same (g5.block _ q2 (by simp))
      have F3 : Hid (FillC w5 w4.heap.size 3 m 0 (cut ts) fL) := FillC.start o5
      have hB5 : Below w2.heap.size w2 w5 := ((Below.refl _ _).grown g3 (Nat.le_refl _) (by simp)).trans (((Below.refl _ _).grown g4 z1 (by simp)).trans ((Below.refl _ _).grown g5 (by omega) (by simp)))
      clear o3 o4 o5 g3 g4 g5 B3 B9 BM2 I3 I9 I43
      have e1 : w2.heap.size ≠ w3.heap.size := by omega
      have e2 : w2.heap.size ≠ w4.heap.size := by omega
      have e3 : w3.heap.size ≠ w4.heap.size := by omega
      have e4 : w3.heap.size ≠ w2.heap.size := by omega
      have e5 : w4.heap.size ≠ w2.heap.size := by omega
      have e6 : w4.heap.size ≠ w3.heap.size := by omega
      go_loopw [54] (fun i wr => SplitRel w2.heap.size w3.heap.size w4.heap.size m (cut ts) w2 i wr) (fun i _ => m - (intOf i).toNat)
      case atStart => exact ⟨0, Nat.zero_le _, rfl, F1.out, F2.out, F3.out, hB5⟩
      case round =>
        obtain ⟨j, hj, rfl, f1, f2, f3, hbs⟩ := hrel
        have G1 : Hid (FillC wr w2.heap.size 3 m j (cut ts) fK) := f1
        have G2 : Hid (FillC wr w3.heap.size 9 m j (cut ts) fX) := f2
        have G3 : Hid (FillC wr w4.heap.size 3 m j (cut ts) fL) := f3
        by_cases hjt : j < m
        · obtain ⟨d, off, rfl, hr0⟩ := HS.out.row (by omega)
          obtain ⟨t, ht⟩ := getTk HS.out.len hjt
          have hr := hr0.below hbs hr0.lt
          have hd0 := hr0.lt
          have h0 := hr.c0 j t ht
          have h1 := hr.c1 j t ht
          have h2 := hr.c2 j t ht
          obtain ⟨x1, hx1⟩ := f1.old hjt
          obtain ⟨x2, hx2⟩ := f2.old hjt
          obtain ⟨x3, hx3⟩ := f3.old hjt
          have y1 := f1.free j
          have y2 := f2.free j
          have y3 := f3.free j
          have Ht : Hid ((cut ts)[j]? = some t) := ht
          clear f1 f2 f3 ht hr hr0
          have hi : (j : Int) < (m : Int) := by omega
          have e7 : d ≠ w2.heap.size := by omega
          have e8 : d ≠ w3.heap.size := by omega
          have e9 : d ≠ w4.heap.size := by omega
          have e10 : w2.heap.size ≠ d := by omega
          have e11 : w3.heap.size ≠ d := by omega
          have e12 : w4.heap.size ≠ d := by omega
          go_wp2_with fail
          go_roundw
          case rel =>
            refine ⟨j + 1, by omega, by go_num, ?_, ?_, ?_, ((hbs.setCell (Nat.le_refl _) _).setCell (by simp; omega) _).setCell (by simp; omega) _⟩
            · exact ((G1.out.put Ht.out hjt _ rfl).same (heap_setCell_other _ _ _ _ e1)).same (heap_setCell_other _ _ _ _ e2)
            · exact ((G2.out.same (heap_setCell_other _ _ _ _ e4)).put Ht.out hjt _ rfl).same (heap_setCell_other _ _ _ _ e3)
            · exact ((G3.out.same (heap_setCell_other _ _ _ _ e5)).same (heap_setCell_other _ _ _ _ e6)).put Ht.out hjt _ rfl
          case measure => simp [intOf]; omega
        · have hjm : j = m := by omega
          subst hjm
          have hC : Cols wr w2.heap.size w3.heap.size w4.heap.size (cut ts) := by
            have hj : ∀ i t, (cut ts)[i]? = some t → i < j := fun i t ht => by have := (List.getElem?_eq_some_iff.1 ht).1; have := HS.out.len; omega
            exact ⟨f1.lt, f2.lt, f3.lt, fun j t ht => f1.cell j t (hj j t ht) ht, fun j t ht => f2.cell j t (hj j t ht) ht, fun j t ht => f3.cell j t (hj j t ht) ht⟩
          have HCC : Hid (Cols wr w2.heap.size w3.heap.size w4.heap.size (cut ts)) := hC
          have hBB : Below w.heap.size w wr := hB2.trans (hbs.mono hB2.size)
          clear f1 f2 f3 hC
          go_wp2_with fail
          go_ret3
          exact ⟨_, _, _, _, rfl, HS.out.len, HCC.out, hBB⟩
end Go.Proofs.Qxb6615028a
