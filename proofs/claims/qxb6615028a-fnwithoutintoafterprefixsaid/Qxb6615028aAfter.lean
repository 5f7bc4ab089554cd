/-
  The walk of FnWithoutIntoAfterPrefix.
-/
import Derived.Test.Qxb6615028aPrefix
import Derived.Test.Qxb6615028aModel
namespace Go.Proofs.Qxb6615028a
open Go.ChangeShapes Go.WideShapes Go.ChangeAt Go.RowKit
set_option linter.unusedVariables false

/-- The token INTO that the law lays. -/
def tI : Tk := ⟨0, ByteArray.mk #[105, 110, 116, 111], 1⟩
theorem tI_into : isW tI cInto = true := by decide +kernel
theorem tI_size : tI.text.size ≤ maxLen := by simp [tI, maxLen, ByteArray.size]

def CopyRel (g m n base : Nat) (us : List Tk) (w : World) (i : Value) (wr : World) : Prop := ∃ k : Nat, k ≤ n ∧ i = .int .i64 k ∧ FillT wr g 28 m (base + k) us ∧ Below w.heap.size w wr

theorem row_into {w : World} : TokRow (w.alloc (.cells #[.int .i64 0, .string (ByteArray.mk #[105, 110, 116, 111]), .int .i64 1] 28)) w.heap.size 0 [tI] := by
  have hj : ∀ j t, [tI][j]? = some t → j = 0 ∧ t = tI := by
    intro j t h
    cases j with
    | zero => simp at h; exact ⟨rfl, h.symm⟩
    | succ j => simp at h
  refine ⟨by simp, ?_, ?_, ?_, ?_⟩
  · intro j t h; obtain ⟨rfl, rfl⟩ := hj j t h; simp [tI, go_sem]
  · intro j t h; obtain ⟨rfl, rfl⟩ := hj j t h; simp [tI, go_sem]
  · intro j t h; obtain ⟨rfl, rfl⟩ := hj j t h; simp [tI, go_sem]
  · intro t h; simp at h; subst h; exact tI_size

set_option maxRecDepth 100000 in
set_option maxHeartbeats 8000000 in
theorem after_walk (ao bo : Option Addr) (np ns c d : Nat) (ps ss : List Tk) (w : World) (hp : TokSlice w ao np ps) (hs : TokSlice w bo ns ss) (hn : np ≤ maxLen) (hm : ns ≤ maxLen) :
    Calls Try.prog 5 #[.slice ao np c, .slice bo ns d] w (LawPost w) := by
  have HP : Hid (TokSlice w ao np ps) := hp
  have HS : Hid (TokSlice w bo ns ss) := hs
  have HN : Hid (np ≤ maxLen) := hn
  have HM : Hid (ns ≤ maxLen) := hm
  clear hp hs hn hm
  go_enter Try.func5, Try.ntmps5
  go_wp2_with fail
  refine (bytes2_any ao bo np ns c d ps ss _ HP.out HS.out HN.out HM.out).mono ?_
  rintro e wx ⟨b, rfl, hb, rfl⟩
  cases b
  · clear hb
    go_wp2_with fail
    go_ret
    exact ⟨rfl, Below.refl _ _⟩
  obtain ⟨hn, hm⟩ := hb rfl
  clear hb
  go_wp2_with fail
  refine (spend_more ao np c ps 1048576 _ HP.out hn (by omega) (by omega)).mono ?_
  rintro e wx ⟨r, rfl, ⟨hr0, hr1⟩, hr2, rfl⟩
  by_cases hr : r < 24
  · clear hr2
    go_wp2_with fail
    go_ret
    exact ⟨rfl, Below.refl _ _⟩
  have hr3 := hr2 (by omega)
  clear hr2
  go_wp2_with fail
  refine (spend_more bo ns d ss (r - 24) _ HS.out hm (by omega) (by omega)).mono ?_
  rintro e wx ⟨q, rfl, ⟨hq0, hq1⟩, hq2, rfl⟩
  by_cases hq : q < 0
  · clear hq2
    go_wp2_with fail
    go_ret
    exact ⟨rfl, Below.refl _ _⟩
  have hq3 := hq2 (by omega)
  have hsum : np + 1 + ns ≤ 1048576 := by omega
  clear hq2
  go_wp2_with fail
  refine (prefix_any ao np c ps _ HP.out hn).mono ?_
  rintro e w1 ⟨b, rfl, hg, hb1⟩
  clear hr hr0 hr1 hr3 hq hq0 hq1 hq3
  cases b
  · clear hg
    go_wp2_with fail
    go_ret
    exact ⟨rfl, hb1⟩
  have HG : Hid (Good ps) := hg rfl
  clear hg
  go_upto_region 11 with fail
  have hA2 : Below w1.heap.size w1 (w1.alloc (.cells #[.int .i64 0, .string (ByteArray.mk #[105, 110, 116, 111]), .int .i64 1] 28)) := (Below.refl _ _).alloc (Nat.le_refl _) _
  have hRI : TokRow (w1.alloc (.cells #[.int .i64 0, .string (ByteArray.mk #[105, 110, 116, 111]), .int .i64 1] 28)) w1.heap.size 0 [tI] := row_into
  generalize (w1.alloc (.cells #[.int .i64 0, .string (ByteArray.mk #[105, 110, 116, 111]), .int .i64 1] 28)) = W2 at hA2 hRI ⊢
  have hB2 : Below wx.heap.size wx W2 := hb1.trans (hA2.mono hb1.size)
  have HP2 : Hid (TokSlice W2 ao np ps) := HP.out.below hB2 (Nat.le_refl _)
  have HS2 : Hid (TokSlice W2 bo ns ss) := HS.out.below hB2 (Nat.le_refl _)
  have HRI : Hid (TokRow W2 w1.heap.size 0 [tI]) := hRI
  have hgi := hRI.lt
  generalize w1.heap.size = gi at HRI hgi ⊢
  clear hRI hA2 hb1
  obtain ⟨qs, hqs⟩ : ∃ qs, qs = ps ++ tI :: ss := ⟨_, rfl⟩
  obtain ⟨bs, hbs⟩ : ∃ bs, bs = tI :: ss := ⟨_, rfl⟩
  obtain ⟨m, hmm⟩ : ∃ m, m = np + 1 + ns := ⟨_, rfl⟩
  have Hqs : Hid (qs = ps ++ tI :: ss) := hqs
  have Hbs : Hid (bs = tI :: ss) := hbs
  have Hm : Hid (m = np + 1 + ns) := hmm
  have hm0 : (np : Int) + 1 + (ns : Int) = (m : Int) := by omega
  have hm1 : m ≤ 1048576 := by omega
  have Hq1 : Hid (∀ k t, ps[k]? = some t → qs[0 + k]? = some t) := by
    intro k t ht
    rw [hqs, Nat.zero_add, List.getElem?_append_left (List.getElem?_eq_some_iff.1 ht).1]; exact ht
  have Hq2 : Hid (qs[np]? = some tI) := by
    have hl := HP.out.len
    unfold Hid; rw [hqs, List.getElem?_append_right (by omega), hl]; simp
  have Hq3 : Hid (∀ k t, ss[k]? = some t → qs[np + 1 + k]? = some t) := by
    intro k t ht
    have hl := HP.out.len
    rw [hqs, List.getElem?_append_right (by omega), hl]
    rw [show np + 1 + k - np = k + 1 by omega]
    simpa using ht
  have Hb2 : Hid (bs[0]? = some tI) := by unfold Hid; rw [hbs]; rfl
  have Hb3 : Hid (∀ k t, ss[k]? = some t → bs[1 + k]? = some t) := by
    intro k t ht
    rw [hbs, show 1 + k = k + 1 by omega]
    simpa using ht
  have Hql : Hid (qs.length = m) := by
    have h1 := HP.out.len; have h2 := HS.out.len
    unfold Hid; rw [hqs, hmm]; simp; omega
  have Hbl : Hid (bs.length = 1 + ns) := by
    have h2 := HS.out.len
    unfold Hid; rw [hbs]; simp; omega
  have Hqz : Hid (∀ t ∈ qs, t.text.size ≤ maxLen) := by
    intro t ht
    rw [hqs] at ht
    rcases List.mem_append.1 ht with h | h
    · exact HP.out.sz t h
    · rcases List.mem_cons.1 h with rfl | h
      · exact tI_size
      · exact HS.out.sz t h
  have Hbz : Hid (∀ t ∈ bs, t.text.size ≤ maxLen) := by
    intro t ht
    rw [hbs] at ht
    rcases List.mem_cons.1 ht with rfl | h
    · exact tI_size
    · exact HS.out.sz t h
  have Hcut : Hid (cut qs = ps ++ cut bs) := by
    unfold Hid; rw [hqs, hbs]
    exact cut_prefix (HG.out tI ss tI_into) (cut_head tI_into)
  clear hqs hbs hmm
  obtain ⟨i28, hi, hz0, hz1, hz2⟩ := info_parts Try.info28
  have I28 : Hid (Try.prog.info? 28 = some i28 ∧ i28.zero = some (.agg #[.int .i64 0, .string (ByteArray.mk #[]), .int .i64 0]) ∧ i28.size = 3 ∧ i28.bytes = 32) := ⟨hi, hz0, hz1, hz2⟩
  clear hi hz0 hz1 hz2
  have Bq : Hid (i28.bytes * m ≤ 281474976710656) := by unfold Hid; rw [I28.out.2.2.2]; omega
  have Bb : Hid (i28.bytes * (1 + ns) ≤ 281474976710656) := by unfold Hid; rw [I28.out.2.2.2]; omega
  have Mq : Hid (m ≤ maxLen) := by unfold Hid maxLen; omega
  have Mb : Hid (1 + ns ≤ maxLen) := by unfold Hid maxLen; omega
  go_wp2_with (at_make; refine wpList_make_full _ rfl (.tmp 47) (.tmp 47) 22 rfl W2.heap.size 28 i28 (.agg #[.int .i64 0, .string (ByteArray.mk #[]), .int .i64 0]) 3 Try.underlying22 I28.out.1 I28.out.2.1 I28.out.2.2.1 .i64 .i64 _ _ m rfl rfl (by omega) (by omega) Bq.out Mq.out (Nat.le_refl _) ?_; intro w3 o3 g3)
  have F3 : Hid (FillT w3 W2.heap.size 28 m (0 + 0) qs) := FillT.start o3
  have hB3 : Below W2.heap.size W2 w3 := (Below.refl _ _).grown g3 (Nat.le_refl _) (by simp)
  clear o3 g3 Bq Mq
  go_loopw [8] (fun i wr => CopyRel W2.heap.size m np 0 qs W2 i wr) (fun i _ => np - (intOf i).toNat)
  case atStart => exact ⟨0, Nat.zero_le _, rfl, F3.out, hB3⟩
  case round =>
    obtain ⟨k, hk, rfl, f1, hbr⟩ := hrel
    have G1 : Hid (FillT wr W2.heap.size 28 m (0 + k) qs) := f1
    clear F3 hB3
    by_cases hlt : k < np
    · obtain ⟨bp, off, rfl, hr0⟩ := HP2.out.row (by omega)
      obtain ⟨t, ht⟩ := getTk HP.out.len hlt
      have hr := hr0.below hbr hr0.lt
      have h0 := hr.c0 k t ht
      have h1 := hr.c1 k t ht
      have h2 := hr.c2 k t ht
      have hbp := hr0.lt
      have e1 : bp ≠ W2.heap.size := by omega
      have e2 : W2.heap.size ≠ bp := by omega
      have hkm : k < m := by have := Hm.out; omega
      obtain ⟨x1, hx1⟩ := f1.old (j := k * 3) (by omega)
      obtain ⟨x2, hx2⟩ := f1.old (j := k * 3 + 1) (by omega)
      obtain ⟨x3, hx3⟩ := f1.old (j := k * 3 + 2) (by omega)
      have y1 := f1.free (k * 3)
      have y2 := f1.free (k * 3 + 1)
      have y3 := f1.free (k * 3 + 2)
      have Ht : Hid (qs[0 + k]? = some t) := Hq1.out k t ht
      clear f1 ht hr hr0
      have hi : (k : Int) < (np : Int) := by omega
      have hi2 : (k : Int) < (m : Int) := by omega
      go_wp2_with fail
      go_roundw
      case rel =>
        have hput := G1.out.put Ht.out (by omega)
        rw [Nat.zero_add] at hput
        refine ⟨k + 1, by omega, by go_num, ?_, ((hbr.setCell (Nat.le_refl _) _).setCell (Nat.le_refl _) _).setCell (Nat.le_refl _) _⟩
        rw [Nat.zero_add]; exact hput
      case measure => simp [intOf]; omega
    · have hkn : np = k := by omega
      subst hkn
      rw [Nat.zero_add] at f1
      have hkm : np < m := by have := Hm.out; omega
      have hrI := HRI.out.below hbr hgi
      have h0 := hrI.c0 0 tI rfl
      have h1 := hrI.c1 0 tI rfl
      have h2 := hrI.c2 0 tI rfl
      rw [Nat.zero_mul, Nat.add_zero] at h0 h1 h2
      obtain ⟨x1, hx1⟩ := f1.old (j := np * 3) (by omega)
      obtain ⟨x2, hx2⟩ := f1.old (j := np * 3 + 1) (by omega)
      obtain ⟨x3, hx3⟩ := f1.old (j := np * 3 + 2) (by omega)
      have y1 := f1.free (np * 3)
      have y2 := f1.free (np * 3 + 1)
      have y3 := f1.free (np * 3 + 2)
      have e1 : gi ≠ W2.heap.size := by omega
      have e2 : W2.heap.size ≠ gi := by omega
      have hi2 : (np : Int) < (m : Int) := by omega
      have G2 : Hid (FillT (((wr.setCell ⟨W2.heap.size, np * 3, none⟩ (.int .i64 tI.kind)).setCell ⟨W2.heap.size, np * 3 + 1, none⟩ (.string tI.text)).setCell ⟨W2.heap.size, np * 3 + 2, none⟩ (.int .i64 tI.line)) W2.heap.size 28 m (np + 1) qs) := f1.put Hq2.out hkm
      have hB4 : Below W2.heap.size W2 (((wr.setCell ⟨W2.heap.size, np * 3, none⟩ (.int .i64 tI.kind)).setCell ⟨W2.heap.size, np * 3 + 1, none⟩ (.string tI.text)).setCell ⟨W2.heap.size, np * 3 + 2, none⟩ (.int .i64 tI.line)) := ((hbr.setCell (Nat.le_refl _) _).setCell (Nat.le_refl _) _).setCell (Nat.le_refl _) _
      clear f1 hrI G1
      go_wp2_with fail
      go_loopw [9] (fun i wr => CopyRel W2.heap.size m ns (np + 1) qs W2 i wr) (fun i _ => ns - (intOf i).toNat)
      case atStart => exact ⟨0, Nat.zero_le _, rfl, G2.out, hB4⟩
      case round =>
        clear h0 h1 h2 hx1 hx2 hx3 y1 y2 y3 G2 hB4 hbr
        obtain ⟨k, hk, rfl, f1, hbr⟩ := hrel
        have G1 : Hid (FillT wr W2.heap.size 28 m (np + 1 + k) qs) := f1
        by_cases hlt : k < ns
        · obtain ⟨bp, off, rfl, hr0⟩ := HS2.out.row (by omega)
          obtain ⟨t, ht⟩ := getTk HS.out.len hlt
          have hr := hr0.below hbr hr0.lt
          have h0 := hr.c0 k t ht
          have h1 := hr.c1 k t ht
          have h2 := hr.c2 k t ht
          have hbp := hr0.lt
          have e3 : bp ≠ W2.heap.size := by omega
          have e4 : W2.heap.size ≠ bp := by omega
          have hkm : np + 1 + k < m := by have := Hm.out; omega
          obtain ⟨x1, hx1⟩ := f1.old (j := (np + 1 + k) * 3) (by omega)
          obtain ⟨x2, hx2⟩ := f1.old (j := (np + 1 + k) * 3 + 1) (by omega)
          obtain ⟨x3, hx3⟩ := f1.old (j := (np + 1 + k) * 3 + 2) (by omega)
          have y1 := f1.free ((np + 1 + k) * 3)
          have y2 := f1.free ((np + 1 + k) * 3 + 1)
          have y3 := f1.free ((np + 1 + k) * 3 + 2)
          have Ht : Hid (qs[np + 1 + k]? = some t) := Hq3.out k t ht
          clear f1 ht hr hr0
          have hi : (k : Int) < (ns : Int) := by omega
          have hi2 : (np : Int) + 1 + (k : Int) < (m : Int) := by omega
          go_wp2_with fail
          go_roundw
          case rel => exact ⟨k + 1, by omega, by go_num, G1.out.put Ht.out hkm, ((hbr.setCell (Nat.le_refl _) _).setCell (Nat.le_refl _) _).setCell (Nat.le_refl _) _⟩
          case measure => simp [intOf]; omega
        · have hkn : ns = k := by omega
          subst hkn
          have HQ : Hid (TokSlice wr (some ⟨W2.heap.size, 0, none⟩) m qs) := by
            have e : np + 1 + ns = m := Hm.out.symm
            rw [e] at f1
            exact ⟨Hql.out, fun _ => ⟨_, 0, rfl, f1.row (by have := Hql.out; omega) Hqz.out⟩⟩
          have HSr : Hid (TokSlice wr bo ns ss) := HS2.out.below hbr (Nat.le_refl _)
          have HPr : Hid (TokSlice wr ao np ps) := HP2.out.below hbr (Nat.le_refl _)
          have HRr : Hid (TokRow wr gi 0 [tI]) := HRI.out.below hbr hgi
          have hBr : Below wx.heap.size wx wr := hB2.trans (hbr.mono hB2.size)
          have hgr : gi < wr.heap.size := HRr.out.lt
          obtain ⟨W4, rfl⟩ : ∃ x, x = wr := ⟨_, rfl⟩
          clear f1 G1 hbr HP2 HS2 HRI hB2
          go_wp2_with (at_make; refine wpList_make_full _ rfl (.tmp 86) (.tmp 86) 22 rfl W4.heap.size 28 i28 (.agg #[.int .i64 0, .string (ByteArray.mk #[]), .int .i64 0]) 3 Try.underlying22 I28.out.1 I28.out.2.1 I28.out.2.2.1 .i64 .i64 _ _ (1 + ns) rfl rfl (by omega) (by omega) Bb.out Mb.out (Nat.le_refl _) ?_; intro w5 o5 g5; have F5 := FillT.start (ts := bs) o5; have y1 := F5.free 0; have y2 := F5.free 1; have y3 := F5.free 2; obtain ⟨x1, hx1⟩ := F5.old (j := 0) (by omega); obtain ⟨x2, hx2⟩ := F5.old (j := 1) (by omega); obtain ⟨x3, hx3⟩ := F5.old (j := 2) (by omega); have hB5 : Below W4.heap.size W4 w5 := Below.grown (Below.refl _ _) g5 (Nat.le_refl _) (by simp); have hrI := HRr.out.below hB5 hgr; have h0 := hrI.c0 0 tI rfl; have h1 := hrI.c1 0 tI rfl; have h2 := hrI.c2 0 tI rfl; rw [Nat.zero_mul, Nat.add_zero] at h0 h1 h2; clear hrI o5 g5)
          have G5 : Hid (FillT (((w5.setCell ⟨W4.heap.size, 0, none⟩ (.int .i64 tI.kind)).setCell ⟨W4.heap.size, 1, none⟩ (.string tI.text)).setCell ⟨W4.heap.size, 2, none⟩ (.int .i64 tI.line)) W4.heap.size 28 (1 + ns) (1 + 0) bs) := F5.put Hb2.out (by omega)
          have hB6 : Below W4.heap.size W4 (((w5.setCell ⟨W4.heap.size, 0, none⟩ (.int .i64 tI.kind)).setCell ⟨W4.heap.size, 1, none⟩ (.string tI.text)).setCell ⟨W4.heap.size, 2, none⟩ (.int .i64 tI.line)) := ((hB5.setCell (Nat.le_refl _) _).setCell (Nat.le_refl _) _).setCell (Nat.le_refl _) _
          go_loopw [11] (fun i wr => CopyRel W4.heap.size (1 + ns) ns 1 bs W4 i wr) (fun i _ => ns - (intOf i).toNat)
          case atStart => exact ⟨0, Nat.zero_le _, rfl, G5.out, hB6⟩
          case round =>
            clear h0 h1 h2 hx1 hx2 hx3 y1 y2 y3 F5 G5 hB5 hB6
            obtain ⟨k, hk, rfl, f1, hbr⟩ := hrel
            have G1 : Hid (FillT wr W4.heap.size 28 (1 + ns) (1 + k) bs) := f1
            by_cases hlt : k < ns
            · obtain ⟨bp, off, rfl, hr0⟩ := HSr.out.row (by omega)
              obtain ⟨t, ht⟩ := getTk HS.out.len hlt
              have hr := hr0.below hbr hr0.lt
              have h0 := hr.c0 k t ht
              have h1 := hr.c1 k t ht
              have h2 := hr.c2 k t ht
              have hbp := hr0.lt
              have e3 : bp ≠ W4.heap.size := by omega
              have e4 : W4.heap.size ≠ bp := by omega
              obtain ⟨x1, hx1⟩ := f1.old (j := (1 + k) * 3) (by omega)
              obtain ⟨x2, hx2⟩ := f1.old (j := (1 + k) * 3 + 1) (by omega)
              obtain ⟨x3, hx3⟩ := f1.old (j := (1 + k) * 3 + 2) (by omega)
              have y1 := f1.free ((1 + k) * 3)
              have y2 := f1.free ((1 + k) * 3 + 1)
              have y3 := f1.free ((1 + k) * 3 + 2)
              have Ht : Hid (bs[1 + k]? = some t) := Hb3.out k t ht
              clear f1 ht hr hr0
              have hi : (k : Int) < (ns : Int) := by omega
              have hi2 : 1 + (k : Int) < 1 + (ns : Int) := by omega
              go_wp2_with fail
              go_roundw
              case rel => exact ⟨k + 1, by omega, by go_num, G1.out.put Ht.out (by omega), ((hbr.setCell (Nat.le_refl _) _).setCell (Nat.le_refl _) _).setCell (Nat.le_refl _) _⟩
              case measure => simp [intOf]; omega
            · have hkn : ns = k := by omega
              subst hkn
              have HB : Hid (TokSlice wr (some ⟨W4.heap.size, 0, none⟩) (1 + ns) bs) := ⟨Hbl.out, fun _ => ⟨_, 0, rfl, f1.row (by have := Hbl.out; omega) Hbz.out⟩⟩
              have HQr : Hid (TokSlice wr (some ⟨W2.heap.size, 0, none⟩) m qs) := HQ.out.below hbr (Nat.le_refl _)
              have HPw : Hid (TokSlice wr ao np ps) := HPr.out.below hbr (Nat.le_refl _)
              have HSw : Hid (TokSlice wr bo ns ss) := HSr.out.below hbr (Nat.le_refl _)
              have hBw : Below wx.heap.size wx wr := hBr.trans (hbr.mono hBr.size)
              clear f1 G1 hbr HQ HPr HSr HRr hBr Bb Mb I28
              go_wp2_with fail
              refine (split_any _ m m qs _ HQr.out hm1).mono ?_
              rintro e w6 ⟨a1, b1, c1, rfl, hc6, hb6⟩
              have HC6 : Hid (Cols w6 a1 b1 c1 qs) := hc6
              have HB6 : Hid (TokSlice w6 (some ⟨W4.heap.size, 0, none⟩) (1 + ns) bs) := HB.out.below hb6 (Nat.le_refl _)
              have HP6 : Hid (TokSlice w6 ao np ps) := HPw.out.below hb6 (Nat.le_refl _)
              have HS6 : Hid (TokSlice w6 bo ns ss) := HSw.out.below hb6 (Nat.le_refl _)
              have hB6 : Below wx.heap.size wx w6 := hBw.trans (hb6.mono hBw.size)
              clear hc6 hb6 HB HQr HPw HSw hBw
              go_wp2_with fail
              refine (zz_any a1 b1 c1 m qs _ HC6.out Hql.out Hqz.out hm1).mono ?_
              rintro e w7 ⟨a2, b2, c2, m2, rfl, hm2, hc7, hb7⟩
              have HC7 : Hid (Cols w7 a2 b2 c2 (cut qs)) := hc7
              have HB7 : Hid (TokSlice w7 (some ⟨W4.heap.size, 0, none⟩) (1 + ns) bs) := HB6.out.below hb7 (Nat.le_refl _)
              have HP7 : Hid (TokSlice w7 ao np ps) := HP6.out.below hb7 (Nat.le_refl _)
              have HS7 : Hid (TokSlice w7 bo ns ss) := HS6.out.below hb7 (Nat.le_refl _)
              have hB7 : Below wx.heap.size wx w7 := hB6.trans (hb7.mono hB6.size)
              have Hm2 : Hid ((cut qs).length = m2) := hm2
              clear hc7 hb7 HC6 HB6 HP6 HS6 hB6 hm2
              go_wp2_with fail
              refine (split_any _ (1 + ns) (1 + ns) bs _ HB7.out (by omega)).mono ?_
              rintro e w8 ⟨a3, b3, c3, rfl, hc8, hb8⟩
              have HC8 : Hid (Cols w8 a3 b3 c3 bs) := hc8
              have HQ8 : Hid (Cols w8 a2 b2 c2 (cut qs)) := HC7.out.below hb8 (Nat.le_refl _)
              have HP8 : Hid (TokSlice w8 ao np ps) := HP7.out.below hb8 (Nat.le_refl _)
              have HS8 : Hid (TokSlice w8 bo ns ss) := HS7.out.below hb8 (Nat.le_refl _)
              have hB8 : Below wx.heap.size wx w8 := hB7.trans (hb8.mono hB7.size)
              clear hc8 hb8 HC7 HB7 HP7 HS7 hB7
              go_wp2_with fail
              refine (zz_any a3 b3 c3 (1 + ns) bs _ HC8.out Hbl.out Hbz.out (by omega)).mono ?_
              rintro e w9 ⟨a4, b4, c4, m4, rfl, hm4, hc9, hb9⟩
              have HC9 : Hid (Cols w9 a4 b4 c4 (cut bs)) := hc9
              have HQ9 : Hid (Cols w9 a2 b2 c2 (cut qs)) := HQ8.out.below hb9 (Nat.le_refl _)
              have HP9 : Hid (TokSlice w9 ao np ps) := HP8.out.below hb9 (Nat.le_refl _)
              have HS9 : Hid (TokSlice w9 bo ns ss) := HS8.out.below hb9 (Nat.le_refl _)
              have hB9 : Below wx.heap.size wx w9 := hB8.trans (hb9.mono hB8.size)
              have Hm4 : Hid ((cut bs).length = m4) := hm4
              have hmm : m2 = np + m4 := by
                have h1 := Hm2.out; have h2 := HP.out.len
                rw [Hcut.out, List.length_append, hm4, h2] at h1; omega
              have hm4n : m4 ≤ ns := by
                have h1 := cut_head_len (t := tI) (s := ss) tI_into
                rw [← Hbs.out, hm4, HS.out.len] at h1; exact h1
              subst hmm
              clear hc9 hb9 HC8 HQ8 HP8 HS8 hB8 hm4
              have hi1 : (np : Int) ≤ (np : Int) + (m4 : Int) := by omega
              have HQT : Hid (Cols w9 a2 b2 c2 ps) := by
                have h1 := HQ9.out.take np
                have h2 := HP.out.len
                rw [Hcut.out, ← h2, List.take_left] at h1
                exact h1
              go_wp2_with fail
              go_region_held3 (fun _ => True) (trivial) ((go_at_call 11; refine (same_any a2 b2 c2 np (np + m4) (np + m4) (np + m4) c ao ps _ ?_ ?_ hn).mono ?_; (first | exact HQT.out | exact HQT.out.below (Below.refl _ _).drew (Nat.le_refl _)); (first | exact HP9.out | exact HP9.out.below (Below.refl _ _).drew (Nat.le_refl _)); rintro e w10 ⟨rfl, hb10⟩))
              have hbT : Below w9.heap.size w9 w10 := by first | exact hb10 | exact below_undrew hb10
              have HC10 : Hid (Cols w10 a4 b4 c4 (cut bs)) := HC9.out.below hbT (Nat.le_refl _)
              have HQ10 : Hid (Cols w10 a2 b2 c2 (cut qs)) := HQ9.out.below hbT (Nat.le_refl _)
              have HS10 : Hid (TokSlice w10 bo ns ss) := HS9.out.below hbT (Nat.le_refl _)
              have hB10 : Below wx.heap.size wx w10 := hB9.trans (hbT.mono hB9.size)
              have Hat : Hid (∀ k t, (cut bs)[k]? = some t → (cut qs)[np + k]? = some t) := by
                intro k t ht
                have hl := HP.out.len
                rw [Hcut.out, List.getElem?_append_right (by omega), hl, show np + k - np = k by omega]
                exact ht
              clear hbT hb10 HQT HC9 HQ9 HP9 HS9 hB9
              go_wp2_with fail
              go_loopw [24] (fun i wr => SameRel m4 w10 i wr) (fun i _ => m4 - (intOf i).toNat)
              case atStart => exact ⟨0, Nat.zero_le _, rfl, Below.refl _ _⟩
              case round =>
                obtain ⟨k, hk, rfl, hbr⟩ := hrel
                by_cases hlt : k < m4
                · obtain ⟨t, ht⟩ := getTk Hm4.out hlt
                  have CB := HC10.out.below hbr (Nat.le_refl _)
                  have CQ := HQ10.out.below hbr (Nat.le_refl _)
                  have h0 := CB.ka k t ht
                  have h1 := CB.kb k t ht
                  have h2 := CB.kc k t ht
                  have htq := Hat.out k t ht
                  have g0 := CQ.ka (np + k) t htq
                  have g1 := CQ.kb (np + k) t htq
                  have g2 := CQ.kc (np + k) t htq
                  clear ht htq CB CQ
                  have hi0 : (0 : Int) ≤ (k : Int) := by omega
                  have hi : (k : Int) < (m4 : Int) := by omega
                  have hi2 : (0 : Int) ≤ (np : Int) + (k : Int) := by omega
                  have hi3 : (np : Int) + (k : Int) < (np : Int) + (m4 : Int) := by omega
                  go_wp2_with fail
                  go_quiet (fail)
                  go_wp2_with fail
                  go_roundw
                  case rel => exact ⟨k + 1, by omega, by go_num, below_drewN hbr _⟩
                  case measure => simp [intOf]; omega
                · have HSr : Hid (TokSlice wr bo ns ss) := HS10.out.below hbr (Nat.le_refl _)
                  have hBr : Below wx.heap.size wx wr := hB10.trans (hbr.mono hB10.size)
                  have hmq := Hm.out
                  have hx1 : (np : Int) + (m4 : Int) < (m : Int) := by omega
                  have Hmq : Hid (m = np + 1 + ns) := hmq
                  clear hmq hbr
                  by_cases hs0 : ns = 0
                  · have hm40 : m4 = 0 := by omega
                    subst hm40
                    have hmn : ((m : Int) - 1) = (np : Int) := by have := Hmq.out; omega
                    subst hs0
                    go_wp2_with fail
                    go_ret
                    exact ⟨rfl, hBr⟩
                  · have hs0b : ((ns : Int) == 0) = false := beq_eq_false_iff_ne.2 (by omega)
                    obtain ⟨bp, off, rfl, hr⟩ := HSr.out.row (by omega)
                    obtain ⟨t, ht⟩ := getTk HS.out.len (show 0 < ns by omega)
                    have h0 := hr.c0 0 t ht
                    have h1 := hr.c1 0 t ht
                    have h2 := hr.c2 0 t ht
                    rw [Nat.zero_mul, Nat.add_zero] at h0 h1 h2
                    obtain ⟨bn, hbn⟩ : ∃ bn, namePart t = bn := ⟨_, rfl⟩
                    have Hn : Hid (namePart t = bn) := hbn
                    have Ht : Hid (ss[0]? = some t) := ht
                    have hi : (0 : Int) < (ns : Int) := by omega
                    clear ht hbn hr
                    go_wp2_with fail
                    refine (namePart_is t bn _ Hn.out).mono ?_
                    rintro e w11 ⟨rfl, hb11⟩
                    have hB11 : Below wx.heap.size wx w11 := hBr.trans (hb11.mono hBr.size)
                    clear hb11
                    cases bn
                    · have hm4s : m4 = ns := by
                        have h1 := cut_head_none (t := tI) (s := ss) tI_into (by rw [tokAt_some Ht.out]; exact Hn.out)
                        rw [← Hbs.out, Hm4.out, HS.out.len] at h1; exact h1
                      have hmn : ((m : Int) - 1) = (np : Int) + (m4 : Int) := by have := Hmq.out; omega
                      clear hm4s
                      go_wp2_with fail
                      go_ret
                      exact ⟨rfl, hB11⟩
                    · go_wp2_with fail
                      go_ret
                      exact ⟨rfl, hB11⟩
end Go.Proofs.Qxb6615028a
