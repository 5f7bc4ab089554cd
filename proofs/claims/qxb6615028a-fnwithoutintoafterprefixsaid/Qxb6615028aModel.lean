/-
  The walk of FnWithoutIntoModel.
-/
import Derived.Test.Qxb6615028aSame
import Derived.Test.Qxb6615028aClause
namespace Go.Proofs.Qxb6615028a
open Go.ChangeShapes Go.WideShapes Go.ChangeAt Go.RowKit
set_option linter.unusedVariables false

/-- 'want' holds the tokens that are left. -/
def WantCut (ts : List Tk) (w : World) (v : Value) (w1 : World) : Prop := ∃ ao m c, v = .slice ao m c ∧ TokSlice w1 ao m (cut ts) ∧ Below w.heap.size w w1

theorem TokSlice.sz {w : World} {ao : Option Addr} {n : Nat} {ts : List Tk} (h : TokSlice w ao n ts) : ∀ t ∈ ts, t.text.size ≤ maxLen := by
  intro t ht
  have hl := h.len
  by_cases hn : 0 < n
  · obtain ⟨b, off, _, hr⟩ := h.row hn
    exact hr.sz t ht
  · have : ts = [] := List.eq_nil_of_length_eq_zero (by omega)
    subst this
    cases ht

def WantA (g m st : Nat) (us : List Tk) (w : World) (i : Value) (wr : World) : Prop := ∃ k : Nat, k ≤ st ∧ i = .int .i64 k ∧ FillT wr g 28 m k us ∧ Below w.heap.size w wr
def WantB (g m n st F : Nat) (us : List Tk) (w : World) (i : Value) (wr : World) : Prop := ∃ q : Nat, F + q ≤ n ∧ i = .int .i64 (F + q : Nat) ∧ FillT wr g 28 m (st + q) us ∧ Below w.heap.size w wr

def LawPost (w : World) (e : Ending) (w' : World) : Prop := e = .returned (.bool true) ∧ Below w.heap.size w w'

set_option maxHeartbeats 4000000 in
theorem model_walk (ao : Option Addr) (n c : Nat) (ts : List Tk) (w : World) (hs : TokSlice w ao n ts) (hn : n ≤ maxLen) :
    Calls Try.prog 3 #[.slice ao n c] w (LawPost w) := by
  have HS : Hid (TokSlice w ao n ts) := hs
  have HN : Hid (n ≤ maxLen) := hn
  clear hs hn
  go_enter Try.func3, Try.ntmps3
  go_wp2_with fail
  refine (bytes_any ao n c ts _ HS.out HN.out).mono ?_
  rintro e w1 ⟨b, rfl, hb, rfl⟩
  cases b
  · clear hb
    go_wp2_with fail
    go_ret
    exact ⟨rfl, Below.refl _ _⟩
  have hn := hb rfl
  clear hb
  go_wp2_with fail
  refine (spend_any ao n c ts 1048576 _ HS.out hn (by omega) (by omega)).mono ?_
  rintro e w2 ⟨r, rfl, ⟨hr0, hr1⟩, rfl⟩
  by_cases hr : r < 0
  · go_wp2_with fail
    go_ret
    exact ⟨rfl, Below.refl _ _⟩
  go_wp2_with fail
  refine (clause_any ao n c ts _ HS.out hn).mono ?_
  rintro e w3 ⟨he, hb3⟩
  obtain ⟨S, hS⟩ : ∃ S, cStart ts = S := ⟨_, rfl⟩
  obtain ⟨E, hE⟩ : ∃ E, cEnd ts = E := ⟨_, rfl⟩
  rw [hS, hE] at he
  subst he
  have CS : Hid (cStart ts = S) := hS
  have CE : Hid (cEnd ts = E) := hE
  have HS3 : Hid (TokSlice w3 ao n ts) := HS.out.below hb3 (Nat.le_refl _)
  clear hS hE hr hr0 hr1
  go_upto_if 27 with fail
  go_cut [5] (fun v w1 => WantCut ts w2 v w1)
  case first =>
    rcases hf : fsF ts 0 0 with _ | st
    · have hS : S = -1 := by rw [← CS.out]; simp [cStart, hf]
      have HE : Hid (cut ts = ts) := cut_none hf
      subst hS
      clear hf
      go_wp2_with fail
      go_meet
      case rel => exact ⟨_, _, _, rfl, by rw [HE.out]; exact HS3.out, hb3⟩
    · have hS : S = (st : Int) := by rw [← CS.out]; simp [cStart, hf]
      have hE : E = (clauseEnd ts st : Nat) := by rw [← CE.out]; simp [cEnd, hf]
      have HE : Hid (cut ts = ts.take st ++ ts.drop (clauseEnd ts st)) := cut_some hf
      have hst := fsF_lt hf
      have hce := clauseEnd_le hst.2
      have hstn : st < n := by have := HS.out.len; omega
      have hc1 : st + 1 ≤ clauseEnd ts st := hce.1
      have hc2 : clauseEnd ts st ≤ n := by have := HS.out.len; omega
      clear hf hst hce
      generalize clauseEnd ts st = F at hE HE hc1 hc2
      subst hS
      subst hE
      clear CS CE
      obtain ⟨m, hm⟩ : ∃ m, m = st + (n - F) := ⟨_, rfl⟩
      have hm0 : (st : Int) + (n : Int) - (F : Int) = (m : Int) := by omega
      have hmn : m ≤ 1048576 := by omega
      have Hm : Hid (m = st + (n - F)) := hm
      clear hm
      obtain ⟨b, off, rfl, hr0⟩ := HS3.out.row (by omega)
      have HR : Hid (TokRow w3 b off ts) := hr0
      have hbw := hr0.lt
      have Hlo : Hid (∀ k t, k < st → ts[k]? = some t → (cut ts)[k]? = some t) := by
        intro k t hk ht
        rw [HE.out, List.getElem?_append_left (by have := (List.getElem?_eq_some_iff.1 ht).1; simp; omega), List.getElem?_take, if_pos hk]
        exact ht
      have Hhi : Hid (∀ q t, ts[F + q]? = some t → (cut ts)[st + q]? = some t) := by
        intro q t ht
        have hl := HS.out.len
        rw [HE.out, List.getElem?_append_right (by simp; omega), List.getElem?_drop]
        have : st + q - (ts.take st).length = q := by simp; omega
        rw [this]
        exact ht
      have Hcl : Hid ((cut ts).length = m) := by
        have hl := HS.out.len
        unfold Hid; rw [HE.out, Hm.out]; simp; omega
      clear hr0
      obtain ⟨i28, hi, hz0, hz1, hz2⟩ := info_parts Try.info28
      have I28 : Hid (Try.prog.info? 28 = some i28 ∧ i28.zero = some (.agg #[.int .i64 0, .string (ByteArray.mk #[]), .int .i64 0]) ∧ i28.size = 3 ∧ i28.bytes = 32) := ⟨hi, hz0, hz1, hz2⟩
      clear hi hz0 hz1 hz2
      have B28 : Hid (i28.bytes * m ≤ 281474976710656) := by unfold Hid; rw [I28.out.2.2.2]; omega
      have BM : Hid (m ≤ maxLen) := by unfold Hid maxLen; omega
      go_wp2_with (at_make; refine wpList_make_full _ rfl (.tmp 33) (.tmp 33) 22 rfl w3.heap.size 28 i28 (.agg #[.int .i64 0, .string (ByteArray.mk #[]), .int .i64 0]) 3 Try.underlying22 I28.out.1 I28.out.2.1 I28.out.2.2.1 .i64 .i64 _ _ m rfl rfl (by omega) (by omega) B28.out BM.out (Nat.le_refl _) ?_; intro w4 o4 g4)
      have F4 : Hid (FillT w4 w3.heap.size 28 m 0 (cut ts)) := FillT.start o4
      have hB4 : Below w3.heap.size w3 w4 := (Below.refl _ _).grown g4 (Nat.le_refl _) (by simp)
      clear o4 g4 B28 BM I28
      have e1 : b ≠ w3.heap.size := by omega
      have e2 : w3.heap.size ≠ b := by omega
      go_loopw [6] (fun i wr => WantA w3.heap.size m st (cut ts) w3 i wr) (fun i _ => st - (intOf i).toNat)
      case atStart => exact ⟨0, Nat.zero_le _, rfl, F4.out, hB4⟩
      case round =>
        obtain ⟨k, hk, rfl, f1, hbr⟩ := hrel
        have G1 : Hid (FillT wr w3.heap.size 28 m k (cut ts)) := f1
        by_cases hlt : k < st
        · obtain ⟨t, ht⟩ := getTk HS.out.len (show k < n by omega)
          have hr := HR.out.below hbr hbw
          have h0 := hr.c0 k t ht
          have h1 := hr.c1 k t ht
          have h2 := hr.c2 k t ht
          have hkm : k < m := by have := Hm.out; omega
          obtain ⟨x1, hx1⟩ := f1.old (j := k * 3) (by omega)
          obtain ⟨x2, hx2⟩ := f1.old (j := k * 3 + 1) (by omega)
          obtain ⟨x3, hx3⟩ := f1.old (j := k * 3 + 2) (by omega)
          have y1 := f1.free (k * 3)
          have y2 := f1.free (k * 3 + 1)
          have y3 := f1.free (k * 3 + 2)
          have Ht : Hid ((cut ts)[k]? = some t) := Hlo.out k t hlt ht
          clear f1 ht hr
          have hi : (k : Int) < (n : Int) := by omega
          have hi2 : (k : Int) < (m : Int) := by omega
          go_wp2_with fail
          go_roundw
          case rel => exact ⟨k + 1, by omega, by go_num, G1.out.put Ht.out hkm, ((hbr.setCell (Nat.le_refl _) _).setCell (Nat.le_refl _) _).setCell (Nat.le_refl _) _⟩
          case measure => simp [intOf]; omega
        · have hks : k = st := by omega
          subst hks
          clear f1
          go_wp2_with fail
          go_loopw [7] (fun i wr => WantB w3.heap.size m n k F (cut ts) w3 i wr) (fun i _ => n - (intOf i).toNat)
          case atStart => exact ⟨0, hc2, rfl, G1.out, hbr⟩
          case round =>
            obtain ⟨q, hq, rfl, f1, hbr⟩ := hrel
            have G2 : Hid (FillT wr w3.heap.size 28 m (k + q) (cut ts)) := f1
            by_cases hlt : F + q < n
            · obtain ⟨t, ht⟩ := getTk HS.out.len hlt
              have hr := HR.out.below hbr hbw
              have h0 := hr.c0 (F + q) t ht
              have h1 := hr.c1 (F + q) t ht
              have h2 := hr.c2 (F + q) t ht
              have hkm : k + q < m := by have := Hm.out; omega
              obtain ⟨x1, hx1⟩ := f1.old (j := (k + q) * 3) (by omega)
              obtain ⟨x2, hx2⟩ := f1.old (j := (k + q) * 3 + 1) (by omega)
              obtain ⟨x3, hx3⟩ := f1.old (j := (k + q) * 3 + 2) (by omega)
              have y1 := f1.free ((k + q) * 3)
              have y2 := f1.free ((k + q) * 3 + 1)
              have y3 := f1.free ((k + q) * 3 + 2)
              have Ht : Hid ((cut ts)[k + q]? = some t) := Hhi.out q t ht
              clear f1 ht hr
              have hidx : (k : Int) + ((F : Int) + (q : Int)) - (F : Int) = ((k + q : Nat) : Int) := by omega
              have hi : (F : Int) + (q : Int) < (n : Int) := by omega
              have hi2 : ((k + q : Nat) : Int) < (m : Int) := by omega
              go_wp2_with fail
              go_roundw
              case rel => exact ⟨q + 1, by omega, by go_num, G2.out.put Ht.out hkm, ((hbr.setCell (Nat.le_refl _) _).setCell (Nat.le_refl _) _).setCell (Nat.le_refl _) _⟩
              case measure => simp [intOf]; omega
            · have hqm : k + q = m := by have := Hm.out; omega
              have hT : TokSlice wr (some ⟨w3.heap.size, 0, none⟩) m (cut ts) := by
                rw [hqm] at f1
                refine ⟨Hcl.out, fun _ => ⟨_, 0, rfl, f1.row (by have := Hcl.out; omega) ?_⟩⟩
                intro t ht
                rw [HE.out] at ht
                rcases List.mem_append.1 ht with h | h
                · exact HR.out.sz t (List.mem_of_mem_take h)
                · exact HR.out.sz t (List.mem_of_mem_drop h)
              have HT : Hid (TokSlice wr (some ⟨w3.heap.size, 0, none⟩) m (cut ts)) := hT
              have hBB : Below w2.heap.size w2 wr := hb3.trans (hbr.mono hb3.size)
              clear f1 hT hqm
              go_wp2_with fail
              go_meet
              case rel => exact ⟨_, _, _, rfl, HT.out, hBB⟩
  case rest =>
    obtain ⟨aw, m, cw, rfl, hw, hbc⟩ := hcut
    have HW : Hid (TokSlice wc aw m (cut ts)) := hw
    have HSc : Hid (TokSlice wc ao n ts) := HS.out.below hbc (Nat.le_refl _)
    have hm : m ≤ 1048576 := by have h1 := cut_len ts; have h2 := hw.len; have h3 := HS.out.len; omega
    clear hw HS3 hb3
    go_wp2_with fail
    refine (split_any ao n c ts _ HSc.out hn).mono ?_
    rintro e w4 ⟨a1, b1, c1, rfl, hc4, hb4⟩
    have HC4 : Hid (Cols w4 a1 b1 c1 ts) := hc4
    have HW4 : Hid (TokSlice w4 aw m (cut ts)) := HW.out.below hb4 (Nat.le_refl _)
    have hB4 : Below w2.heap.size w2 w4 := hbc.trans (hb4.mono hbc.size)
    clear hc4 hb4 hbc HW
    go_wp2_with fail
    refine (zz_any a1 b1 c1 n ts _ HC4.out HS.out.len HS.out.sz hn).mono ?_
    rintro e w5 ⟨a2, b2, c2, m2, rfl, hm2, hc5, hb5⟩
    have hmm : m2 = m := by have := HW4.out.len; omega
    subst hmm
    have HC5 : Hid (Cols w5 a2 b2 c2 (cut ts)) := hc5
    have HW5 : Hid (TokSlice w5 aw m2 (cut ts)) := HW4.out.below hb5 (Nat.le_refl _)
    have hB5 : Below w2.heap.size w2 w5 := hB4.trans (hb5.mono hB4.size)
    clear hc5 hb5 hB4 HW4 hm2 HC4
    go_wp2_with fail
    refine (same_any a2 b2 c2 m2 m2 m2 m2 cw aw (cut ts) _ HC5.out HW5.out hm).mono ?_
    rintro e w6 ⟨rfl, hb6⟩
    have hB6 : Below w2.heap.size w2 w6 := hB5.trans (hb6.mono hB5.size)
    clear hb6 hB5
    go_wp2_with fail
    go_ret
    exact ⟨rfl, hB6⟩
end Go.Proofs.Qxb6615028a
