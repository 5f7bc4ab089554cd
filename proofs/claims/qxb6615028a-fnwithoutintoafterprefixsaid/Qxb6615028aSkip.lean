/-
  The cursor: skip().
-/
import Derived.Test.Qxb6615028aName
import Derived.BigRegion
namespace Go.Proofs.Qxb6615028a
open Go.ChangeShapes Go.WideShapes Go.ChangeAt Go.RowKit
set_option linter.unusedVariables false
attribute [local go_sem ↓] Go.wp_at_zero Go.wp_at_succ

/-- Where skip() leaves the cursor: farther on; the scan is as it was. -/
def SkipPost (cb b n pos : Nat) (ts : List Tk) (t : Tk) (w : World) (e : Ending) (w' : World) : Prop := ∃ v p, e = .returned v ∧ pos < p ∧ Step cb b n ts p w w' ∧ ((isW t cInto && !afterVerb ts pos) = false → fsF ts 0 pos = fsF ts 0 p)
theorem SkipPost.mk {cb b n pos p : Nat} {ts : List Tk} {t : Tk} {w w' : World} {v : Value} (hp : pos < p) (hs : Step cb b n ts p w w') (hf : (isW t cInto && !afterVerb ts pos) = false → fsF ts 0 pos = fsF ts 0 p) : SkipPost cb b n pos ts t w (.returned v) w' := ⟨v, p, rfl, hp, hs, hf⟩

set_option maxHeartbeats 2000000 in
theorem skip_one (cb b n pos : Nat) (ts : List Tk) (t : Tk) (w : World) (h : Cur w cb b n ts pos) (ht : ts[pos]? = some t) (ho : opener t = false) :
    Calls Try.prog 24 #[.pointer (some ⟨cb, 0, none⟩)] w (SkipPost cb b n pos ts t w) := by
  have H : Hid (Cur w cb b n ts pos) := h
  have hsm := h.small
  have hlt : pos < n := by have := (List.getElem?_eq_some_iff.1 ht).1; have := h.len; omega
  have Ht : Hid (ts[pos]? = some t) := ht
  have Ho : Hid (opener t = false) := ho
  have HF : Hid ((isW t cInto && !afterVerb ts pos) = false → fsF ts 0 pos = fsF ts 0 (pos + 1)) := fun hno => fsF_other ht (by simpa using hno) ho (by simp)
  clear h ht ho
  go_enter Try.func24, Try.ntmps24
  go_wp2_with fail
  refine (peek_any cb b n pos ts t _ H.out (tokAt_some Ht.out)).mono ?_
  rintro e w1 ⟨rfl, hb1⟩
  go_wp2_with fail
  refine (opens_is t false _ Ho.out).mono ?_
  rintro e w2 ⟨rfl, hb2⟩
  have C2 := (H.out.below hb1).below hb2
  have HC : Hid (Cur w2 cb b n ts pos) := C2
  have hB : Below w.heap.size w w2 := hb1.trans (hb2.mono hb1.size)
  have k0 := C2.k0
  have k1 := C2.k1
  have f1 := C2.f1
  clear C2 hb1 hb2
  go_wp2_with fail
  go_region
  all_goals go_wp2
  go_ret
  exact SkipPost.mk (by omega) ⟨(HC.out.put (p := pos + 1) (by omega) _ (by go_num)).below (Below.refl _ _).drew, grow_trans (grow_trans (grow_below hB) (grow_set _ _ _ _)) (grow_below (Below.refl _ _).drew)⟩ HF.out

/-- The loop's relation: ghost g: what is left. -/
def SkipRel (cb b n pos : Nat) (ts : List Tk) (w : World) (g : Nat) (dv : Value) (wr : World) : Prop := ∃ p d : Nat, Cur wr cb b n ts p ∧ g = n - p ∧ w.grownBy wr (some cb) ∧ dv = .int .i64 d ∧ d ≤ p ∧
  ((p = pos ∧ d = 0) ∨ (pos < p ∧ 1 ≤ d ∧ fsF ts d p = fsF ts 1 (pos + 1)))

set_option maxHeartbeats 4000000 in
theorem skip_many (cb b n pos : Nat) (ts : List Tk) (t : Tk) (w : World) (h : Cur w cb b n ts pos) (ht : ts[pos]? = some t) (ho : opener t = true) :
    Calls Try.prog 24 #[.pointer (some ⟨cb, 0, none⟩)] w (SkipPost cb b n pos ts t w) := by
  have H : Hid (Cur w cb b n ts pos) := h
  have hsm := h.small
  have hlt : pos < n := by have := (List.getElem?_eq_some_iff.1 ht).1; have := h.len; omega
  have Hlen : Hid (ts.length = n) := h.len
  have Ht : Hid (ts[pos]? = some t) := ht
  have Ho : Hid (opener t = true) := ho
  have HF : Hid ((isW t cInto && !afterVerb ts pos) = false → fsF ts 0 pos = fsF ts 1 (pos + 1)) := fun hno => fsF_open ht (by simpa using hno) ho
  clear h ht ho
  go_enter Try.func24, Try.ntmps24
  go_wp2_with fail
  refine (peek_any cb b n pos ts t _ H.out (tokAt_some Ht.out)).mono ?_
  rintro e w1 ⟨rfl, hb1⟩
  go_wp2_with fail
  refine (opens_is t true _ Ho.out).mono ?_
  rintro e w2 ⟨rfl, hb2⟩
  have C2 := (H.out.below hb1).below hb2
  have HC : Hid (Cur w2 cb b n ts pos) := C2
  have hB : Below w.heap.size w w2 := hb1.trans (hb2.mono hb1.size)
  have k0 := C2.k0
  have k1 := C2.k1
  clear C2 hb1 hb2
  go_wp2_with fail
  go_loopg [4] (n - pos) (fun g dv wr => SkipRel cb b n pos ts w g dv wr)
  case atStart => exact ⟨pos, 0, HC.out, rfl, grow_below hB, rfl, by omega, .inl ⟨rfl, rfl⟩⟩
  case round =>
    obtain ⟨p, d, C, hg, hgw, rfl, hdp, hst⟩ := hrel
    have hpn := C.le
    have HC2 : Hid (Cur wr cb b n ts p) := C
    have Hst : Hid ((p = pos ∧ d = 0) ∨ (pos < p ∧ 1 ≤ d ∧ fsF ts d p = fsF ts 1 (pos + 1))) := hst
    clear C hst HC hB k0 k1
    go_wp2_with fail
    by_cases hp : n ≤ p
    · refine (done_any cb b n p ts true _ HC2.out (by simpa using hp)).mono ?_
      rintro e wa ⟨rfl, ha⟩
      have CA := HC2.out.below ha
      have k0 := CA.k0
      have k1 := CA.k1
      have HCa : Hid (Cur wa cb b n ts p) := CA
      have hga : w.grownBy wa (some cb) := grow_trans hgw (grow_below ha)
      have HE : Hid ((isW t cInto && !afterVerb ts pos) = false → fsF ts 0 pos = fsF ts 0 p) := fun hno => by
        have hl := Hlen.out
        rw [HF.out hno, fsF_end (show ts.length ≤ p by omega)]
        rcases Hst.out with ⟨h1, _⟩ | ⟨_, _, h1⟩
        · omega
        · rw [← h1]; exact fsF_end (by omega)
      have hpp : pos < p := by omega
      have hi : (pos : Int) + 1 ≤ (n : Int) := by omega
      clear CA ha
      by_cases hq : n = pos + 1
      · subst hq
        go_wp2_with fail
        go_ret
        exact SkipPost.mk hpp ⟨HCa.out, hga⟩ HE.out
      · go_wp2_with fail
        go_ret
        exact SkipPost.mk hpp ⟨HCa.out, hga⟩ HE.out
    · obtain ⟨tp, htp⟩ := getTk Hlen.out (show p < n by omega)
      have Htp : Hid (ts[p]? = some tp) := htp
      obtain ⟨bo, hbo⟩ : ∃ bo, opener tp = bo := ⟨_, rfl⟩
      obtain ⟨b1, hb1⟩ : ∃ b1, isO tp [41] = b1 := ⟨_, rfl⟩
      obtain ⟨b2, hb2⟩ : ∃ b2, isO tp [93] = b2 := ⟨_, rfl⟩
      have Hbo : Hid (opener tp = bo) := hbo
      have H1 : Hid (isO tp [41] = b1) := hb1
      have H2 : Hid (isO tp [93] = b2) := hb2
      have Hcl : Hid (closer tp = (b1 || b2)) := by simp [Hid, closer, hb1, hb2]
      clear htp hbo hb1 hb2
      refine (done_any cb b n p ts false _ HC2.out (by simpa using hp)).mono ?_
      rintro e wa ⟨rfl, ha⟩
      have HCa : Hid (Cur wa cb b n ts p) := HC2.out.below ha
      have hga : w.grownBy wa (some cb) := grow_trans hgw (grow_below ha)
      clear ha hgw HC2
      go_wp2_with fail
      refine (peek_any cb b n p ts tp _ HCa.out (tokAt_some Htp.out)).mono ?_
      rintro e wb ⟨rfl, hb⟩
      have hA : Below wb.heap.size wb (wb.alloc (.cells #[.int .i64 tp.kind, .string tp.text, .int .i64 tp.line] 43)) := (Below.refl _ _).alloc (Nat.le_refl _) _
      have HCb : Hid (Cur (wb.alloc (.cells #[.int .i64 tp.kind, .string tp.text, .int .i64 tp.line] 43)) cb b n ts p) := (HCa.out.below hb).below hA
      have hgb : w.grownBy (wb.alloc (.cells #[.int .i64 tp.kind, .string tp.text, .int .i64 tp.line] 43)) (some cb) := grow_trans (grow_trans hga (grow_below hb)) (grow_below hA)
      clear hb hA hga HCa
      go_wp2_with fail
      refine (opens_is tp bo _ Hbo.out).mono ?_
      rintro e wc ⟨rfl, hc⟩
      have CC := HCb.out.below hc
      have hgc : w.grownBy wc (some cb) := grow_trans hgb (grow_below hc)
      have k1 := CC.k1
      have f1 := CC.f1
      have HCc : Hid (Cur wc cb b n ts p) := CC
      clear CC
      cases bo
      · have hpp : pos < p ∧ 1 ≤ d := by
          rcases Hst.out with ⟨rfl, _⟩ | ⟨h1, h2, _⟩
          · have h1 := Htp.out; have h2 := Ht.out; have h3 := Ho.out; have h4 := Hbo.out; rw [h1] at h2; cases h2; rw [h3] at h4; cases h4
          · exact ⟨h1, h2⟩
        obtain ⟨hpp, hd1⟩ := hpp
        have HS : Hid (fsF ts d p = fsF ts 1 (pos + 1)) := by rcases Hst.out with ⟨h, _⟩ | ⟨_, _, h⟩; omega; exact h
        obtain ⟨hc1, hf1⟩ := bcell hc
        have hgcs := hc.size
        obtain ⟨d, rfl⟩ : ∃ q, d = q + 1 := ⟨d - 1, by omega⟩
        clear Hst hc HCb hgb
        go_wp2_with fail
        refine (tIsOp_is tp _ _ b1 _ toL41 H1.out).mono ?_
        rintro e wd ⟨rfl, hd⟩
        cases b1
        · obtain ⟨hc2, hf2⟩ := bcell hd
          have HCd : Hid (Cur wd cb b n ts p) := HCc.out.below hd
          have hgd : w.grownBy wd (some cb) := grow_trans hgc (grow_below hd)
          have hzz : wb.heap.size < wc.heap.size := by have := hgcs; simp at this; omega
          clear hd k1 f1
          go_wp2_with fail
          refine (tIsOp_is tp _ _ b2 _ toL93 H2.out).mono ?_
          rintro e we ⟨rfl, he⟩
          clear hc1 hf1 hc2 hf2
          cases b2
          · have Hcl2 : Hid (closer tp = false) := Hcl.out
            have CE := HCd.out.below he
            have hge : w.grownBy we (some cb) := grow_trans hgd (grow_below he)
            have n1 := CE.k1
            have nf := CE.f1
            have HCe : Hid (Cur we cb b n ts p) := CE
            have HX : Hid (fsF ts (d + 1) (p + 1) = fsF ts 1 (pos + 1)) := by unfold Hid; rw [← HS.out]; exact (fsF_other Htp.out (by simp) Hbo.out (by simp [Hcl2.out])).symm
            clear CE he
            go_wp2_with fail
            go_roundg (n - (p + 1))
            case measure => omega
            case rel => exact ⟨p + 1, d + 1, HCe.out.put (by omega) _ (by go_num), rfl, grow_trans hge (grow_set _ _ _ _), by go_num, by omega, .inr ⟨by omega, by omega, HX.out⟩⟩
          · have Hcl2 : Hid (closer tp = true) := Hcl.out
            have CE := HCd.out.below he
            have hge : w.grownBy we (some cb) := grow_trans hgd (grow_below he)
            have n0 := CE.k0
            have n1 := CE.k1
            have nf := CE.f1
            have HCe : Hid (Cur we cb b n ts p) := CE
            clear CE he
            by_cases hd0 : d = 0
            · subst hd0
              have HX : Hid (fsF ts 1 p = fsF ts 0 (p + 1)) := fsF_close Htp.out (by omega) Hbo.out Hcl2.out
              have HE : Hid ((isW t cInto && !afterVerb ts pos) = false → fsF ts 0 pos = fsF ts 0 (p + 1)) := fun hno => by rw [HF.out hno, ← HS.out]; exact HX.out
              have i1 : (pos : Int) + 1 ≤ (p : Int) := by omega
              have i2 : (p : Int) ≤ (n : Int) := by omega
              go_wp2_with fail
              go_quiet (fail)
              all_goals go_wp2
              all_goals go_ret
              all_goals exact SkipPost.mk (by omega) ⟨(HCe.out.put (p := p + 1) (by omega) _ (by go_num)).below (below_drewN (Below.refl _ _) _), grow_trans (grow_trans hge (grow_set _ _ _ _)) (grow_below (below_drewN (Below.refl _ _) _))⟩ HE.out
            · have hdb : ((d : Int) == 0) = false := by simp; omega
              have HX : Hid (fsF ts d (p + 1) = fsF ts 1 (pos + 1)) := by unfold Hid; rw [← HS.out]; exact (fsF_close Htp.out (Nat.succ_pos d) Hbo.out Hcl2.out).symm
              go_wp2_with fail
              go_roundg (n - (p + 1))
              case measure => omega
              case rel => exact ⟨p + 1, d, HCe.out.put (by omega) _ (by go_num), rfl, grow_trans hge (grow_set _ _ _ _), by go_num, by omega, .inr ⟨by omega, by omega, HX.out⟩⟩
        · have Hcl2 : Hid (closer tp = true) := by have h := Hcl.out; unfold Hid; rw [h]; rfl
          clear hc1 hf1 k1 f1
          have CE := HCc.out.below hd
          have hge : w.grownBy wd (some cb) := grow_trans hgc (grow_below hd)
          have n0 := CE.k0
          have n1 := CE.k1
          have nf := CE.f1
          have HCe : Hid (Cur wd cb b n ts p) := CE
          clear CE hd
          by_cases hd0 : d = 0
          · subst hd0
            have HX : Hid (fsF ts 1 p = fsF ts 0 (p + 1)) := fsF_close Htp.out (by omega) Hbo.out Hcl2.out
            have HE : Hid ((isW t cInto && !afterVerb ts pos) = false → fsF ts 0 pos = fsF ts 0 (p + 1)) := fun hno => by rw [HF.out hno, ← HS.out]; exact HX.out
            have i1 : (pos : Int) + 1 ≤ (p : Int) := by omega
            have i2 : (p : Int) ≤ (n : Int) := by omega
            go_wp2_with fail
            go_quiet (fail)
            all_goals go_wp2
            all_goals go_ret
            all_goals exact SkipPost.mk (by omega) ⟨(HCe.out.put (p := p + 1) (by omega) _ (by go_num)).below (below_drewN (Below.refl _ _) _), grow_trans (grow_trans hge (grow_set _ _ _ _)) (grow_below (below_drewN (Below.refl _ _) _))⟩ HE.out
          · have hdb : ((d : Int) == 0) = false := by simp; omega
            have HX : Hid (fsF ts d (p + 1) = fsF ts 1 (pos + 1)) := by unfold Hid; rw [← HS.out]; exact (fsF_close Htp.out (Nat.succ_pos d) Hbo.out Hcl2.out).symm
            go_wp2_with fail
            go_roundg (n - (p + 1))
            case measure => omega
            case rel => exact ⟨p + 1, d, HCe.out.put (by omega) _ (by go_num), rfl, grow_trans hge (grow_set _ _ _ _), by go_num, by omega, .inr ⟨by omega, by omega, HX.out⟩⟩
      · have HS : Hid (fsF ts (d + 1) (p + 1) = fsF ts 1 (pos + 1)) := by
          rcases Hst.out with ⟨rfl, rfl⟩ | ⟨_, h1, h2⟩
          · rfl
          · unfold Hid; rw [← h2]; exact (fsF_open Htp.out (by have : (d == 0) = false := by simp; omega
                                                               simp [this]) Hbo.out).symm
        have hpp : pos ≤ p := by rcases Hst.out with ⟨h, _⟩ | ⟨h, _⟩ <;> omega
        clear hc HCb hgb
        go_wp2_with fail
        go_roundg (n - (p + 1))
        case measure => omega
        case rel => exact ⟨p + 1, d + 1, HCc.out.put (by omega) _ (by go_num), rfl, grow_trans hgc (grow_set _ _ _ _), by go_num, by omega, .inr ⟨by omega, by omega, HS.out⟩⟩
end Go.Proofs.Qxb6615028a
