/-
  withoutInto.
-/
import Derived.Test.Qxb6615028aClone
import Derived.Test.Qxb6615028aWords
namespace Go.Proofs.Qxb6615028a
open Go.ChangeShapes Go.WideShapes Go.ChangeAt Go.RowKit
set_option linter.unusedVariables false

/-- withoutInto: a slice of the tokens that are left; nothing that was there has turned. -/
def IntoPost (ts : List Tk) (w : World) (e : Ending) (w' : World) : Prop := ∃ ao m c, e = .returned (.slice ao m c) ∧ TokSlice w' ao m (cut ts) ∧ Below w.heap.size w w'

/-- The loop's relation. -/
def IntoRel (b n : Nat) (ts : List Tk) (w : World) (g : Nat) (cv : Value) (wr : World) : Prop := ∃ cb p : Nat, cv = .pointer (some ⟨cb, 0, none⟩) ∧ Cur wr cb b n ts p ∧ w.heap.size ≤ cb ∧ Below w.heap.size w wr ∧ fsF ts 0 p = fsF ts 0 0 ∧ g = n - p

/-- What the test at the loop's head says. -/
def IntoTest (ts : List Tk) (t : Tk) (p : Nat) (w : World) (v : Value) (w1 : World) : Prop := v = .bool (!(isW t cInto && !afterVerb ts p)) ∧ Below w.heap.size w w1

theorem skip_any (cb b n pos : Nat) (ts : List Tk) (t : Tk) (w : World) (h : Cur w cb b n ts pos) (ht : ts[pos]? = some t) :
    Calls Try.prog 24 #[.pointer (some ⟨cb, 0, none⟩)] w (SkipPost cb b n pos ts t w) := by
  cases ho : opener t
  · exact skip_one cb b n pos ts t w h ht ho
  · exact skip_many cb b n pos ts t w h ht ho

theorem aut_zero {ts : List Tk} {q : Nat} (hd : namePart (tokAt ts q) = false) : autF ts 0 q = q := by
  by_cases hq : ts.length ≤ q
  · exact autF_end hq
  · have ht : ts[q]? = some ts[q] := List.getElem?_eq_getElem (by omega)
    rw [tokAt_some ht] at hd
    exact autF_stop ht (by simp [next, hd])

theorem strict_at (ts : List Tk) (j : Nat) : (if isW (tokAt ts j) cStrict = true then j + 1 else j) = afterStrict ts j := by
  by_cases hq : ts.length ≤ j
  · rw [tokAt_none hq, noTk_isW]; simp [afterStrict, List.getElem?_eq_none hq]
  · have ht : ts[j]? = some ts[j] := List.getElem?_eq_getElem (by omega)
    rw [tokAt_some ht]
    simp [afterStrict, ht]

/-- The loop over the names: ghost g: what is left. -/
def NamesRel (cb b n p : Nat) (ts : List Tk) (w : World) (g : Nat) (wr : World) : Prop := ∃ q : Nat, Cur wr cb b n ts q ∧ autF ts 0 q = clauseEnd ts p ∧ w.grownBy wr (some cb) ∧ g = n - q
def NamesCut (cb b n p : Nat) (ts : List Tk) (w : World) (w1 : World) : Prop := Cur w1 cb b n ts (clauseEnd ts p) ∧ w.grownBy w1 (some cb)

theorem neq_nil (w : World) : (binOp .neq 53 (.slice none 0 0) (.slice none 0 0)).run Try.prog w = .ok (.bool false) w := run_neq_slice_nil_any w 53 9 _ _ _ _ _ Try.underlying53
theorem neq_some (a : Addr) (m c : Nat) (w : World) : (binOp .neq 53 (.slice (some a) m c) (.slice none 0 0)).run Try.prog w = .ok (.bool true) w := run_neq_slice_nil_any w 53 9 _ _ _ _ _ Try.underlying53

/-- The tokens behind the clause, cell by cell, where rest() says they lie. -/
theorem rest_news {w : World} {b n E o : Nat} {ts : List Tk} (h : TokRow w b 0 ts) (hl : ts.length = n) (ho : E < n → o = E * 3) : ∀ j u, (tcs (ts.drop E))[j]? = some u → w.cell? ((⟨b, o, none⟩ : Addr).add j) = some u := by
  by_cases hE : E < n
  · have e := ho hE
    subst e
    have := (h.drop E).news
    rw [Nat.zero_add] at this
    exact this
  · intro j u hu
    rw [List.drop_eq_nil_of_le (by omega)] at hu
    simp [tcs] at hu

set_option maxHeartbeats 4000000 in
theorem into_any (b n : Nat) (ts : List Tk) (w : World) (h : TokRow w b 0 ts) (hl : ts.length = n) (hn : n ≤ 1048576) :
    Calls Try.prog 22 #[.slice (some ⟨b, 0, none⟩) n n] w (IntoPost ts w) := by
  have HR : Hid (TokRow w b 0 ts) := h
  have Hl : Hid (ts.length = n) := hl
  have hbw := h.lt
  clear h hl
  go_enter Try.func22, Try.ntmps22
  go_wp2_with fail
  go_loopg [3] n (fun g cv wr => IntoRel b n ts w g cv wr)
  case atStart =>
    have hA : Below w.heap.size w (w.alloc (.cells #[.slice (some ⟨b, 0, none⟩) n n, .int .i64 0] 47)) := (Below.refl _ _).alloc (Nat.le_refl _) _
    exact ⟨w.heap.size, 0, rfl, ⟨heap_alloc_new _ _, HR.out.below hA hbw, Hl.out, by omega, by omega, hn⟩, Nat.le_refl _, hA, rfl, by omega⟩
  case round =>
    obtain ⟨cb, p, rfl, C, hcw, hbr, hfs, hg⟩ := hrel
    have hpn := C.le
    have HC : Hid (Cur wr cb b n ts p) := C
    have Hfs : Hid (fsF ts 0 p = fsF ts 0 0) := hfs
    clear C hfs
    go_wp2_with fail
    by_cases hp : n ≤ p
    · refine (done_any cb b n p ts true _ HC.out (by simpa using hp)).mono ?_
      rintro e wa ⟨rfl, ha⟩
      have hB : Below w.heap.size w wa := hbr.trans (ha.mono hbr.size)
      have HN : Hid (cut ts = ts) := cut_none (by rw [← Hfs.out]; exact fsF_end (by have := Hl.out; omega))
      go_wp2_with fail
      go_ret
      exact ⟨_, _, _, rfl, by rw [HN.out]; exact ⟨Hl.out, fun _ => ⟨b, 0, rfl, HR.out.below hB hbw⟩⟩, hB⟩
    · refine (done_any cb b n p ts false _ HC.out (by simpa using hp)).mono ?_
      rintro e wa ⟨rfl, ha⟩
      have hBa : Below w.heap.size w wa := hbr.trans (ha.mono hbr.size)
      have HCa : Hid (Cur wa cb b n ts p) := HC.out.below ha
      obtain ⟨t, ht⟩ := getTk Hl.out (show p < n by omega)
      have Ht : Hid (ts[p]? = some t) := ht
      clear ht HC ha hbr
      go_upto_region 4 with fail
      go_cut [35] (fun v w1 => IntoTest ts t p wa v w1)
      case first =>
        obtain ⟨bi, hbi⟩ : ∃ bi, isW t cInto = bi := ⟨_, rfl⟩
        have Hi : Hid (isW t cInto = bi) := hbi
        clear hbi
        go_wp2_with fail
        refine (peek_any cb b n p ts t _ HCa.out (tokAt_some Ht.out)).mono ?_
        rintro e wb ⟨rfl, hb⟩
        go_wp2_with fail
        refine (is_is t _ _ bi _ toLInto Hi.out).mono ?_
        rintro e wc ⟨rfl, hc⟩
        have hBc : Below wa.heap.size wa wc := hb.trans (hc.mono hb.size)
        have CC := HCa.out.below hBc
        have k1 := CC.k1
        have HCc : Hid (Cur wc cb b n ts p) := CC
        clear CC hb hc
        cases bi
        · go_wp2_with fail
          go_meet
          case rel => exact ⟨by rw [Hi.out]; rfl, hBc⟩
        · cases p with
          | zero =>
            go_wp2_with fail
            go_meet
            case rel => exact ⟨by rw [Hi.out]; rfl, hBc⟩
          | succ p =>
            obtain ⟨tp, htp⟩ := getTk Hl.out (show p < n by omega)
            have Htp : Hid (ts[p]? = some tp) := htp
            have g0 := HCc.out.row.c0 p tp htp
            have g1 := HCc.out.row.c1 p tp htp
            have g2 := HCc.out.row.c2 p tp htp
            rw [Nat.zero_add] at g0 g1 g2
            obtain ⟨b1, hb1⟩ : ∃ b1, isW tp cInsert = b1 := ⟨_, rfl⟩
            obtain ⟨b2, hb2⟩ : ∃ b2, isW tp cMerge = b2 := ⟨_, rfl⟩
            have H1 : Hid (isW tp cInsert = b1) := hb1
            have H2 : Hid (isW tp cMerge = b2) := hb2
            have HV : Hid (afterVerb ts (p + 1) = (b1 || b2)) := by simp [Hid, afterVerb, htp, verb, hb1, hb2]
            clear htp hb1 hb2
            go_wp2_with fail
            refine (is_is tp _ _ b1 _ toLInsert H1.out).mono ?_
            rintro e wd ⟨rfl, hd⟩
            have hBd : Below wa.heap.size wa wd := hBc.trans (hd.mono hBc.size)
            have CD := HCa.out.below hBd
            have m1 := CD.k1
            have HCd : Hid (Cur wd cb b n ts (p + 1)) := CD
            clear CD hd k1 g0 g1 g2
            cases b1
            · have g0 := HCd.out.row.c0 p tp Htp.out
              have g1 := HCd.out.row.c1 p tp Htp.out
              have g2 := HCd.out.row.c2 p tp Htp.out
              rw [Nat.zero_add] at g0 g1 g2
              go_wp2_with fail
              refine (is_is tp _ _ b2 _ toLMerge H2.out).mono ?_
              rintro e we ⟨rfl, he⟩
              have hBe : Below wa.heap.size wa we := hBd.trans (he.mono hBd.size)
              go_wp2_with fail
              go_meet
              case rel => exact ⟨by rw [Hi.out, HV.out]; simp, hBe⟩
            · go_wp2_with fail
              go_meet
              case rel => exact ⟨by rw [Hi.out, HV.out]; simp, hBd⟩
      case rest =>
        obtain ⟨rfl, hbc⟩ := hcut
        have HCc : Hid (Cur wc cb b n ts p) := HCa.out.below hbc
        have hB : Below w.heap.size w wc := hBa.trans (hbc.mono hBa.size)
        clear hbc HCa hBa
        obtain ⟨hit, hhit⟩ : ∃ x, (isW t cInto && !afterVerb ts p) = x := ⟨_, rfl⟩
        have Hhit : Hid ((isW t cInto && !afterVerb ts p) = hit) := hhit
        rw [hhit]
        clear hhit
        cases hit
        · have k0 := HCc.out.k0
          have k1 := HCc.out.k1
          go_wp2_with fail
          have hA : Below wc.heap.size wc (wc.alloc (.cells #[.slice (some ⟨b, 0, none⟩) n n, .int .i64 p] 47)) := (Below.refl _ _).alloc (Nat.le_refl _) _
          have HN : Hid (Cur (wc.alloc (.cells #[.slice (some ⟨b, 0, none⟩) n n, .int .i64 p] 47)) wc.heap.size b n ts p) := ⟨heap_alloc_new _ _, HCc.out.row.below hA HCc.out.row.lt, Hl.out, by have := HCc.out.row.lt; omega, by omega, hn⟩
          have hB2 : Below w.heap.size w (wc.alloc (.cells #[.slice (some ⟨b, 0, none⟩) n n, .int .i64 p] 47)) := hB.alloc hB.size _
          have hws := hB.size
          refine (skip_any wc.heap.size b n p ts t _ HN.out Ht.out).mono ?_
          rintro e wd ⟨v, p', rfl, hpp, ⟨CD, hgd⟩, hf⟩
          have HCD : Hid (Cur wd wc.heap.size b n ts p') := CD
          have HF : Hid (fsF ts 0 p' = fsF ts 0 0) := by unfold Hid; rw [← Hfs.out]; exact (hf Hhit.out).symm
          have hpn' := CD.le
          clear CD hf k0 k1
          go_wp2_with fail
          go_roundg (n - p')
          case measure => omega
          case rel => exact ⟨_, p', rfl, HCD.out, hws, below_grow hB2 hgd hB2.size hws, HF.out, rfl⟩
        · have k1 := HCc.out.k1
          have f1 := HCc.out.f1
          have HS : Hid (fsF ts 0 0 = some p) := by
            have hh := Hhit.out
            rw [Bool.and_eq_true] at hh
            unfold Hid; rw [← Hfs.out]; exact fsF_hit Ht.out hh.1 (by simpa using hh.2)
          have hE := clauseEnd_le (ts := ts) (s := p) (by have := Hl.out; omega)
          obtain ⟨hE1, hE2⟩ := hE
          rw [Hl.out] at hE2
          obtain ⟨r, hr⟩ : ∃ r, isW (tokAt ts (p + 1)) cStrict = r := ⟨_, rfl⟩
          have Hr : Hid (isW (tokAt ts (p + 1)) cStrict = r) := hr
          clear hr
          go_wp2_with fail
          have HCd : Hid (Cur ((wc.setCell ⟨cb, 1, none⟩ (.int .i64 ((p : Int) + 1))).alloc (.cells #[.string (ByteArray.mk #[115, 116, 114, 105, 99, 116])] 9)) cb b n ts (p + 1)) := (HCc.out.put (p := p + 1) (by omega) _ (by go_num)).below ((Below.refl _ _).alloc (Nat.le_refl _) _)
          have hBd : Below w.heap.size w ((wc.setCell ⟨cb, 1, none⟩ (.int .i64 ((p : Int) + 1))).alloc (.cells #[.string (ByteArray.mk #[115, 116, 114, 105, 99, 116])] 9)) := (hB.setCell hcw _).alloc (by simpa [World.setCell] using hB.size) _
          refine (words_any cb b n (p + 1) _ ts _ _ r _ HCd.out (by simp [go_sem]) toLStrict Hr.out).mono ?_
          rintro e we ⟨rfl, CE, hge⟩
          have HCe : Hid (Cur we cb b n ts (afterStrict ts (p + 1))) := by unfold Hid; rw [← strict_at, Hr.out]; exact CE
          have hBe : Below w.heap.size w we := below_grow hBd hge hBd.size hcw
          clear CE hge k1 f1
          have hq0 := neq_nil
          have hq1 := neq_some
          go_upto_block 2 with fail
          go_cut [] (fun w1 => NamesCut cb b n p ts we w1)
          case first =>
            go_wp2_with fail
            go_loopg [] (n - afterStrict ts (p + 1)) (fun g wr => NamesRel cb b n p ts we g wr)
            case atStart => exact ⟨_, HCe.out, rfl, grow_refl _ _, rfl⟩
            case round =>
              obtain ⟨q, CQ, haut, hgq, hgg⟩ := hrel
              have HCq : Hid (Cur wr cb b n ts q) := CQ
              have Haut : Hid (autF ts 0 q = clauseEnd ts p) := haut
              clear CQ haut
              go_wp2_with fail
              refine (name_any cb b n q ts _ HCq.out).mono ?_
              rintro e wf ⟨v, q', rfl, ⟨CF, hgf⟩, hor⟩
              have HCf : Hid (Cur wf cb b n ts q') := CF
              have hqn := CF.le
              have hgF : we.grownBy wf (some cb) := grow_trans hgq hgf
              clear CF hgf hgq
              rcases hor with ⟨rfl, rfl, hnp⟩ | ⟨⟨a, m, c, rfl⟩, hqq, ha⟩
              · have HE : Hid (clauseEnd ts p = q') := by unfold Hid; rw [← Haut.out]; exact aut_zero hnp
                clear hnp
                go_wp2_with fail
                go_meet
                case rel => exact ⟨by rw [HE.out]; exact HCf.out, hgF⟩
              · obtain ⟨bm, hbm⟩ : ∃ bm, isO (tokAt ts q') [44] = bm := ⟨_, rfl⟩
                have Hbm : Hid (isO (tokAt ts q') [44] = bm) := hbm
                have HA : Hid (clauseEnd ts p = (if bm = true then autF ts 0 (q' + 1) else q')) := by unfold Hid; rw [← Haut.out, ha, hbm]
                clear ha hbm
                go_wp2_with fail
                refine (cIsOp_any cb b n q' ts _ _ bm _ HCf.out toL44 Hbm.out).mono ?_
                rintro e wg ⟨rfl, CG, hgg2⟩
                have hgG : we.grownBy wg (some cb) := grow_trans hgF hgg2
                cases bm
                · have HCg : Hid (Cur wg cb b n ts q') := CG
                  have HE : Hid (clauseEnd ts p = q') := HA.out
                  clear CG
                  go_wp2_with fail
                  go_meet
                  case rel => exact ⟨by rw [HE.out]; exact HCg.out, hgG⟩
                · have HCg : Hid (Cur wg cb b n ts (q' + 1)) := CG
                  have hqn2 := CG.le
                  have HE : Hid (autF ts 0 (q' + 1) = clauseEnd ts p) := HA.out.symm
                  clear CG
                  go_wp2_with fail
                  go_roundg (n - (q' + 1))
                  case measure => omega
                  case rel => exact ⟨q' + 1, HCg.out, HE.out, hgG, rfl⟩
          case rest =>
            obtain ⟨CZ, hgz⟩ := hcut
            have hBz : Below w.heap.size w wc := below_grow hBe hgz hBe.size hcw
            have hR : TokRow wc b 0 ts := CZ.row
            have HZ : Hid (Cur wc cb b n ts (clauseEnd ts p)) := CZ
            have HRz : Hid (TokRow wc b 0 ts) := hR
            have hbz := hR.lt
            obtain ⟨i0, hi, hz0, hz1, hz2⟩ := info_parts Try.info43
            have HI : Hid (Try.prog.info? 43 = some i0 ∧ i0.zero = some (.agg #[.int .i64 0, .string (ByteArray.mk #[]), .int .i64 0]) ∧ i0.size = 3 ∧ i0.bytes = 32) := ⟨hi, hz0, hz1, hz2⟩
            clear hi hz0 hz1 hz2 hR CZ hgz hq0 hq1 hBe HCe hBd HCd HCc hB
            obtain ⟨E, hE⟩ : ∃ E, clauseEnd ts p = E := ⟨_, rfl⟩
            have HE : Hid (clauseEnd ts p = E) := hE
            rw [hE] at HZ hE1 hE2
            clear hE
            have i1 : (p : Int) ≤ (n : Int) := by omega
            go_wp2_with fail
            refine (clone_any b p n (ts.take p) _ (HRz.out.take p) (by have := Hl.out; simp; omega) (by omega)).mono ?_
            rintro e wx ⟨v, rfl, hown, hbx⟩
            have HX : Hid (Cur wx cb b n ts E) := HZ.out.below hbx
            have Hown : Hid (wx.ownsRow wc.heap.size 43 3 v p (tcs (ts.take p))) := hown
            have hBx : Below w.heap.size w wx := hBz.trans (hbx.mono hBz.size)
            have hsx := hbx.size
            clear hown hbx
            go_wp2_with fail
            refine (rest_any cb b n E ts _ HX.out).mono ?_
            rintro e wy ⟨o, rfl, ho, hby⟩
            have HRy : Hid (TokRow wy b 0 ts) := HX.out.row.below hby HX.out.row.lt
            have HownY : Hid (wy.ownsRow wc.heap.size 43 3 v p (tcs (ts.take p))) := ownsRow_below Hown.out hby
            have hBy : Below w.heap.size w wy := hBx.trans (hby.mono hBx.size)
            have hsy := hby.size
            have HN : Hid (∀ j u, (tcs (ts.drop E))[j]? = some u → wy.cell? ((⟨b, o, none⟩ : Addr).add j) = some u) := rest_news HRy.out Hl.out ho
            have HV : Hid (∀ k, v.ownBlock = some k → w.heap.size ≤ k) := fun k hk => by have := (HownY.out.lt k hk).1; have := hBz.size; omega
            clear hby ho Hown HX
            go_wp2_with (at_builtin; refine wpList_append_own _ rfl _ _ 40 rfl wc.heap.size 43 i0 (.agg #[.int .i64 0, .string (ByteArray.mk #[]), .int .i64 0]) 3 32 Try.underlying40 HI.out.1 HI.out.2.1 HI.out.2.2.1 HI.out.2.2.2 rfl (by decide) _ _ _ rfl HownY.out ⟨b, o, none⟩ (n - E) (n - E) (tcs (ts.drop E)) rfl ?c2 HN.out (tcs_one _) ?c3 ?c4 ?c5 ?_)
            case c2 => rw [tcs_len, List.length_drop, Hl.out]
            case c3 => unfold maxLen; omega
            case c4 => omega
            case c5 => omega
            intro v' wz hown' hgrow hnil
            have hB : Below w.heap.size w wz := hBy.grown hgrow hBy.size HV.out
            have HP : Hid (∃ ao c, v' = .slice ao (p + (n - E)) c ∧ TokSlice wz ao (p + (n - E)) (cut ts)) := by
              have e1 : cut ts = ts.take p ++ ts.drop E := by rw [cut_some HS.out, HE.out]
              rw [← tcs_append, ← e1] at hown'
              refine TokSlice.of_owns hown' (by rw [e1]; have := Hl.out; simp; omega) ?_
              intro t ht
              rw [e1] at ht
              rcases List.mem_append.1 ht with h | h
              · exact HRz.out.sz t (List.mem_of_mem_take h)
              · exact HRz.out.sz t (List.mem_of_mem_drop h)
            clear hown' hgrow hnil
            obtain ⟨ao, c, hv, hts⟩ := HP.out
            clear HP
            rw [hv]
            have HT : Hid (TokSlice wz ao (p + (n - E)) (cut ts)) := hts
            clear hv hts
            go_wp2_with fail
            go_ret
            exact ⟨_, _, _, rfl, HT.out, hB⟩
end Go.Proofs.Qxb6615028a
