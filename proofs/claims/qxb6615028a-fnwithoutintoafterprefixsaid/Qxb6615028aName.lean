/-
  The cursor: name().
-/
import Derived.Test.Qxb6615028aCur
import Derived.Maps.AppendAt
import Derived.WalkSpells
namespace Go.Proofs.Qxb6615028a
open Go.ChangeShapes Go.WideShapes Go.ChangeAt Go.RowKit
set_option linter.unusedVariables false
attribute [local go_sem ↓] Go.wp_at_zero Go.wp_at_succ

theorem Try.info9 : (Try.prog.info? 9).map (fun i => (i.zero, i.size, i.bytes)) = some (some (.string (ByteArray.mk #[])), 1, 16) := by kernel_rfl

theorem Cur.grown {w w' : World} {cb b n pos : Nat} {ts : List Tk} {r : Option Nat} (h : Cur w cb b n ts pos) (g : w.grownBy w' r) (hr : ∀ k, r = some k → k ≠ cb ∧ k ≠ b) : Cur w' cb b n ts pos := by
  have hb : w'.heap[b]? = w.heap[b]? := g.block b h.row.lt (fun e => (hr b e.symm).2 rfl)
  refine ⟨(g.block cb h.lt (fun e => (hr cb e.symm).1 rfl)).trans h.blk, ?_, h.len, h.ne, h.le, h.small⟩
  have hc : ∀ o, w'.cell? ⟨b, o, none⟩ = w.cell? ⟨b, o, none⟩ := fun o => World.cell?_of_block hb
  exact ⟨Nat.lt_of_lt_of_le h.row.lt g.size, fun j t e => (hc _).trans (h.row.c0 j t e), fun j t e => (hc _).trans (h.row.c1 j t e), fun j t e => (hc _).trans (h.row.c2 j t e), h.row.sz⟩

theorem grow_new {a b c : World} {r q : Option Nat} (h : a.grownBy b r) (k : b.grownBy c q) (hq : ∀ i, q = some i → a.heap.size ≤ i) : a.grownBy c r :=
  ⟨k.os.trans h.os, k.tape.trans h.tape, k.output.trans h.output, Nat.le_trans h.size k.size, fun i hi hr => (k.block i (Nat.lt_of_lt_of_le hi h.size) (fun e => by have := hq i e.symm; omega)).trans (h.block i hi hr)⟩

theorem ownsRow_below {w w' : World} {base : Nat} {e : TypeId} {size : Nat} {v : Value} {n : Nat} {xs : List Value} (h : w.ownsRow base e size v n xs) (hb : Below w.heap.size w w') : w'.ownsRow base e size v n xs :=
  h.kept (grow_below (r := none) hb) (by cases v.ownBlock <;> simp)

theorem field0 (k : Int) (x : ByteArray) (l : Int) (w : World) : (Instr.field 43 (.agg #[.int .i64 k, .string x, .int .i64 l]) 0).run Try.prog w = .ok (.int .i64 k) w := by kernel_rfl
theorem field1 (k : Int) (x : ByteArray) (l : Int) (w : World) : (Instr.field 43 (.agg #[.int .i64 k, .string x, .int .i64 l]) 1).run Try.prog w = .ok (.string x) w := by kernel_rfl

/-- What name() answers and where it leaves the cursor. -/
def NamePost (cb b n pos : Nat) (ts : List Tk) (w : World) (e : Ending) (w' : World) : Prop := ∃ v q, e = .returned v ∧ Step cb b n ts q w w' ∧
  ((v = .slice none 0 0 ∧ q = pos ∧ namePart (tokAt ts pos) = false) ∨ ((∃ a m c, v = .slice (some a) m c) ∧ pos < q ∧ autF ts 0 pos = (if isO (tokAt ts q) [44] = true then autF ts 0 (q + 1) else q)))

theorem NamePost.nil {cb b n pos : Nat} {ts : List Tk} {w w' : World} (hs : Step cb b n ts pos w w') (hn : namePart (tokAt ts pos) = false) : NamePost cb b n pos ts w (.returned (.slice none 0 0)) w' := ⟨_, pos, rfl, hs, .inl ⟨rfl, rfl, hn⟩⟩
theorem NamePost.some {cb b n pos q m : Nat} {ts : List Tk} {w w' wx : World} {v : Value} {B : Nat} {xs : List Value} (hs : Step cb b n ts q w w') (ho : wx.ownsRow B 9 1 v m xs) (hm : 0 < m) (hq : pos < q)
    (ha : autF ts 0 pos = (if isO (tokAt ts q) [44] = true then autF ts 0 (q + 1) else q)) : NamePost cb b n pos ts w (.returned v) w' := by
  refine ⟨v, q, rfl, hs, .inr ⟨?_, hq, ha⟩⟩
  rcases ho.2 with ⟨_, h⟩ | ⟨g, cap, cur, hv, _⟩
  · omega
  · exact ⟨_, _, _, hv⟩

/-- The loop's relation: ghost g: what is left. -/
def NameRel (cb b n pos : Nat) (ts : List Tk) (w : World) (g : Nat) (v k : Value) (wr : World) : Prop := ∃ p m : Nat, ∃ xs : List Value, Cur wr cb b n ts p ∧ g = n - p ∧ w.grownBy wr (some cb) ∧ k = .int .i64 (tokAt ts p).kind ∧ wr.ownsRow w.heap.size 9 1 v m xs ∧ m ≤ p ∧
  ((m = 0 ∧ v = .slice none 0 0 ∧ p = pos) ∨ (0 < m ∧ pos < p ∧ autF ts 2 p = autF ts 0 pos))

/-- One step of the automaton over a name part, from either state in which a name may go on. -/
theorem aut_name {ts : List Tk} {p pos : Nat} {t : Tk} (ht : ts[p]? = some t) (hn : namePart t = true) (h : p = pos ∨ autF ts 2 p = autF ts 0 pos) : autF ts 0 pos = autF ts 1 (p + 1) := by
  rcases h with rfl | h
  · exact autF_go ht (by simp [next, hn])
  · rw [← h]; exact autF_go ht (by simp [next, hn])
/-- Behind a name part that no dot follows. -/
theorem aut_one {ts : List Tk} {q : Nat} (hd : isO (tokAt ts q) [46] = false) : autF ts 1 q = (if isO (tokAt ts q) [44] = true then autF ts 0 (q + 1) else q) := by
  by_cases hq : ts.length ≤ q
  · rw [autF_end hq, tokAt_none hq, noTk_isO]; simp
  · have ht : ts[q]? = some ts[q] := List.getElem?_eq_getElem (by omega)
    rw [tokAt_some ht] at hd ⊢
    cases hc : isO ts[q] [44]
    · rw [autF_stop ht (by simp [next, hd, hc])]; simp
    · rw [autF_go ht (st' := 0) (by simp [next, hd, hc])]; simp
/-- Behind a dot that no name part follows. -/
theorem aut_two {ts : List Tk} {q : Nat} (hd : namePart (tokAt ts q) = false) : autF ts 2 q = (if isO (tokAt ts q) [44] = true then autF ts 0 (q + 1) else q) := by
  by_cases hq : ts.length ≤ q
  · rw [autF_end hq, tokAt_none hq, noTk_isO]; simp
  · have ht : ts[q]? = some ts[q] := List.getElem?_eq_getElem (by omega)
    rw [tokAt_some ht] at hd ⊢
    cases hc : isO ts[q] [44]
    · rw [autF_stop ht (by simp [next, hd, hc])]; simp
    · rw [autF_go ht (st' := 0) (by simp [next, hd, hc])]; simp

theorem strs_oneCell (x : ByteArray) : ∀ u ∈ [Value.string x], u.oneCell' = true := by intro u hu; simp at hu; subst hu; rfl

set_option maxHeartbeats 2000000 in
theorem name_any (cb b n pos : Nat) (ts : List Tk) (w : World) (h : Cur w cb b n ts pos) :
    Calls Try.prog 29 #[.pointer (some ⟨cb, 0, none⟩)] w (NamePost cb b n pos ts w) := by
  have H : Hid (Cur w cb b n ts pos) := h
  have hcb := h.lt
  have hbw := h.row.lt
  have hsm := h.small
  have hne := h.ne
  have Hlen : Hid (ts.length = n) := h.len
  obtain ⟨i0, hi, hz0, hz1, hz2⟩ := info_parts Try.info9
  have Hi : Hid (Try.prog.info? 9 = some i0 ∧ i0.zero = some (.string (ByteArray.mk #[])) ∧ i0.size = 1 ∧ i0.bytes = 16) := ⟨hi, hz0, hz1, hz2⟩
  clear h hi hz0 hz1 hz2
  have hF0 := field0
  have hF1 := field1
  go_enter Try.func29, Try.ntmps29
  go_wp2_with fail
  refine (peek_any cb b n pos ts (tokAt ts pos) _ H.out rfl).mono ?_
  rintro e w1 ⟨rfl, hb1⟩
  go_wp2_with fail
  go_loopg [3, 4] (n - pos) (fun g v k wr => NameRel cb b n pos ts w g v k wr)
  case atStart => exact ⟨pos, 0, [], H.out.below hb1, rfl, grow_below hb1, rfl, World.ownsRow_nil _ _ _ _, by omega, .inl ⟨rfl, rfl, rfl⟩⟩
  case round =>
    obtain ⟨p, m, xs, C, hg, hgw, hk, hown, hmp, hst⟩ := hrel
    obtain ⟨t, ht⟩ : ∃ t, tokAt ts p = t := ⟨_, rfl⟩
    rw [ht] at hk
    subst hk
    have Ht : Hid (tokAt ts p = t) := ht
    have HC : Hid (Cur wr cb b n ts p) := C
    have Hown : Hid (wr.ownsRow w.heap.size 9 1 u3 m xs) := hown
    have Hst : Hid ((m = 0 ∧ u3 = .slice none 0 0 ∧ p = pos) ∨ (0 < m ∧ pos < p ∧ autF ts 2 p = autF ts 0 pos)) := hst
    clear C hown hst ht
    rcases (show t.kind = 0 ∨ (t.kind ≠ 0 ∧ t.kind = 1) ∨ (t.kind ≠ 0 ∧ t.kind ≠ 1) from by omega) with hk0 | ⟨hk0, hk1⟩ | ⟨hk0, hk1⟩
    · have hnp : namePart t = true := by simp [namePart, hk0]
      have hb0 : (t.kind == 0) = true := by simp [hk0]
      clear hk0
      have hpn : p < n := tokAt_lt Hlen.out (fun e => by rw [Ht.out] at e; rw [e, noTk_namePart] at hnp; cases hnp)
      have Hnp : Hid (namePart t = true) := hnp
      clear hnp
      have Htp : Hid (ts[p]? = some t) := by
        obtain ⟨t', ht'⟩ := getTk Hlen.out hpn
        have := Ht.out; rw [tokAt_some ht'] at this; subst this; exact ht'
      go_wp2_with fail
      refine (peek_any cb b n p ts t _ HC.out Ht.out).mono ?_
      rintro e wa ⟨rfl, ha⟩
      have hownA := ownsRow_below Hown.out ha
      have HCa : Hid (Cur wa cb b n ts p) := HC.out.below ha
      have hga : w.grownBy wa (some cb) := grow_trans hgw (grow_below ha)
      have hsa := hga.size
      have HownA : Hid (wa.ownsRow w.heap.size 9 1 u3 m xs) := hownA
      have hobl : ∀ k, u3.ownBlock = some k → w.heap.size ≤ k := fun k hk => (hownA.lt k hk).1
      have HO : Hid (∀ k, u3.ownBlock = some k → w.heap.size ≤ k) := hobl
      clear hownA ha Hown hgw hobl HC
      go_wp2_with (at_builtin; refine wpList_append_own _ rfl _ _ 53 rfl w.heap.size 9 i0 (.string (ByteArray.mk #[])) 1 16 Try.underlying53 Hi.out.1 Hi.out.2.1 Hi.out.2.2.1 Hi.out.2.2.2 rfl (by decide) _ _ _ rfl (HownA.out.alloc _) ⟨wa.heap.size, 0, none⟩ 1 1 [.string t.text] rfl rfl (cell_one_new _ _ _) (strs_oneCell _) ?c3 ?c4 ?c5 ?_)
      case c3 => unfold maxLen; omega
      case c4 => omega
      case c5 => simp; omega
      intro v' wb hown' hgrow hnil
      have hgb : w.grownBy wb (some cb) := grow_new (grow_new hga (World.grownBy_alloc wa _ none) (by simp)) hgrow HO.out
      have CB : Cur wb cb b n ts p := ((HCa.out.grown (World.grownBy_alloc wa _ none) (by simp)).grown hgrow (fun k hk => ⟨by have := HO.out k hk; omega, by have := HO.out k hk; omega⟩))
      have m1 := CB.k1
      have mf := CB.f1
      have HCb : Hid (Cur wb cb b n ts p) := CB
      have HownB : Hid (wb.ownsRow w.heap.size 9 1 v' (m + 1) (xs ++ [.string t.text])) := hown'
      have HO2 : Hid (v'.ownBlock ≠ some cb) := fun e => by have := (hown'.lt cb e).1; omega
      clear CB hown' hgrow hnil HownA HCa hga HO
      obtain ⟨t2, ht2⟩ : ∃ t2, tokAt ts (p + 1) = t2 := ⟨_, rfl⟩
      have Ht2 : Hid (tokAt ts (p + 1) = t2) := ht2
      obtain ⟨bd, hbd⟩ : ∃ bd, isO t2 [46] = bd := ⟨_, rfl⟩
      have Hbd : Hid (isO t2 [46] = bd) := hbd
      clear ht2 hbd
      go_wp2_with fail
      have HCc : Hid (Cur (wb.setCell ⟨cb, 1, none⟩ (.int .i64 ((p : Int) + 1))) cb b n ts (p + 1)) := HCb.out.put (by omega) _ (by go_num)
      have hgc : w.grownBy (wb.setCell ⟨cb, 1, none⟩ (.int .i64 ((p : Int) + 1))) (some cb) := grow_trans hgb (grow_set _ _ _ _)
      have HownC : Hid ((wb.setCell ⟨cb, 1, none⟩ (.int .i64 ((p : Int) + 1))).ownsRow w.heap.size 9 1 v' (m + 1) (xs ++ [.string t.text])) := ownsRow_setCell_other HownB.out HO2.out _
      refine (peek_any cb b n (p + 1) ts t2 _ HCc.out Ht2.out).mono ?_
      rintro e wc ⟨rfl, hc⟩
      have HCd : Hid (Cur wc cb b n ts (p + 1)) := HCc.out.below hc
      have hgd : w.grownBy wc (some cb) := grow_trans hgc (grow_below hc)
      have HownD : Hid (wc.ownsRow w.heap.size 9 1 v' (m + 1) (xs ++ [.string t.text])) := ownsRow_below HownC.out hc
      clear hc HCc hgc HownC HownB HCb hgb m1 mf
      go_wp2_with fail
      refine (tIsOp_is t2 _ _ bd _ toL46 Hbd.out).mono ?_
      rintro e wd ⟨rfl, hd⟩
      have CE := HCd.out.below hd
      have n1 := CE.k1
      have nf := CE.f1
      have HCe : Hid (Cur wd cb b n ts (p + 1)) := CE
      have hge : w.grownBy wd (some cb) := grow_trans hgd (grow_below hd)
      have HownE : Hid (wd.ownsRow w.heap.size 9 1 v' (m + 1) (xs ++ [.string t.text])) := ownsRow_below HownD.out hd
      have HA : Hid (autF ts 0 pos = autF ts 1 (p + 1)) := aut_name Htp.out Hnp.out (by rcases Hst.out with ⟨_, _, h⟩ | ⟨_, _, h⟩; exact .inl h; exact .inr h)
      have hpp : pos ≤ p := by rcases Hst.out with ⟨_, _, h⟩ | ⟨_, h, _⟩ <;> omega
      clear CE hd hgd HownD HCd
      cases bd
      · have HF : Hid (autF ts 0 pos = (if isO (tokAt ts (p + 1)) [44] = true then autF ts 0 (p + 1 + 1) else p + 1)) := by
          unfold Hid; rw [HA.out]; exact aut_one (by rw [Ht2.out]; exact Hbd.out)
        go_wp2_with fail
        go_ret
        exact NamePost.some ⟨HCe.out, hge⟩ HownE.out (by omega) (by omega) HF.out
      · have hpn2 : p + 1 < n := tokAt_lt Hlen.out (fun e => by have h1 := Ht2.out; have h2 := Hbd.out; rw [e] at h1; rw [← h1, noTk_isO] at h2; cases h2)
        have Htp2 : Hid (ts[p + 1]? = some t2) := by
          obtain ⟨t', ht'⟩ := getTk Hlen.out hpn2
          have := Ht2.out; rw [tokAt_some ht'] at this; subst this; exact ht'
        have HF : Hid (autF ts 2 (p + 2) = autF ts 0 pos) := by
          unfold Hid; rw [HA.out]; exact (autF_go Htp2.out (by simp [next, Hbd.out])).symm
        go_wp2_with fail
        have HCf : Hid (Cur (wd.setCell ⟨cb, 1, none⟩ (.int .i64 ((p : Int) + 1 + 1))) cb b n ts (p + 2)) := HCe.out.put (by omega) _ (by go_num)
        have hgf : w.grownBy (wd.setCell ⟨cb, 1, none⟩ (.int .i64 ((p : Int) + 1 + 1))) (some cb) := grow_trans hge (grow_set _ _ _ _)
        have HownF : Hid ((wd.setCell ⟨cb, 1, none⟩ (.int .i64 ((p : Int) + 1 + 1))).ownsRow w.heap.size 9 1 v' (m + 1) (xs ++ [.string t.text])) := ownsRow_setCell_other HownE.out HO2.out _
        refine (peek_any cb b n (p + 2) ts (tokAt ts (p + 2)) _ HCf.out rfl).mono ?_
        rintro e wf ⟨rfl, hf⟩
        have HCg : Hid (Cur wf cb b n ts (p + 2)) := HCf.out.below hf
        have hgg : w.grownBy wf (some cb) := grow_trans hgf (grow_below hf)
        have HownG : Hid (wf.ownsRow w.heap.size 9 1 v' (m + 1) (xs ++ [.string t.text])) := ownsRow_below HownF.out hf
        clear n1 nf
        go_wp2_with fail
        go_roundg (n - (p + 2))
        case measure => omega
        case rel => exact ⟨p + 2, m + 1, _, HCg.out, rfl, hgg, rfl, HownG.out, by omega, .inr ⟨by omega, by omega, HF.out⟩⟩
    · have hnp : namePart t = true := by simp [namePart, hk1]
      have hb0 : (t.kind == 0) = false := by simp [hk0]
      have hb1' : (t.kind == 1) = true := by simp [hk1]
      clear hk0 hk1
      have hpn : p < n := tokAt_lt Hlen.out (fun e => by rw [Ht.out] at e; rw [e, noTk_namePart] at hnp; cases hnp)
      have Hnp : Hid (namePart t = true) := hnp
      clear hnp
      have Htp : Hid (ts[p]? = some t) := by
        obtain ⟨t', ht'⟩ := getTk Hlen.out hpn
        have := Ht.out; rw [tokAt_some ht'] at this; subst this; exact ht'
      go_wp2_with fail
      refine (peek_any cb b n p ts t _ HC.out Ht.out).mono ?_
      rintro e wa ⟨rfl, ha⟩
      have hownA := ownsRow_below Hown.out ha
      have HCa : Hid (Cur wa cb b n ts p) := HC.out.below ha
      have hga : w.grownBy wa (some cb) := grow_trans hgw (grow_below ha)
      have hsa := hga.size
      have HownA : Hid (wa.ownsRow w.heap.size 9 1 u3 m xs) := hownA
      have hobl : ∀ k, u3.ownBlock = some k → w.heap.size ≤ k := fun k hk => (hownA.lt k hk).1
      have HO : Hid (∀ k, u3.ownBlock = some k → w.heap.size ≤ k) := hobl
      clear hownA ha Hown hgw hobl HC
      go_wp2_with (at_builtin; refine wpList_append_own _ rfl _ _ 53 rfl w.heap.size 9 i0 (.string (ByteArray.mk #[])) 1 16 Try.underlying53 Hi.out.1 Hi.out.2.1 Hi.out.2.2.1 Hi.out.2.2.2 rfl (by decide) _ _ _ rfl (HownA.out.alloc _) ⟨wa.heap.size, 0, none⟩ 1 1 [.string t.text] rfl rfl (cell_one_new _ _ _) (strs_oneCell _) ?c3 ?c4 ?c5 ?_)
      case c3 => unfold maxLen; omega
      case c4 => omega
      case c5 => simp; omega
      intro v' wb hown' hgrow hnil
      have hgb : w.grownBy wb (some cb) := grow_new (grow_new hga (World.grownBy_alloc wa _ none) (by simp)) hgrow HO.out
      have CB : Cur wb cb b n ts p := ((HCa.out.grown (World.grownBy_alloc wa _ none) (by simp)).grown hgrow (fun k hk => ⟨by have := HO.out k hk; omega, by have := HO.out k hk; omega⟩))
      have m1 := CB.k1
      have mf := CB.f1
      have HCb : Hid (Cur wb cb b n ts p) := CB
      have HownB : Hid (wb.ownsRow w.heap.size 9 1 v' (m + 1) (xs ++ [.string t.text])) := hown'
      have HO2 : Hid (v'.ownBlock ≠ some cb) := fun e => by have := (hown'.lt cb e).1; omega
      clear CB hown' hgrow hnil HownA HCa hga HO
      obtain ⟨t2, ht2⟩ : ∃ t2, tokAt ts (p + 1) = t2 := ⟨_, rfl⟩
      have Ht2 : Hid (tokAt ts (p + 1) = t2) := ht2
      obtain ⟨bd, hbd⟩ : ∃ bd, isO t2 [46] = bd := ⟨_, rfl⟩
      have Hbd : Hid (isO t2 [46] = bd) := hbd
      clear ht2 hbd
      go_wp2_with fail
      have HCc : Hid (Cur (wb.setCell ⟨cb, 1, none⟩ (.int .i64 ((p : Int) + 1))) cb b n ts (p + 1)) := HCb.out.put (by omega) _ (by go_num)
      have hgc : w.grownBy (wb.setCell ⟨cb, 1, none⟩ (.int .i64 ((p : Int) + 1))) (some cb) := grow_trans hgb (grow_set _ _ _ _)
      have HownC : Hid ((wb.setCell ⟨cb, 1, none⟩ (.int .i64 ((p : Int) + 1))).ownsRow w.heap.size 9 1 v' (m + 1) (xs ++ [.string t.text])) := ownsRow_setCell_other HownB.out HO2.out _
      refine (peek_any cb b n (p + 1) ts t2 _ HCc.out Ht2.out).mono ?_
      rintro e wc ⟨rfl, hc⟩
      have HCd : Hid (Cur wc cb b n ts (p + 1)) := HCc.out.below hc
      have hgd : w.grownBy wc (some cb) := grow_trans hgc (grow_below hc)
      have HownD : Hid (wc.ownsRow w.heap.size 9 1 v' (m + 1) (xs ++ [.string t.text])) := ownsRow_below HownC.out hc
      clear hc HCc hgc HownC HownB HCb hgb m1 mf
      go_wp2_with fail
      refine (tIsOp_is t2 _ _ bd _ toL46 Hbd.out).mono ?_
      rintro e wd ⟨rfl, hd⟩
      have CE := HCd.out.below hd
      have n1 := CE.k1
      have nf := CE.f1
      have HCe : Hid (Cur wd cb b n ts (p + 1)) := CE
      have hge : w.grownBy wd (some cb) := grow_trans hgd (grow_below hd)
      have HownE : Hid (wd.ownsRow w.heap.size 9 1 v' (m + 1) (xs ++ [.string t.text])) := ownsRow_below HownD.out hd
      have HA : Hid (autF ts 0 pos = autF ts 1 (p + 1)) := aut_name Htp.out Hnp.out (by rcases Hst.out with ⟨_, _, h⟩ | ⟨_, _, h⟩; exact .inl h; exact .inr h)
      have hpp : pos ≤ p := by rcases Hst.out with ⟨_, _, h⟩ | ⟨_, h, _⟩ <;> omega
      clear CE hd hgd HownD HCd
      cases bd
      · have HF : Hid (autF ts 0 pos = (if isO (tokAt ts (p + 1)) [44] = true then autF ts 0 (p + 1 + 1) else p + 1)) := by
          unfold Hid; rw [HA.out]; exact aut_one (by rw [Ht2.out]; exact Hbd.out)
        go_wp2_with fail
        go_ret
        exact NamePost.some ⟨HCe.out, hge⟩ HownE.out (by omega) (by omega) HF.out
      · have hpn2 : p + 1 < n := tokAt_lt Hlen.out (fun e => by have h1 := Ht2.out; have h2 := Hbd.out; rw [e] at h1; rw [← h1, noTk_isO] at h2; cases h2)
        have Htp2 : Hid (ts[p + 1]? = some t2) := by
          obtain ⟨t', ht'⟩ := getTk Hlen.out hpn2
          have := Ht2.out; rw [tokAt_some ht'] at this; subst this; exact ht'
        have HF : Hid (autF ts 2 (p + 2) = autF ts 0 pos) := by
          unfold Hid; rw [HA.out]; exact (autF_go Htp2.out (by simp [next, Hbd.out])).symm
        go_wp2_with fail
        have HCf : Hid (Cur (wd.setCell ⟨cb, 1, none⟩ (.int .i64 ((p : Int) + 1 + 1))) cb b n ts (p + 2)) := HCe.out.put (by omega) _ (by go_num)
        have hgf : w.grownBy (wd.setCell ⟨cb, 1, none⟩ (.int .i64 ((p : Int) + 1 + 1))) (some cb) := grow_trans hge (grow_set _ _ _ _)
        have HownF : Hid ((wd.setCell ⟨cb, 1, none⟩ (.int .i64 ((p : Int) + 1 + 1))).ownsRow w.heap.size 9 1 v' (m + 1) (xs ++ [.string t.text])) := ownsRow_setCell_other HownE.out HO2.out _
        refine (peek_any cb b n (p + 2) ts (tokAt ts (p + 2)) _ HCf.out rfl).mono ?_
        rintro e wf ⟨rfl, hf⟩
        have HCg : Hid (Cur wf cb b n ts (p + 2)) := HCf.out.below hf
        have hgg : w.grownBy wf (some cb) := grow_trans hgf (grow_below hf)
        have HownG : Hid (wf.ownsRow w.heap.size 9 1 v' (m + 1) (xs ++ [.string t.text])) := ownsRow_below HownF.out hf
        clear n1 nf
        go_wp2_with fail
        go_roundg (n - (p + 2))
        case measure => omega
        case rel => exact ⟨p + 2, m + 1, _, HCg.out, rfl, hgg, rfl, HownG.out, by omega, .inr ⟨by omega, by omega, HF.out⟩⟩
    · have hnp : namePart t = false := by simp [namePart, hk0, hk1]
      have Hnp : Hid (namePart t = false) := hnp
      have hb0 : (t.kind == 0) = false := by simp [hk0]
      have hb1' : (t.kind == 1) = false := by simp [hk1]
      clear hnp hk0 hk1
      rcases Hst.out with ⟨rfl, hu, rfl⟩ | ⟨hm0, hpp, haut⟩
      · subst hu
        clear Hst
        go_wp2_with fail
        go_ret
        exact NamePost.nil ⟨HC.out, hgw⟩ (by rw [Ht.out]; exact Hnp.out)
      · have HF : Hid (autF ts 0 pos = (if isO (tokAt ts p) [44] = true then autF ts 0 (p + 1) else p)) := by
          unfold Hid; rw [← haut]; exact aut_two (by rw [Ht.out]; exact Hnp.out)
        clear haut
        go_wp2_with fail
        go_ret
        exact NamePost.some ⟨HC.out, hgw⟩ Hown.out hm0 hpp HF.out
end Go.Proofs.Qxb6615028a
