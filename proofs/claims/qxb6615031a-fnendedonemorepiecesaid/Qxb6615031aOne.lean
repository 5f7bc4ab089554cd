/-
  The walk of FnEndedOneMorePiece.
-/
import Derived.Test.Qxb6615031aInsert
namespace Go.Proofs.Qxb6615031a
open Go.ChangeShapes Go.WideShapes Go.ChangeAt Go.RowKit
set_option linter.unusedVariables false
attribute [local go_sem ↓] Go.wp_at_zero Go.wp_at_succ

def BytesPost (w : World) (e : Ending) (w' : World) : Prop := ∃ b, e = .returned (.bool b) ∧ w' = w
theorem BytesPost.mk {w : World} (b : Bool) : BytesPost w (.returned (.bool b)) w := ⟨b, rfl, rfl⟩

theorem bytes13_any (a1 a2 a3 a4 : Option Addr) (n1 n2 n3 n4 c1 c2 c3 c4 : Nat) (x y z : Int) (o b : Bool) (q v : Int) (w : World) (h1 : n1 ≤ maxLen) (h2 : n2 ≤ maxLen) (h3 : n3 ≤ maxLen) (h4 : n4 ≤ maxLen) :
    Calls Try.prog 13 #[.slice a1 n1 c1, .slice a2 n2 c2, .slice a3 n3 c3, .slice a4 n4 c4, .int .i64 x, .int .i64 y, .int .i64 z, .bool o, .bool b, .int .i64 q, .int .i64 v] w (BytesPost w) := by
  unfold maxLen at h1 h2 h3 h4
  go_enter Try.func13, Try.ntmps13
  go_wp2
  all_goals go_ret
  all_goals exact BytesPost.mk _

def LawPost (w : World) (e : Ending) (w' : World) : Prop := e = .returned (.bool true) ∧ Below w.heap.size w w'
/-- A loop that adds centres to the exchange in eb: it holds the first k of us. -/
def AddRel (eb m c n : Nat) (ao : Option Addr) (ys : List Int) (ep : Int) (us : List Ctr) (w : World) (i : Value) (wr : World) : Prop := ∃ x : Nat, x ≤ n ∧ i = .int .i64 x ∧ Exch wr eb ao m c ys ep (us.take x) ∧ Below eb w wr
theorem below_undrew {w w' : World} {B : Nat} (h : Below B w.drew w') : Below B w w' := ⟨h.os, h.tape, h.output, h.size, h.block⟩

/-- The centres after x rounds of the loop that puts u in at p. -/
def insF (cs : List Ctr) (p : Nat) (u : Ctr) (x : Nat) : List Ctr := if x ≤ p then cs.take x else cs.take p ++ u :: (cs.take x).drop p
def InsRel (eb m c n p : Nat) (ao : Option Addr) (ys : List Int) (ep : Int) (us : List Ctr) (u : Ctr) (w : World) (i : Value) (wr : World) : Prop := ∃ x : Nat, x ≤ n + 1 ∧ i = .int .i64 x ∧ Exch wr eb ao m c ys ep (insF us p u x) ∧ Below eb w wr
theorem insF_zero (cs : List Ctr) (p : Nat) (u : Ctr) : insF cs p u 0 = [] := by simp [insF]
theorem insF_len {cs : List Ctr} {p n x : Nat} {u : Ctr} (hl : cs.length = n) (hp : p ≤ n) : (insF cs p u x).length ≤ n + 1 := by
  unfold insF
  split
  · simp; omega
  · simp; omega
/-- A round that adds the centre at x, x not p. -/
theorem insF_step {cs : List Ctr} {p x : Nat} {u d : Ctr} (hx : x ≠ p) (hd : cs[x]? = some d) : insF cs p u (x + 1) = insF cs p u x ++ [d] := by
  have ht := take_snoc hd
  have hlt : x < cs.length := (List.getElem?_eq_some_iff.1 hd).1
  unfold insF
  by_cases h1 : x < p
  · rw [if_pos (by omega), if_pos (by omega), ht]
  · rw [if_neg (by omega), if_neg (by omega), ht, List.drop_append_of_le_length (by simp; omega)]; simp
theorem insF_at {cs : List Ctr} {p : Nat} {u d : Ctr} (hd : cs[p]? = some d) : insF cs p u (p + 1) = (insF cs p u p ++ [u]) ++ [d] := by
  have ht := take_snoc hd
  have hlt : p < cs.length := (List.getElem?_eq_some_iff.1 hd).1
  unfold insF
  rw [if_neg (by omega), if_pos (Nat.le_refl _), ht, List.drop_append_of_le_length (by simp; omega), List.drop_eq_nil_of_le (by simp; omega)]; simp
theorem insF_end {cs : List Ctr} {p : Nat} {u : Ctr} (hp : cs.length = p) : insF cs p u (p + 1) = insF cs p u p ++ [u] := by
  unfold insF
  rw [if_neg (by omega), if_pos (Nat.le_refl _), List.drop_eq_nil_of_le (by simp; omega)]
theorem insF_last {cs : List Ctr} {p n : Nat} {u : Ctr} (hl : cs.length = n) (hp : p < n) : insF cs p u (n + 1) = insF cs p u n := by
  unfold insF
  rw [if_neg (by omega), if_neg (by omega), List.take_of_length_le (i := n + 1) (by omega), List.take_of_length_le (i := n) (by omega)]
theorem insF_all {cs : List Ctr} {p n : Nat} {u : Ctr} (hl : cs.length = n) (hp : p ≤ n) : insF cs p u (n + 1) = cs.take p ++ u :: cs.drop p := by
  unfold insF
  rw [if_neg (by omega), List.take_of_length_le (i := n + 1) (by omega)]

theorem all_ins {α : Type} (f : α → Bool) (l : List α) (p : Nat) (u : α) : (l.take p ++ u :: l.drop p).all f = (l.all f && f u) := by
  have h : l.all f = ((l.take p).all f && (l.drop p).all f) := by conv => lhs; rw [← List.take_append_drop p l, List.all_append]
  rw [h, List.all_append, List.all_cons]
  cases (l.take p).all f <;> cases (l.drop p).all f <;> cases f u <;> rfl
theorem ended_ins1 (cs : List Ctr) (ys : List Int) (ep : Int) (p : Nat) (u : Ctr) : endedB (cs.take p ++ u :: cs.drop p) ys ep = (endedB cs ys ep && quiet u) := by
  unfold endedB
  rw [all_ins]
  cases cs.all quiet <;> cases quiet u <;> cases ys.all (fun z => z == ep) <;> rfl
theorem ended_ins2 (cs : List Ctr) (ys : List Int) (ep : Int) (q : Nat) (v : Int) : endedB cs (ys.take q ++ v :: ys.drop q) ep = (endedB cs ys ep && (v == ep)) := by
  unfold endedB
  rw [all_ins, Bool.and_assoc]

set_option maxRecDepth 100000 in
set_option maxHeartbeats 8000000 in
theorem one_walk (ai ao ab aa : Option Addr) (n no nb m ci co cb ca : Nat) (zs : List Int) (os bs : List Bool) (ys : List Int) (ep p pin : Int) (po pb : Bool) (q v : Int) (w : World)
    (h1 : VRow fI w ai n zs) (h2 : VRow fB w ao no os) (h3 : VRow fB w ab nb bs) (h4 : ISl w aa m ca ys) (l1 : n ≤ maxLen) (l2 : no ≤ maxLen) (l3 : nb ≤ maxLen) (l4 : m ≤ maxLen) :
    Calls Try.prog 4 #[.slice ai n ci, .slice ao no co, .slice ab nb cb, .slice aa m ca, .int .i64 ep, .int .i64 p, .int .i64 pin, .bool po, .bool pb, .int .i64 q, .int .i64 v] w (LawPost w) := by
  have H1 : Hid (VRow fI w ai n zs) := h1
  have H2 : Hid (VRow fB w ao no os) := h2
  have H3 : Hid (VRow fB w ab nb bs) := h3
  have H4 : Hid (ISl w aa m ca ys) := h4
  have hmx : (9223372036854775807 : Nat) = maxLen := rfl
  have L : Hid (n ≤ maxLen ∧ no ≤ maxLen ∧ nb ≤ maxLen ∧ m ≤ maxLen) := ⟨l1, l2, l3, l4⟩
  rw [← hmx] at l1 l2 l3 l4
  clear h1 h2 h3 h4 hmx
  go_enter Try.func4, Try.ntmps4
  go_wp2_with fail
  refine (bytes13_any _ _ _ _ _ _ _ _ _ _ _ _ _ _ _ _ _ _ _ _ L.out.1 L.out.2.1 L.out.2.2.1 L.out.2.2.2).mono ?_
  rintro e wx ⟨b, rfl, rfl⟩
  clear L
  cases b
  · go_wp2_with fail
    go_ret
    exact ⟨rfl, Below.refl _ _⟩
  -- the four lengths
  by_cases hb1 : n ≤ 65536
  case neg =>
    go_wp2_with fail
    go_ret
    exact ⟨rfl, Below.refl _ _⟩
  by_cases hb2 : no ≤ 65536
  case neg =>
    go_wp2_with fail
    go_ret
    exact ⟨rfl, Below.refl _ _⟩
  by_cases hb3 : nb ≤ 65536
  case neg =>
    go_wp2_with fail
    go_ret
    exact ⟨rfl, Below.refl _ _⟩
  by_cases hb4 : m ≤ 65536
  case neg =>
    go_wp2_with fail
    go_ret
    exact ⟨rfl, Below.refl _ _⟩
  by_cases hb5 : n * 8 + no + nb + m * 8 ≤ 1048576
  case neg =>
    go_wp2_with fail
    go_ret
    exact ⟨rfl, Below.refl _ _⟩
  by_cases hb6 : n = no
  case neg =>
    have hb6' : ((no : Int) != (n : Int)) = true := by rw [bne_iff_ne]; omega
    go_wp2_with fail
    go_ret
    exact ⟨rfl, Below.refl _ _⟩
  subst hb6
  by_cases hb7 : n = nb
  case neg =>
    have hb7' : ((nb : Int) != (n : Int)) = true := by rw [bne_iff_ne]; omega
    go_wp2_with fail
    go_ret
    exact ⟨rfl, Below.refl _ _⟩
  subst hb7
  clear l1 l2 l3 l4 hb2 hb3
  go_wp2_with fail
  refine (inbox_any ai n ci zs 0 _ H1.out hb1 (by omega) (by omega)).mono ?_
  rintro e wy ⟨b, rfl, hz, rfl⟩
  cases b
  · clear hz
    go_wp2_with fail
    go_ret
    exact ⟨rfl, Below.refl _ _⟩
  have Hz : Hid (∀ z ∈ zs, 0 ≤ z ∧ z ≤ 65536) := hz rfl
  clear hz
  by_cases hep : 1 ≤ ep
  case neg =>
    go_wp2_with fail
    go_ret
    exact ⟨rfl, Below.refl _ _⟩
  go_wp2_with fail
  refine (epochs_any aa m ca ys ep _ H4.out.vrow hb4).mono ?_
  rintro e wy ⟨b, rfl, rfl⟩
  cases b
  · go_wp2_with fail
    go_ret
    exact ⟨rfl, Below.refl _ _⟩
  by_cases hk0 : 0 ≤ p
  case neg =>
    go_wp2_with fail
    go_ret
    exact ⟨rfl, Below.refl _ _⟩
  by_cases hk1 : p ≤ n
  case neg =>
    go_wp2_with fail
    go_ret
    exact ⟨rfl, Below.refl _ _⟩
  by_cases hj0 : 0 ≤ q
  case neg =>
    go_wp2_with fail
    go_ret
    exact ⟨rfl, Below.refl _ _⟩
  by_cases hj1 : q ≤ m
  case neg =>
    go_wp2_with fail
    go_ret
    exact ⟨rfl, Below.refl _ _⟩
  by_cases hp0 : 0 ≤ pin
  case neg =>
    go_wp2_with fail
    go_ret
    exact ⟨rfl, Below.refl _ _⟩
  by_cases hp1 : pin ≤ 65536
  case neg =>
    go_wp2_with fail
    go_ret
    exact ⟨rfl, Below.refl _ _⟩
  go_wp2_with fail
  refine (inbox_any ai n ci zs pin _ H1.out hb1 hp0 hp1).mono ?_
  rintro e wz ⟨b, rfl, -, rfl⟩
  cases b
  · go_wp2_with fail
    go_ret
    exact ⟨rfl, Below.refl _ _⟩
  by_cases hv0 : 0 ≤ v
  case neg =>
    go_wp2_with fail
    go_ret
    exact ⟨rfl, Below.refl _ _⟩
  by_cases hv1 : v ≤ ep
  case neg =>
    go_wp2_with fail
    go_ret
    exact ⟨rfl, Below.refl _ _⟩
  obtain ⟨P, rfl⟩ := Int.eq_ofNat_of_zero_le hk0
  obtain ⟨Q, rfl⟩ := Int.eq_ofNat_of_zero_le hj0
  have hP : P ≤ n := by omega
  have hQ : Q ≤ m := by omega
  obtain ⟨wy, rfl⟩ : ∃ x, x = wz := ⟨_, rfl⟩
  obtain ⟨CS, hCS⟩ : ∃ CS, CS = mkC zs os bs n := ⟨_, rfl⟩
  have HCS : Hid (CS = mkC zs os bs n) := hCS
  have Hcl : Hid (CS.length = n) := by unfold Hid; rw [hCS]; exact mkC_len _ _ _ _
  have Hat : Hid (∀ i z o b, i < n → zs[i]? = some z → os[i]? = some o → bs[i]? = some b → CS[i]? = some ⟨z.toNat, o, b⟩) := by
    intro i z o b hi g1 g2 g3; rw [hCS]; exact mkC_at hi g1 g2 g3
  clear hCS
  have hBy : Below wy.heap.size wy wy := Below.refl _ _
  go_wp2_with fail
  refine (clone_any aa m ca ys _ H4.out (by omega)).mono ?_
  rintro e u1 ⟨a1, c1, rfl, hv1, hbv1⟩
  have HV1 : Hid (VRow fI u1 a1 (m) (ys)) := hv1
  clear hv1
  go_wp2_with fail
  refine (new_any a1 (m) c1 _ ep _ HV1.out).mono ?_
  rintro e w1 ⟨rfl, hE1, hbw1⟩
  have HE1 : Hid (Exch w1 u1.heap.size a1 (m) c1 (ys) ep []) := hE1
  have hN1 : Below wy.heap.size wy w1 := hbv1.trans (hbw1.mono hbv1.size)
  have hB1 : Below wy.heap.size wy w1 := hBy.trans (hN1.mono hBy.size)
  have hse1 := hbv1.size
  have hz1 : wy.heap.size ≤ u1.heap.size := Nat.le_trans hBy.size hse1
  obtain ⟨e1, he1⟩ : ∃ x, x = u1.heap.size := ⟨_, rfl⟩
  rw [← he1] at HE1 hz1 hse1 ⊢
  clear hE1 hbv1 hbw1 HV1 he1
  go_wp2_with fail
  go_loopw [24] (fun i wr => AddRel e1 (m) c1 n a1 (ys) ep CS w1 i wr) (fun i _ => n - (intOf i).toNat)
  case atStart => exact ⟨0, by omega, rfl, HE1.out, Below.refl _ _⟩
  case round =>
    obtain ⟨x, hx1, rfl, hE, hbr⟩ := hrel
    have HE : Hid (Exch wr e1 a1 (m) c1 (ys) ep (CS.take x)) := hE
    have hBr : Below wy.heap.size wy wr := hB1.trans (hbr.mono hz1)
    clear hE
    by_cases hlt : x < n
    · skip
      obtain ⟨b1, o1, rfl, hl1, hc1⟩ := H1.out.row (by omega)
      obtain ⟨b2, o2, rfl, hl2, hc2⟩ := H2.out.row (by omega)
      obtain ⟨b3, o3, rfl, hl3, hc3⟩ := H3.out.row (by omega)
      obtain ⟨z, hz⟩ := getX H1.out.len (show x < n by omega)
      obtain ⟨o, ho⟩ := getX H2.out.len (show x < n by omega)
      obtain ⟨bb, hbb⟩ := getX H3.out.len (show x < n by omega)
      have g1 := (hBr.cell (p := ⟨b1, o1 + x, none⟩) hl1).trans (hc1 _ z hz)
      have g2 := (hBr.cell (p := ⟨b2, o2 + x, none⟩) hl2).trans (hc2 _ o ho)
      have g3 := (hBr.cell (p := ⟨b3, o3 + x, none⟩) hl3).trans (hc3 _ bb hbb)
      obtain ⟨hz0, hz1⟩ := Hz.out z (List.mem_of_getElem? hz)
      have HCT : Hid (CS[x]? = some ⟨z.toNat, o, bb⟩) := Hat.out _ z o bb (by omega) hz ho hbb
      have bl1 : b1 < e1 := by omega
      have bl2 : b2 < e1 := by omega
      have bl3 : b3 < e1 := by omega
      clear hz ho hbb hc1 hc2 hc3
      have hi0 : (0 : Int) ≤ (x : Int) := by omega
      have hi : (x : Int) < (n : Int) := by omega
      have HLn : Hid ((CS.take x).length ≤ 65536) := by have h := Hcl.out; unfold Hid; simp; omega
      go_wp2_with fail
      go_region_held3 (fun w' => w'.cell? ⟨b1, o1 + x, none⟩ = some (.int .i64 z) ∧ w'.cell? ⟨b2, o2 + x, none⟩ = some (.bool o) ∧ w'.cell? ⟨b3, o3 + x, none⟩ = some (.bool bb)) (first | go_keep | (refine ⟨?_, ?_, ?_⟩ <;> (rw [hbn.cell (by simpa using (by assumption))]; assumption)))
        ((go_at_call 10; refine (add_any e1 (m) c1 a1 (ys) ep (CS.take x) z o bb _ ?_ hz0 hz1 HLn.out).mono ?_; (first | exact HE.out | exact HE.out.below (Below.refl _ _).drew (Nat.le_refl _)); rintro e wn ⟨rfl, hEn, hbn⟩))
      have HEn : Hid (Exch wn e1 a1 (m) c1 (ys) ep (CS.take (x + 1))) := by unfold Hid; rw [take_snoc HCT.out]; exact hEn
      have hbN : Below e1 w1 wn := hbr.trans (below_undrew hbn)
      clear hEn hbn
      go_wp2_with fail
      go_roundw
      case rel => exact ⟨x + 1, by omega, by go_num, HEn.out, hbN⟩
      case measure => simp [intOf]; omega
    · have HEw : Hid (Exch wr e1 a1 (m) c1 (ys) ep CS) := by
        have h := HE.out
        rwa [show CS.take x = CS from List.take_of_length_le (by have h := Hcl.out; omega)] at h
      clear HE
      obtain ⟨W3, rfl⟩ : ∃ x, x = wr := ⟨_, rfl⟩
      have HX1 : Hid (Exch W3 e1 a1 m c1 ys ep CS) := HEw.out
      have hB3w : Below wy.heap.size wy W3 := hBr
      clear HEw hBr hbr
      go_wp2_with fail
      refine (clone_any aa m ca ys _ (H4.out.below hB3w) (by omega)).mono ?_
      rintro e u2 ⟨a2, c2, rfl, hv2, hbv2⟩
      have HV2 : Hid (VRow fI u2 a2 (m) (ys)) := hv2
      clear hv2
      go_wp2_with fail
      refine (new_any a2 (m) c2 _ ep _ HV2.out).mono ?_
      rintro e w2 ⟨rfl, hE2, hbw2⟩
      have HE2 : Hid (Exch w2 u2.heap.size a2 (m) c2 (ys) ep []) := hE2
      have hN2 : Below W3.heap.size W3 w2 := hbv2.trans (hbw2.mono hbv2.size)
      have hB2 : Below wy.heap.size wy w2 := hB3w.trans (hN2.mono hB3w.size)
      have hse2 := hbv2.size
      have hz2 : wy.heap.size ≤ u2.heap.size := Nat.le_trans hB3w.size hse2
      obtain ⟨e2, he2⟩ : ∃ x, x = u2.heap.size := ⟨_, rfl⟩
      rw [← he2] at HE2 hz2 hse2 ⊢
      clear hE2 hbv2 hbw2 HV2 he2
      go_wp2_with fail
      go_loopw [26] (fun i wr => InsRel e2 (m) c2 n P a2 (ys) ep CS (⟨pin.toNat, po, pb⟩ : Ctr) w2 i wr) (fun i _ => n + 1 - (intOf i).toNat)
      case atStart => exact ⟨0, by omega, rfl, by rw [insF_zero]; exact HE2.out, Below.refl _ _⟩
      case round =>
        obtain ⟨x, hx1, rfl, hE, hbr⟩ := hrel
        have HE : Hid (Exch wr e2 a2 (m) c2 (ys) ep (insF CS P (⟨pin.toNat, po, pb⟩ : Ctr) x)) := hE
        have hBr : Below wy.heap.size wy wr := hB2.trans (hbr.mono hz2)
        clear hE
        by_cases hxn : x ≤ n
        · have HLn : Hid (x < n ∨ x = P → (insF CS P (⟨pin.toNat, po, pb⟩ : Ctr) x).length ≤ 65536) := by
            intro hor
            have h := Hcl.out
            unfold insF
            split
            · simp; omega
            · simp; omega
          by_cases hxp : x = P
          · subst hxp
            have hxb : ((x : Int) == (x : Int)) = true := by simp
            have HLp : Hid ((insF CS x (⟨pin.toNat, po, pb⟩ : Ctr) x).length ≤ 65536) := HLn.out (.inr rfl)
            clear HLn
            go_wp2_with fail
            refine (add_any e2 (m) c2 a2 (ys) ep (insF CS x (⟨pin.toNat, po, pb⟩ : Ctr) x) pin po pb _ HE.out hp0 hp1 HLp.out).mono ?_
            rintro e wm ⟨rfl, hEm, hbm⟩
            have HEm : Hid (Exch wm e2 a2 (m) c2 (ys) ep (insF CS x (⟨pin.toNat, po, pb⟩ : Ctr) x ++ [(⟨pin.toNat, po, pb⟩ : Ctr)])) := hEm
            have hbM : Below e2 w2 wm := hbr.trans hbm
            clear hEm
            by_cases hlt : x < n
            · skip
              obtain ⟨wo, rfl⟩ : ∃ y, y = wr := ⟨_, rfl⟩
              replace hBr : Below wy.heap.size wy wm := hB2.trans (hbM.mono hz2)
              obtain ⟨b1, o1, rfl, hl1, hc1⟩ := H1.out.row (by omega)
              obtain ⟨b2, o2, rfl, hl2, hc2⟩ := H2.out.row (by omega)
              obtain ⟨b3, o3, rfl, hl3, hc3⟩ := H3.out.row (by omega)
              obtain ⟨z, hz⟩ := getX H1.out.len (show x < n by omega)
              obtain ⟨o, ho⟩ := getX H2.out.len (show x < n by omega)
              obtain ⟨bb, hbb⟩ := getX H3.out.len (show x < n by omega)
              have g1 := (hBr.cell (p := ⟨b1, o1 + x, none⟩) hl1).trans (hc1 _ z hz)
              have g2 := (hBr.cell (p := ⟨b2, o2 + x, none⟩) hl2).trans (hc2 _ o ho)
              have g3 := (hBr.cell (p := ⟨b3, o3 + x, none⟩) hl3).trans (hc3 _ bb hbb)
              obtain ⟨hz0, hz1⟩ := Hz.out z (List.mem_of_getElem? hz)
              have HCT : Hid (CS[x]? = some ⟨z.toNat, o, bb⟩) := Hat.out _ z o bb (by omega) hz ho hbb
              have bl1 : b1 < e2 := by omega
              have bl2 : b2 < e2 := by omega
              have bl3 : b3 < e2 := by omega
              clear hz ho hbb hc1 hc2 hc3
              have hi0 : (0 : Int) ≤ (x : Int) := by omega
              have hi : (x : Int) < (n : Int) := by omega
              have HLm : Hid ((insF CS x (⟨pin.toNat, po, pb⟩ : Ctr) x ++ [(⟨pin.toNat, po, pb⟩ : Ctr)]).length ≤ 65536) := by unfold Hid; have h := Hcl.out; unfold insF; rw [if_pos (Nat.le_refl _)]; simp; omega
              go_wp2_with fail
              go_region_held3 (fun w' => w'.cell? ⟨b1, o1 + x, none⟩ = some (.int .i64 z) ∧ w'.cell? ⟨b2, o2 + x, none⟩ = some (.bool o) ∧ w'.cell? ⟨b3, o3 + x, none⟩ = some (.bool bb)) (first | go_keep | (refine ⟨?_, ?_, ?_⟩ <;> (rw [hbn.cell (by simpa using (by assumption))]; assumption)))
                ((go_at_call 10; refine (add_any e2 (m) c2 a2 (ys) ep (insF CS x (⟨pin.toNat, po, pb⟩ : Ctr) x ++ [(⟨pin.toNat, po, pb⟩ : Ctr)]) z o bb _ ?_ hz0 hz1 HLm.out).mono ?_; (first | exact HEm.out | exact HEm.out.below (Below.refl _ _).drew (Nat.le_refl _)); rintro e wn ⟨rfl, hEn, hbn⟩))
              have HEn : Hid (Exch wn e2 a2 (m) c2 (ys) ep (insF CS x (⟨pin.toNat, po, pb⟩ : Ctr) (x + 1))) := by unfold Hid; rw [insF_at HCT.out]; exact hEn
              have hbN : Below e2 w2 wn := hbM.trans (below_undrew hbn)
              clear hEn hbn
              go_wp2_with fail
              go_roundw
              case rel => exact ⟨x + 1, by omega, by go_num, HEn.out, hbN⟩
              case measure => simp [intOf]; omega
            · have HEn : Hid (Exch wm e2 a2 (m) c2 (ys) ep (insF CS x (⟨pin.toNat, po, pb⟩ : Ctr) (x + 1))) := by unfold Hid; rw [insF_end (by have h := Hcl.out; omega)]; exact HEm.out
              go_wp2_with fail
              go_roundw
              case rel => exact ⟨x + 1, by omega, by go_num, HEn.out, hbM⟩
              case measure => simp [intOf]; omega
          · have hxb : ((x : Int) == (P : Int)) = false := by simp; omega
            by_cases hlt : x < n
            · skip
              obtain ⟨b1, o1, rfl, hl1, hc1⟩ := H1.out.row (by omega)
              obtain ⟨b2, o2, rfl, hl2, hc2⟩ := H2.out.row (by omega)
              obtain ⟨b3, o3, rfl, hl3, hc3⟩ := H3.out.row (by omega)
              obtain ⟨z, hz⟩ := getX H1.out.len (show x < n by omega)
              obtain ⟨o, ho⟩ := getX H2.out.len (show x < n by omega)
              obtain ⟨bb, hbb⟩ := getX H3.out.len (show x < n by omega)
              have g1 := (hBr.cell (p := ⟨b1, o1 + x, none⟩) hl1).trans (hc1 _ z hz)
              have g2 := (hBr.cell (p := ⟨b2, o2 + x, none⟩) hl2).trans (hc2 _ o ho)
              have g3 := (hBr.cell (p := ⟨b3, o3 + x, none⟩) hl3).trans (hc3 _ bb hbb)
              obtain ⟨hz0, hz1⟩ := Hz.out z (List.mem_of_getElem? hz)
              have HCT : Hid (CS[x]? = some ⟨z.toNat, o, bb⟩) := Hat.out _ z o bb (by omega) hz ho hbb
              have bl1 : b1 < e2 := by omega
              have bl2 : b2 < e2 := by omega
              have bl3 : b3 < e2 := by omega
              clear hz ho hbb hc1 hc2 hc3
              have hi0 : (0 : Int) ≤ (x : Int) := by omega
              have hi : (x : Int) < (n : Int) := by omega
              have HLm : Hid ((insF CS P (⟨pin.toNat, po, pb⟩ : Ctr) x).length ≤ 65536) := HLn.out (.inl hlt)
              go_wp2_with fail
              go_region_held3 (fun w' => w'.cell? ⟨b1, o1 + x, none⟩ = some (.int .i64 z) ∧ w'.cell? ⟨b2, o2 + x, none⟩ = some (.bool o) ∧ w'.cell? ⟨b3, o3 + x, none⟩ = some (.bool bb)) (first | go_keep | (refine ⟨?_, ?_, ?_⟩ <;> (rw [hbn.cell (by simpa using (by assumption))]; assumption)))
                ((go_at_call 10; refine (add_any e2 (m) c2 a2 (ys) ep (insF CS P (⟨pin.toNat, po, pb⟩ : Ctr) x) z o bb _ ?_ hz0 hz1 HLm.out).mono ?_; (first | exact HE.out | exact HE.out.below (Below.refl _ _).drew (Nat.le_refl _)); rintro e wn ⟨rfl, hEn, hbn⟩))
              have HEn : Hid (Exch wn e2 a2 (m) c2 (ys) ep (insF CS P (⟨pin.toNat, po, pb⟩ : Ctr) (x + 1))) := by unfold Hid; rw [insF_step hxp HCT.out]; exact hEn
              have hbN : Below e2 w2 wn := hbr.trans (below_undrew hbn)
              clear hEn hbn
              go_wp2_with fail
              go_roundw
              case rel => exact ⟨x + 1, by omega, by go_num, HEn.out, hbN⟩
              case measure => simp [intOf]; omega
            · have HEn : Hid (Exch wr e2 a2 (m) c2 (ys) ep (insF CS P (⟨pin.toNat, po, pb⟩ : Ctr) (x + 1))) := by
                obtain rfl : x = n := by omega
                unfold Hid; rw [insF_last Hcl.out (by omega)]; exact HE.out
              go_wp2_with fail
              go_roundw
              case rel => exact ⟨x + 1, by omega, by go_num, HEn.out, hbr⟩
              case measure => simp [intOf]; omega
        · have HEw : Hid (Exch wr e2 a2 (m) c2 (ys) ep (CS.take P ++ (⟨pin.toNat, po, pb⟩ : Ctr) :: CS.drop P)) := by
            have h := HE.out
            rwa [show x = n + 1 from by omega, insF_all Hcl.out hP] at h
          clear HE
          obtain ⟨W5, rfl⟩ : ∃ x, x = wr := ⟨_, rfl⟩
          have HY1 : Hid (Exch W5 e1 a1 m c1 ys ep CS) := HX1.out.below (hN2.trans (hbr.mono hse2)) (Nat.le_refl _)
          have HY2 : Hid (Exch W5 e2 a2 m c2 ys ep (CS.take P ++ ⟨pin.toNat, po, pb⟩ :: CS.drop P)) := HEw.out
          have hB5 : Below wy.heap.size wy W5 := hBr
          clear HEw hBr hbr HX1
          go_wp2_with fail
          refine (insert_any aa m ca Q ys v _ (H4.out.below hB5) hb4 hQ).mono ?_
          rintro e u3 ⟨a3, c3, rfl, hv3, hbv3⟩
          have HV3 : Hid (VRow fI u3 a3 (m + 1) (ys.take Q ++ v :: ys.drop Q)) := hv3
          clear hv3
          go_wp2_with fail
          refine (new_any a3 (m + 1) c3 _ ep _ HV3.out).mono ?_
          rintro e w3 ⟨rfl, hE3, hbw3⟩
          have HE3 : Hid (Exch w3 u3.heap.size a3 (m + 1) c3 (ys.take Q ++ v :: ys.drop Q) ep []) := hE3
          have hN3 : Below W5.heap.size W5 w3 := hbv3.trans (hbw3.mono hbv3.size)
          have hB3 : Below wy.heap.size wy w3 := hB5.trans (hN3.mono hB5.size)
          have hse3 := hbv3.size
          have hz3 : wy.heap.size ≤ u3.heap.size := Nat.le_trans hB5.size hse3
          obtain ⟨e3, he3⟩ : ∃ x, x = u3.heap.size := ⟨_, rfl⟩
          rw [← he3] at HE3 hz3 hse3 ⊢
          clear hE3 hbv3 hbw3 HV3 he3
          go_wp2_with fail
          go_loopw [28] (fun i wr => AddRel e3 (m + 1) c3 n a3 (ys.take Q ++ v :: ys.drop Q) ep CS w3 i wr) (fun i _ => n - (intOf i).toNat)
          case atStart => exact ⟨0, by omega, rfl, HE3.out, Below.refl _ _⟩
          case round =>
            obtain ⟨x, hx1, rfl, hE, hbr⟩ := hrel
            have HE : Hid (Exch wr e3 a3 (m + 1) c3 (ys.take Q ++ v :: ys.drop Q) ep (CS.take x)) := hE
            have hBr : Below wy.heap.size wy wr := hB3.trans (hbr.mono hz3)
            clear hE
            by_cases hlt : x < n
            · skip
              obtain ⟨b1, o1, rfl, hl1, hc1⟩ := H1.out.row (by omega)
              obtain ⟨b2, o2, rfl, hl2, hc2⟩ := H2.out.row (by omega)
              obtain ⟨b3, o3, rfl, hl3, hc3⟩ := H3.out.row (by omega)
              obtain ⟨z, hz⟩ := getX H1.out.len (show x < n by omega)
              obtain ⟨o, ho⟩ := getX H2.out.len (show x < n by omega)
              obtain ⟨bb, hbb⟩ := getX H3.out.len (show x < n by omega)
              have g1 := (hBr.cell (p := ⟨b1, o1 + x, none⟩) hl1).trans (hc1 _ z hz)
              have g2 := (hBr.cell (p := ⟨b2, o2 + x, none⟩) hl2).trans (hc2 _ o ho)
              have g3 := (hBr.cell (p := ⟨b3, o3 + x, none⟩) hl3).trans (hc3 _ bb hbb)
              obtain ⟨hz0, hz1⟩ := Hz.out z (List.mem_of_getElem? hz)
              have HCT : Hid (CS[x]? = some ⟨z.toNat, o, bb⟩) := Hat.out _ z o bb (by omega) hz ho hbb
              have bl1 : b1 < e3 := by omega
              have bl2 : b2 < e3 := by omega
              have bl3 : b3 < e3 := by omega
              clear hz ho hbb hc1 hc2 hc3
              have hi0 : (0 : Int) ≤ (x : Int) := by omega
              have hi : (x : Int) < (n : Int) := by omega
              have HLn : Hid ((CS.take x).length ≤ 65536) := by have h := Hcl.out; unfold Hid; simp; omega
              go_wp2_with fail
              go_region_held3 (fun w' => w'.cell? ⟨b1, o1 + x, none⟩ = some (.int .i64 z) ∧ w'.cell? ⟨b2, o2 + x, none⟩ = some (.bool o) ∧ w'.cell? ⟨b3, o3 + x, none⟩ = some (.bool bb)) (first | go_keep | (refine ⟨?_, ?_, ?_⟩ <;> (rw [hbn.cell (by simpa using (by assumption))]; assumption)))
                ((go_at_call 10; refine (add_any e3 (m + 1) c3 a3 (ys.take Q ++ v :: ys.drop Q) ep (CS.take x) z o bb _ ?_ hz0 hz1 HLn.out).mono ?_; (first | exact HE.out | exact HE.out.below (Below.refl _ _).drew (Nat.le_refl _)); rintro e wn ⟨rfl, hEn, hbn⟩))
              have HEn : Hid (Exch wn e3 a3 (m + 1) c3 (ys.take Q ++ v :: ys.drop Q) ep (CS.take (x + 1))) := by unfold Hid; rw [take_snoc HCT.out]; exact hEn
              have hbN : Below e3 w3 wn := hbr.trans (below_undrew hbn)
              clear hEn hbn
              go_wp2_with fail
              go_roundw
              case rel => exact ⟨x + 1, by omega, by go_num, HEn.out, hbN⟩
              case measure => simp [intOf]; omega
            · have HEw : Hid (Exch wr e3 a3 (m + 1) c3 (ys.take Q ++ v :: ys.drop Q) ep CS) := by
                have h := HE.out
                rwa [show CS.take x = CS from List.take_of_length_le (by have h := Hcl.out; omega)] at h
              clear HE
              obtain ⟨W7, rfl⟩ : ∃ x, x = wr := ⟨_, rfl⟩
              have HX1 : Hid (Exch W7 e1 a1 m c1 ys ep CS) := HY1.out.below (hN3.trans (hbr.mono hse3)) (Nat.le_refl _)
              have HX2 : Hid (Exch W7 e2 a2 m c2 ys ep (CS.take P ++ ⟨pin.toNat, po, pb⟩ :: CS.drop P)) := HY2.out.below (hN3.trans (hbr.mono hse3)) (Nat.le_refl _)
              have HX3 : Hid (Exch W7 e3 a3 (m + 1) c3 (ys.take Q ++ v :: ys.drop Q) ep CS) := HEw.out
              have HL8 : Hid ((CS.take P ++ (⟨pin.toNat, po, pb⟩ : Ctr) :: CS.drop P).length ≤ 65537 ∧ CS.length ≤ 65537) := by have h := Hcl.out; unfold Hid; simp; omega
              obtain ⟨r, hr⟩ : ∃ r, endedB CS ys ep = r := ⟨_, rfl⟩
              obtain ⟨r2, hr2⟩ : ∃ r, endedB (CS.take P ++ ⟨pin.toNat, po, pb⟩ :: CS.drop P) ys ep = r := ⟨_, rfl⟩
              obtain ⟨r3, hr3⟩ : ∃ r, endedB CS (ys.take Q ++ v :: ys.drop Q) ep = r := ⟨_, rfl⟩
              obtain ⟨kp, hkp⟩ : ∃ kp, (pin == 0) = kp := ⟨_, rfl⟩
              obtain ⟨kv, hkv⟩ : ∃ kv, (v == ep) = kv := ⟨_, rfl⟩
              have hrr2 : r2 = (r && (kp && !po && !pb)) := by
                rw [← hr, ← hr2, ← hkp, ended_ins1]
                unfold quiet
                rw [show (pin.toNat == 0) = (pin == 0) from by rw [Bool.eq_iff_iff, beq_iff_eq, beq_iff_eq]; omega]
              have hrr3 : r3 = (r && kv) := by rw [← hr, ← hr3, ← hkv, ended_ins2]
              have hPe : (pendC zs os bs n + pendA ys ep m == 0) = r := by rw [← hr, HCS.out]; exact pend_ended zs os bs ys ep n m H4.out.len Hz.out
              have Hr : Hid (endedB CS ys ep = r) := hr
              have Hr2 : Hid (endedB (CS.take P ++ ⟨pin.toNat, po, pb⟩ :: CS.drop P) ys ep = r2) := hr2
              have Hr3 : Hid (endedB CS (ys.take Q ++ v :: ys.drop Q) ep = r3) := hr3
              obtain ⟨PP, hPP⟩ : ∃ PP, pendC zs os bs n + pendA ys ep m = PP := ⟨_, rfl⟩
              have HPP : Hid (pendC zs os bs n + pendA ys ep m = PP) := hPP
              rw [hPP] at hPe
              clear hr hr2 hr3 hPP HEw hbr HY1 HY2
              go_wp2_with fail
              refine (Ended_any e1 m c1 a1 ys ep CS _ HX1.out HL8.out.2 (by omega)).mono ?_
              rintro e t1 ⟨rfl, rfl⟩
              rw [Hr.out]
              go_wp2_with fail
              refine (pending_any ai ao ab aa n m ci co cb ca zs os bs ys ep _ (H1.out.below hBr (Nat.le_refl _)) (H2.out.below hBr (Nat.le_refl _)) (H3.out.below hBr (Nat.le_refl _)) (H4.out.below hBr).vrow hb1 hb4 Hz.out).mono ?_
              rintro e t2 ⟨rfl, rfl⟩
              rw [HPP.out]
              cases r
              · have e2' : r2 = false := by rw [hrr2]; rfl
                have e3' : r3 = false := by rw [hrr3]; rfl
                subst e2'
                subst e3'
                clear hrr2 hrr3
                go_wp2_with fail
                refine (Ended_any e2 m c2 a2 _ ep _ _ HX2.out HL8.out.1 (by omega)).mono ?_
                rintro e t3 ⟨rfl, rfl⟩
                rw [Hr2.out]
                go_wp2_with fail
                refine (Ended_any e3 (m + 1) c3 a3 _ ep _ _ HX3.out HL8.out.2 (by omega)).mono ?_
                rintro e t4 ⟨rfl, rfl⟩
                rw [Hr3.out]
                go_wp2_with fail
                go_ret
                exact ⟨rfl, hBr⟩
              · have e3' : r3 = kv := by rw [hrr3]; cases kv <;> rfl
                subst e3'
                clear hrr3
                cases kp
                · subst hrr2
                  go_wp2_with fail
                  refine (Ended_any e2 m c2 a2 _ ep _ _ HX2.out HL8.out.1 (by omega)).mono ?_
                  rintro e t3 ⟨rfl, rfl⟩
                  rw [Hr2.out]
                  cases r3
                  all_goals
                    go_wp2_with fail
                    refine (Ended_any e3 (m + 1) c3 a3 _ ep _ _ HX3.out HL8.out.2 (by omega)).mono ?_
                    rintro e t4 ⟨rfl, rfl⟩
                    rw [Hr3.out]
                    go_wp2_with fail
                    go_ret
                    exact ⟨rfl, hBr⟩
                cases po
                · cases pb
                  · subst hrr2
                    go_wp2_with fail
                    refine (Ended_any e2 m c2 a2 _ ep _ _ HX2.out HL8.out.1 (by omega)).mono ?_
                    rintro e t3 ⟨rfl, rfl⟩
                    rw [Hr2.out]
                    cases r3
                    all_goals
                      go_wp2_with fail
                      refine (Ended_any e3 (m + 1) c3 a3 _ ep _ _ HX3.out HL8.out.2 (by omega)).mono ?_
                      rintro e t4 ⟨rfl, rfl⟩
                      rw [Hr3.out]
                      go_wp2_with fail
                      go_ret
                      exact ⟨rfl, hBr⟩
                  · subst hrr2
                    go_wp2_with fail
                    refine (Ended_any e2 m c2 a2 _ ep _ _ HX2.out HL8.out.1 (by omega)).mono ?_
                    rintro e t3 ⟨rfl, rfl⟩
                    rw [Hr2.out]
                    cases r3
                    all_goals
                      go_wp2_with fail
                      refine (Ended_any e3 (m + 1) c3 a3 _ ep _ _ HX3.out HL8.out.2 (by omega)).mono ?_
                      rintro e t4 ⟨rfl, rfl⟩
                      rw [Hr3.out]
                      go_wp2_with fail
                      go_ret
                      exact ⟨rfl, hBr⟩
                · subst hrr2
                  go_wp2_with fail
                  refine (Ended_any e2 m c2 a2 _ ep _ _ HX2.out HL8.out.1 (by omega)).mono ?_
                  rintro e t3 ⟨rfl, rfl⟩
                  rw [Hr2.out]
                  cases r3
                  all_goals
                    go_wp2_with fail
                    refine (Ended_any e3 (m + 1) c3 a3 _ ep _ _ HX3.out HL8.out.2 (by omega)).mono ?_
                    rintro e t4 ⟨rfl, rfl⟩
                    rw [Hr3.out]
                    go_wp2_with fail
                    go_ret
                    exact ⟨rfl, hBr⟩
end Go.Proofs.Qxb6615031a
