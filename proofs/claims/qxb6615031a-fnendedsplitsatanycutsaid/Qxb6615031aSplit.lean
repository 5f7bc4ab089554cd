/-
  The walk of FnEndedSplitsAtAnyCut.
-/
import Derived.Test.Qxb6615031aParts
namespace Go.Proofs.Qxb6615031a
open Go.ChangeShapes Go.WideShapes Go.ChangeAt Go.RowKit
set_option linter.unusedVariables false
attribute [local go_sem ↓] Go.wp_at_zero Go.wp_at_succ

def BytesPost (w : World) (e : Ending) (w' : World) : Prop := ∃ b, e = .returned (.bool b) ∧ w' = w
theorem BytesPost.mk {w : World} (b : Bool) : BytesPost w (.returned (.bool b)) w := ⟨b, rfl, rfl⟩

theorem bytes5_any (a1 a2 a3 a4 : Option Addr) (n1 n2 n3 n4 c1 c2 c3 c4 : Nat) (x y z : Int) (w : World) (h1 : n1 ≤ maxLen) (h2 : n2 ≤ maxLen) (h3 : n3 ≤ maxLen) (h4 : n4 ≤ maxLen) :
    Calls Try.prog 5 #[.slice a1 n1 c1, .slice a2 n2 c2, .slice a3 n3 c3, .slice a4 n4 c4, .int .i64 x, .int .i64 y, .int .i64 z] w (BytesPost w) := by
  unfold maxLen at h1 h2 h3 h4
  go_enter Try.func5, Try.ntmps5
  go_wp2
  all_goals go_ret
  all_goals exact BytesPost.mk _

def LawPost (w : World) (e : Ending) (w' : World) : Prop := e = .returned (.bool true) ∧ Below w.heap.size w w'
/-- A loop that adds centres to the exchange in eb: it holds the first k of us. -/
def AddRel (eb m c n base : Nat) (ao : Option Addr) (ys : List Int) (ep : Int) (us : List Ctr) (w : World) (i : Value) (wr : World) : Prop := ∃ x : Nat, base ≤ x ∧ x ≤ n ∧ i = .int .i64 x ∧ Exch wr eb ao m c ys ep (us.take (x - base)) ∧ Below eb w wr

/-- A new exchange over a part of the deliveries. -/
def CutX (cnt : Nat) (part : List Int) (ep : Int) (W : World) (v : Value) (w1 : World) : Prop := ∃ eb a c, v = .pointer (some ⟨eb, 0, none⟩) ∧ Exch w1 eb a cnt c part ep [] ∧ W.heap.size ≤ eb ∧ Below W.heap.size W w1
theorem ISl.take {w : World} {ao : Option Addr} {n c : Nat} {zs : List Int} (h : ISl w ao n c zs) {J : Nat} (hJ : J ≤ n) : ISl w ao J c (zs.take J) :=
  ⟨by have := h.len; simp; omega, Nat.le_trans hJ h.le, h.nil, fun a ha i z hz => h.cells a ha i z (by rw [List.getElem?_take] at hz; split at hz; exact hz; cases hz)⟩

theorem addr_add (a : Addr) (i j : Nat) : (a.add i).add j = a.add (i + j) := by
  unfold Addr.add
  by_cases hi : i = 0 <;> by_cases hj : j = 0 <;> simp [hi, hj, Nat.add_assoc]
theorem ISl.drop {w : World} {a : Addr} {n c : Nat} {zs : List Int} (h : ISl w (some a) n c zs) {J : Nat} (hJ : J ≤ n) : ISl w (some (a.add J)) (n - J) (c - J) (zs.drop J) :=
  ⟨by have := h.len; simp; omega, by have := h.le; omega, by simp, fun b hb i z hz => by
    cases hb
    rw [addr_add]
    exact h.cells a rfl _ z (by rw [List.getElem?_drop] at hz; exact hz)⟩
theorem take_take_snoc {α : Type} {l : List α} {K i : Nat} {x : α} (hi : i < K) (h : l[i]? = some x) : (l.take K).take (i + 1) = (l.take K).take i ++ [x] := take_snoc (by rw [List.getElem?_take, if_pos hi]; exact h)

theorem below_undrew {w w' : World} {B : Nat} (h : Below B w.drew w') : Below B w w' := ⟨h.os, h.tape, h.output, h.size, h.block⟩

set_option maxRecDepth 100000 in
set_option maxHeartbeats 8000000 in
theorem split_walk (ai ao ab aa : Option Addr) (n no nb m ci co cb ca : Nat) (zs : List Int) (os bs : List Bool) (ys : List Int) (ep k j : Int) (w : World)
    (h1 : VRow fI w ai n zs) (h2 : VRow fB w ao no os) (h3 : VRow fB w ab nb bs) (h4 : ISl w aa m ca ys) (l1 : n ≤ maxLen) (l2 : no ≤ maxLen) (l3 : nb ≤ maxLen) (l4 : m ≤ maxLen) :
    Calls Try.prog 3 #[.slice ai n ci, .slice ao no co, .slice ab nb cb, .slice aa m ca, .int .i64 ep, .int .i64 k, .int .i64 j] w (LawPost w) := by
  have H1 : Hid (VRow fI w ai n zs) := h1
  have H2 : Hid (VRow fB w ao no os) := h2
  have H3 : Hid (VRow fB w ab nb bs) := h3
  have H4 : Hid (ISl w aa m ca ys) := h4
  have hmx : (9223372036854775807 : Nat) = maxLen := rfl
  have L : Hid (n ≤ maxLen ∧ no ≤ maxLen ∧ nb ≤ maxLen ∧ m ≤ maxLen) := ⟨l1, l2, l3, l4⟩
  rw [← hmx] at l1 l2 l3 l4
  clear h1 h2 h3 h4 hmx
  go_enter Try.func3, Try.ntmps3
  go_wp2_with fail
  refine (bytes5_any _ _ _ _ _ _ _ _ _ _ _ _ _ _ _ _ L.out.1 L.out.2.1 L.out.2.2.1 L.out.2.2.2).mono ?_
  rintro e wx ⟨b, rfl, rfl⟩
  clear L
  cases b
  · go_wp2_with fail
    go_ret
    exact ⟨rfl, Below.refl _ _⟩
  -- the four lengths
  by_cases hb1 : n ≤ 65536
  case neg =>
    go_wp2_with fail
    go_ret
    exact ⟨rfl, Below.refl _ _⟩
  by_cases hb2 : no ≤ 65536
  case neg =>
    go_wp2_with fail
    go_ret
    exact ⟨rfl, Below.refl _ _⟩
  by_cases hb3 : nb ≤ 65536
  case neg =>
    go_wp2_with fail
    go_ret
    exact ⟨rfl, Below.refl _ _⟩
  by_cases hb4 : m ≤ 65536
  case neg =>
    go_wp2_with fail
    go_ret
    exact ⟨rfl, Below.refl _ _⟩
  by_cases hb5 : n * 8 + no + nb + m * 8 ≤ 1048576
  case neg =>
    go_wp2_with fail
    go_ret
    exact ⟨rfl, Below.refl _ _⟩
  by_cases hb6 : n = no
  case neg =>
    have hb6' : ((no : Int) != (n : Int)) = true := by rw [bne_iff_ne]; omega
    go_wp2_with fail
    go_ret
    exact ⟨rfl, Below.refl _ _⟩
  subst hb6
  by_cases hb7 : n = nb
  case neg =>
    have hb7' : ((nb : Int) != (n : Int)) = true := by rw [bne_iff_ne]; omega
    go_wp2_with fail
    go_ret
    exact ⟨rfl, Below.refl _ _⟩
  subst hb7
  clear l1 l2 l3 l4 hb2 hb3
  go_wp2_with fail
  refine (inbox_any ai n ci zs 0 _ H1.out hb1 (by omega) (by omega)).mono ?_
  rintro e wy ⟨b, rfl, hz, rfl⟩
  cases b
  · clear hz
    go_wp2_with fail
    go_ret
    exact ⟨rfl, Below.refl _ _⟩
  have Hz : Hid (∀ z ∈ zs, 0 ≤ z ∧ z ≤ 65536) := hz rfl
  clear hz
  by_cases hep : 1 ≤ ep
  case neg =>
    go_wp2_with fail
    go_ret
    exact ⟨rfl, Below.refl _ _⟩
  go_wp2_with fail
  refine (epochs_any aa m ca ys ep _ H4.out.vrow hb4).mono ?_
  rintro e wy ⟨b, rfl, rfl⟩
  cases b
  · go_wp2_with fail
    go_ret
    exact ⟨rfl, Below.refl _ _⟩
  by_cases hk0 : 0 ≤ k
  case neg =>
    go_wp2_with fail
    go_ret
    exact ⟨rfl, Below.refl _ _⟩
  by_cases hk1 : k ≤ n
  case neg =>
    go_wp2_with fail
    go_ret
    exact ⟨rfl, Below.refl _ _⟩
  by_cases hj0 : 0 ≤ j
  case neg =>
    go_wp2_with fail
    go_ret
    exact ⟨rfl, Below.refl _ _⟩
  by_cases hj1 : j ≤ m
  case neg =>
    go_wp2_with fail
    go_ret
    exact ⟨rfl, Below.refl _ _⟩
  obtain ⟨K, rfl⟩ := Int.eq_ofNat_of_zero_le hk0
  obtain ⟨J, rfl⟩ := Int.eq_ofNat_of_zero_le hj0
  have hK : K ≤ n := by omega
  have hJ : J ≤ m := by omega
  obtain ⟨CS, hCS⟩ : ∃ CS, CS = mkC zs os bs n := ⟨_, rfl⟩
  have HCS : Hid (CS = mkC zs os bs n) := hCS
  have Hcl : Hid (CS.length = n) := by unfold Hid; rw [hCS]; exact mkC_len _ _ _ _
  have Hat : Hid (∀ i z o b, i < n → zs[i]? = some z → os[i]? = some o → bs[i]? = some b → CS[i]? = some ⟨z.toNat, o, b⟩) := by
    intro i z o b hi g1 g2 g3; rw [hCS]; exact mkC_at hi g1 g2 g3
  clear hCS
  go_wp2_with fail
  refine (clone_any aa m ca ys _ H4.out (by omega)).mono ?_
  rintro e w1 ⟨a1, c1, rfl, hv1, hb1'⟩
  have HV1 : Hid (VRow fI w1 a1 m ys) := hv1
  clear hv1
  go_wp2_with fail
  refine (new_any a1 m c1 ys ep _ HV1.out).mono ?_
  rintro e w2 ⟨rfl, hE2, hb2'⟩
  have HE2 : Hid (Exch w2 w1.heap.size a1 m c1 ys ep (CS.take 0)) := hE2
  have hB2 : Below wy.heap.size wy w2 := hb1'.trans (hb2'.mono hb1'.size)
  have hz1 := hb1'.size
  obtain ⟨e1, he1⟩ : ∃ x, x = w1.heap.size := ⟨_, rfl⟩
  rw [← he1] at HE2 hz1 ⊢
  clear hE2 hb1' hb2' HV1 he1
  go_wp2_with fail
  go_loopw [16] (fun i wr => AddRel e1 m c1 n 0 a1 ys ep CS w2 i wr) (fun i _ => n - (intOf i).toNat)
  case atStart => exact ⟨0, Nat.le_refl _, by omega, rfl, by rw [Nat.sub_self]; exact HE2.out, Below.refl _ _⟩
  case round =>
    obtain ⟨x, hx0, hx1, rfl, hE, hbr⟩ := hrel
    have HE : Hid (Exch wr e1 a1 m c1 ys ep ((CS).take (x - 0))) := hE
    have hBr : Below wy.heap.size wy wr := hB2.trans (hbr.mono hz1)
    clear hE
    by_cases hlt : x < n
    · obtain ⟨b1, o1, rfl, hl1, hc1⟩ := H1.out.row (by omega)
      obtain ⟨b2, o2, rfl, hl2, hc2⟩ := H2.out.row (by omega)
      obtain ⟨b3, o3, rfl, hl3, hc3⟩ := H3.out.row (by omega)
      obtain ⟨z, hz⟩ := getX H1.out.len (show x < n by omega)
      obtain ⟨o, ho⟩ := getX H2.out.len (show x < n by omega)
      obtain ⟨bb, hbb⟩ := getX H3.out.len (show x < n by omega)
      have g1 := (hBr.cell (p := ⟨b1, o1 + x, none⟩) hl1).trans (hc1 _ z hz)
      have g2 := (hBr.cell (p := ⟨b2, o2 + x, none⟩) hl2).trans (hc2 _ o ho)
      have g3 := (hBr.cell (p := ⟨b3, o3 + x, none⟩) hl3).trans (hc3 _ bb hbb)
      obtain ⟨hz0, hz1⟩ := Hz.out z (List.mem_of_getElem? hz)
      have HCT : Hid (CS[x]? = some ⟨z.toNat, o, bb⟩) := Hat.out _ z o bb (by omega) hz ho hbb
      have HLn : Hid (((CS).take (x - 0)).length ≤ 65536) := by have h := Hcl.out; unfold Hid; simp; omega
      have bl1 : b1 < e1 := by omega
      have bl2 : b2 < e1 := by omega
      have bl3 : b3 < e1 := by omega
      clear hz ho hbb hc1 hc2 hc3
      have hi0 : (0 : Int) ≤ (x : Int) := by omega
      have hi : (x : Int) < (n : Int) := by omega
      have hi2 : (x : Int) < (n : Int) := by omega
      go_wp2_with fail
      go_region_held3 (fun w' => w'.cell? ⟨b1, o1 + x, none⟩ = some (.int .i64 z) ∧ w'.cell? ⟨b2, o2 + x, none⟩ = some (.bool o) ∧ w'.cell? ⟨b3, o3 + x, none⟩ = some (.bool bb)) (first | go_keep | (refine ⟨?_, ?_, ?_⟩ <;> (rw [hbn.cell (by simpa using (by assumption))]; assumption)))
        ((go_at_call 10; refine (add_any e1 m c1 a1 ys ep ((CS).take (x - 0)) z o bb _ ?_ hz0 hz1 HLn.out).mono ?_; (first | exact HE.out | exact HE.out.below (Below.refl _ _).drew (Nat.le_refl _)); rintro e wn ⟨rfl, hEn, hbn⟩))
      have HEn : Hid (Exch wn e1 a1 m c1 ys ep ((CS).take (x + 1 - 0))) := by unfold Hid; rw [show x + 1 - 0 = (x - 0) + 1 from by omega, take_snoc (i := x - 0) HCT.out]; exact hEn
      have hbN : Below e1 w2 wn := hbr.trans (below_undrew hbn)
      clear hEn hbn
      go_wp2_with fail
      go_roundw
      case rel => exact ⟨x + 1, by omega, by omega, by go_num, HEn.out, hbN⟩
      case measure => simp [intOf]; omega
    · have HEw : Hid (Exch wr e1 a1 m c1 ys ep (CS)) := by
        have h := HE.out
        rwa [show (CS).take (x - 0) = CS from List.take_of_length_le (by have h := Hcl.out; simp; omega)] at h
      clear HE
      obtain ⟨W3, rfl⟩ : ∃ x, x = wr := ⟨_, rfl⟩
      have HW : Hid (Exch W3 e1 a1 m c1 ys ep CS) := HEw.out
      have hB3 : Below wy.heap.size wy W3 := hBr
      have HA3 : Hid (ISl W3 aa m ca ys) := H4.out.below hBr
      clear HEw hBr hbr HE2
      go_upto_region 18 with fail
      go_cut [17] (fun v w1 => CutX J (ys.take J) ep W3 v w1)
      case first =>
        have hcap := HA3.out.le
        have HA4 : Hid (ISl W3 aa J ca (ys.take J)) := HA3.out.take hJ
        cases aa with
        | none =>
          have h0 := HA3.out.nil rfl
          subst h0
          have hJ0 : J = 0 := by omega
          have hm0 : m = 0 := by omega
          subst hJ0
          subst hm0
          go_wp2_with fail
          refine (clone_any none 0 0 _ _ HA4.out (by omega)).mono ?_
          rintro e u1 ⟨a2, c2, rfl, hv2, hbv⟩
          have HV2 : Hid (VRow fI u1 a2 0 (ys.take 0)) := hv2
          clear hv2
          go_wp2_with fail
          refine (new_any a2 0 c2 _ ep _ HV2.out).mono ?_
          rintro e u2 ⟨rfl, hE, hbw⟩
          have HEX : Hid (Exch u2 u1.heap.size a2 0 c2 (ys.take 0) ep []) := hE
          have hBX : Below W3.heap.size W3 u2 := hbv.trans (hbw.mono hbv.size)
          have hsX := hbv.size
          clear hE hbw
          go_wp2_with fail
          go_meet
          case rel => exact ⟨_, _, _, rfl, HEX.out, hsX, hBX⟩
        | some a =>
          obtain ⟨b, off, spot⟩ := a
          have hi : (J : Int) ≤ (ca : Int) := by omega
          go_wp2_with fail
          refine (clone_any _ J ca _ _ HA4.out (by omega)).mono ?_
          rintro e u1 ⟨a2, c2, rfl, hv2, hbv⟩
          have HV2 : Hid (VRow fI u1 a2 J (ys.take J)) := hv2
          clear hv2
          go_wp2_with fail
          refine (new_any a2 J c2 _ ep _ HV2.out).mono ?_
          rintro e u2 ⟨rfl, hE, hbw⟩
          have HEX : Hid (Exch u2 u1.heap.size a2 J c2 (ys.take J) ep []) := hE
          have hBX : Below W3.heap.size W3 u2 := hbv.trans (hbw.mono hbv.size)
          have hsX := hbv.size
          clear hE hbw
          go_wp2_with fail
          go_meet
          case rel => exact ⟨_, _, _, rfl, HEX.out, hsX, hBX⟩
      case rest =>
        obtain ⟨e2, a2, c2, rfl, hE4, hse, hbc⟩ := hcut
        have HE4 : Hid (Exch wc e2 a2 J c2 (ys.take J) ep ((CS.take K).take 0)) := hE4
        have hB4 : Below wy.heap.size wy wc := hB3.trans (hbc.mono hB3.size)
        have hz4 : wy.heap.size ≤ e2 := Nat.le_trans hB3.size hse
        clear hE4
        go_wp2_with fail
        go_loopw [18] (fun i wr => AddRel e2 J c2 K 0 a2 (ys.take J) ep (CS.take K) wc i wr) (fun i _ => K - (intOf i).toNat)
        case atStart => exact ⟨0, Nat.le_refl _, by omega, rfl, by rw [Nat.sub_self]; exact HE4.out, Below.refl _ _⟩
        case round =>
          obtain ⟨x, hx0, hx1, rfl, hE, hbr⟩ := hrel
          have HE : Hid (Exch wr e2 a2 J c2 (ys.take J) ep (((CS.take K)).take (x - 0))) := hE
          have hBr : Below wy.heap.size wy wr := hB4.trans (hbr.mono hz4)
          clear hE
          by_cases hlt : x < K
          · obtain ⟨b1, o1, rfl, hl1, hc1⟩ := H1.out.row (by omega)
            obtain ⟨b2, o2, rfl, hl2, hc2⟩ := H2.out.row (by omega)
            obtain ⟨b3, o3, rfl, hl3, hc3⟩ := H3.out.row (by omega)
            obtain ⟨z, hz⟩ := getX H1.out.len (show x < n by omega)
            obtain ⟨o, ho⟩ := getX H2.out.len (show x < n by omega)
            obtain ⟨bb, hbb⟩ := getX H3.out.len (show x < n by omega)
            have g1 := (hBr.cell (p := ⟨b1, o1 + x, none⟩) hl1).trans (hc1 _ z hz)
            have g2 := (hBr.cell (p := ⟨b2, o2 + x, none⟩) hl2).trans (hc2 _ o ho)
            have g3 := (hBr.cell (p := ⟨b3, o3 + x, none⟩) hl3).trans (hc3 _ bb hbb)
            obtain ⟨hz0, hz1⟩ := Hz.out z (List.mem_of_getElem? hz)
            have HCT : Hid (CS[x]? = some ⟨z.toNat, o, bb⟩) := Hat.out _ z o bb (by omega) hz ho hbb
            have HLn : Hid ((((CS.take K)).take (x - 0)).length ≤ 65536) := by have h := Hcl.out; unfold Hid; simp; omega
            have bl1 : b1 < e2 := by omega
            have bl2 : b2 < e2 := by omega
            have bl3 : b3 < e2 := by omega
            clear hz ho hbb hc1 hc2 hc3
            have hi0 : (0 : Int) ≤ (x : Int) := by omega
            have hi : (x : Int) < (n : Int) := by omega
            have hi2 : (x : Int) < (K : Int) := by omega
            go_wp2_with fail
            go_region_held3 (fun w' => w'.cell? ⟨b1, o1 + x, none⟩ = some (.int .i64 z) ∧ w'.cell? ⟨b2, o2 + x, none⟩ = some (.bool o) ∧ w'.cell? ⟨b3, o3 + x, none⟩ = some (.bool bb)) (first | go_keep | (refine ⟨?_, ?_, ?_⟩ <;> (rw [hbn.cell (by simpa using (by assumption))]; assumption)))
              ((go_at_call 10; refine (add_any e2 J c2 a2 (ys.take J) ep (((CS.take K)).take (x - 0)) z o bb _ ?_ hz0 hz1 HLn.out).mono ?_; (first | exact HE.out | exact HE.out.below (Below.refl _ _).drew (Nat.le_refl _)); rintro e wn ⟨rfl, hEn, hbn⟩))
            have HEn : Hid (Exch wn e2 a2 J c2 (ys.take J) ep (((CS.take K)).take (x + 1 - 0))) := by unfold Hid; rw [show x + 1 - 0 = (x - 0) + 1 from by omega, take_take_snoc (i := x - 0) hlt HCT.out]; exact hEn
            have hbN : Below e2 wc wn := hbr.trans (below_undrew hbn)
            clear hEn hbn
            go_wp2_with fail
            go_roundw
            case rel => exact ⟨x + 1, by omega, by omega, by go_num, HEn.out, hbN⟩
            case measure => simp [intOf]; omega
          · have HEw : Hid (Exch wr e2 a2 J c2 (ys.take J) ep ((CS.take K))) := by
              have h := HE.out
              rwa [show ((CS.take K)).take (x - 0) = (CS.take K) from List.take_of_length_le (by have h := Hcl.out; simp; omega)] at h
            clear HE
            obtain ⟨W5, rfl⟩ : ∃ x, x = wr := ⟨_, rfl⟩
            have HW5 : Hid (Exch W5 e1 a1 m c1 ys ep CS) := HW.out.below (hbc.trans (hbr.mono hse)) (Nat.le_refl _)
            have HL5 : Hid (Exch W5 e2 a2 J c2 (ys.take J) ep (CS.take K)) := HEw.out
            have hB5 : Below wy.heap.size wy W5 := hBr
            clear HEw hBr hbr
            go_upto_region 23 with fail
            go_cut [19] (fun v w1 => CutX (m - J) (ys.drop J) ep W5 v w1)
            case first =>
              have HA5 : Hid (ISl W5 aa m ca ys) := H4.out.below hB5
              have hcap := HA5.out.le
              cases aa with
              | none =>
                have h0 := HA5.out.nil rfl
                subst h0
                have hJ0 : J = 0 := by omega
                have hm0 : m = 0 := by omega
                subst hJ0
                subst hm0
                have HA6 : Hid (ISl W5 none 0 0 (ys.drop 0)) := by unfold Hid; rw [List.drop_zero]; exact HA5.out
                go_wp2_with fail
                refine (clone_any _ 0 0 _ _ HA6.out (by omega)).mono ?_
                rintro e u1 ⟨a3, c3, rfl, hv2, hbv⟩
                have HV2 : Hid (VRow fI u1 a3 0 (ys.drop 0)) := hv2
                clear hv2
                go_wp2_with fail
                refine (new_any a3 0 c3 _ ep _ HV2.out).mono ?_
                rintro e u2 ⟨rfl, hE, hbw⟩
                have HEX : Hid (Exch u2 u1.heap.size a3 0 c3 (ys.drop 0) ep []) := hE
                have hBX : Below W5.heap.size W5 u2 := hbv.trans (hbw.mono hbv.size)
                have hsX := hbv.size
                clear hE hbw
                go_wp2_with fail
                go_meet
                case rel => exact ⟨_, _, _, rfl, HEX.out, hsX, hBX⟩
              | some a =>
                obtain ⟨b, off, spot⟩ := a
                by_cases hJc : J = ca
                · have hmJ : m = J := by omega
                  subst hJc
                  subst hmJ
                  have HA6 : Hid (ISl W5 (some ⟨b, off, spot⟩) 0 0 (ys.drop m)) := by
                    have hl := HA5.out.len
                    unfold Hid
                    rw [List.drop_eq_nil_of_le (by omega)]
                    exact ⟨rfl, by omega, by simp, by simp⟩
                  go_wp2_with fail
                  refine (clone_any _ 0 0 _ _ HA6.out (by omega)).mono ?_
                  rintro e u1 ⟨a3, c3, rfl, hv2, hbv⟩
                  have HV2 : Hid (VRow fI u1 a3 0 (ys.drop m)) := hv2
                  clear hv2
                  go_wp2_with fail
                  refine (new_any a3 0 c3 _ ep _ HV2.out).mono ?_
                  rintro e u2 ⟨rfl, hE, hbw⟩
                  have HEX : Hid (Exch u2 u1.heap.size a3 0 c3 (ys.drop m) ep []) := hE
                  have hBX : Below W5.heap.size W5 u2 := hbv.trans (hbw.mono hbv.size)
                  have hsX := hbv.size
                  clear hE hbw
                  go_wp2_with fail
                  go_meet
                  case rel => exact ⟨_, _, _, rfl, by rw [Nat.sub_self]; exact HEX.out, hsX, hBX⟩
                · have hi : (J : Int) < (ca : Int) := by omega
                  have hi2 : (J : Int) ≤ (m : Int) := by omega
                  have HA6 : Hid (ISl W5 (some ((⟨b, off, spot⟩ : Addr).add J)) (m - J) (ca - J) (ys.drop J)) := HA5.out.drop hJ
                  go_wp2_with fail
                  refine (clone_any _ (m - J) (ca - J) _ _ HA6.out (by omega)).mono ?_
                  rintro e u1 ⟨a3, c3, rfl, hv2, hbv⟩
                  have HV2 : Hid (VRow fI u1 a3 (m - J) (ys.drop J)) := hv2
                  clear hv2
                  go_wp2_with fail
                  refine (new_any a3 (m - J) c3 _ ep _ HV2.out).mono ?_
                  rintro e u2 ⟨rfl, hE, hbw⟩
                  have HEX : Hid (Exch u2 u1.heap.size a3 (m - J) c3 (ys.drop J) ep []) := hE
                  have hBX : Below W5.heap.size W5 u2 := hbv.trans (hbw.mono hbv.size)
                  have hsX := hbv.size
                  clear hE hbw
                  go_wp2_with fail
                  go_meet
                  case rel => exact ⟨_, _, _, rfl, HEX.out, hsX, hBX⟩
            case rest =>
              obtain ⟨e3, a3, c3, rfl, hE6, hse, hbc⟩ := hcut
              have HE6 : Hid (Exch wc e3 a3 (m - J) c3 (ys.drop J) ep ((CS.drop K).take 0)) := hE6
              have hB6 : Below wy.heap.size wy wc := hB5.trans (hbc.mono hB5.size)
              have hz6 : wy.heap.size ≤ e3 := Nat.le_trans hB5.size hse
              clear hE6
              go_wp2_with fail
              go_loopw [20] (fun i wr => AddRel e3 (m - J) c3 n K a3 (ys.drop J) ep (CS.drop K) wc i wr) (fun i _ => n - (intOf i).toNat)
              case atStart => exact ⟨K, Nat.le_refl _, by omega, rfl, by rw [Nat.sub_self]; exact HE6.out, Below.refl _ _⟩
              case round =>
                obtain ⟨x, hx0, hx1, rfl, hE, hbr⟩ := hrel
                have HE : Hid (Exch wr e3 a3 (m - J) c3 (ys.drop J) ep (((CS.drop K)).take (x - K))) := hE
                have hBr : Below wy.heap.size wy wr := hB6.trans (hbr.mono hz6)
                clear hE
                by_cases hlt : x < n
                · obtain ⟨b1, o1, rfl, hl1, hc1⟩ := H1.out.row (by omega)
                  obtain ⟨b2, o2, rfl, hl2, hc2⟩ := H2.out.row (by omega)
                  obtain ⟨b3, o3, rfl, hl3, hc3⟩ := H3.out.row (by omega)
                  obtain ⟨z, hz⟩ := getX H1.out.len (show x < n by omega)
                  obtain ⟨o, ho⟩ := getX H2.out.len (show x < n by omega)
                  obtain ⟨bb, hbb⟩ := getX H3.out.len (show x < n by omega)
                  have g1 := (hBr.cell (p := ⟨b1, o1 + x, none⟩) hl1).trans (hc1 _ z hz)
                  have g2 := (hBr.cell (p := ⟨b2, o2 + x, none⟩) hl2).trans (hc2 _ o ho)
                  have g3 := (hBr.cell (p := ⟨b3, o3 + x, none⟩) hl3).trans (hc3 _ bb hbb)
                  obtain ⟨hz0, hz1⟩ := Hz.out z (List.mem_of_getElem? hz)
                  have HCT : Hid (CS[x]? = some ⟨z.toNat, o, bb⟩) := Hat.out _ z o bb (by omega) hz ho hbb
                  have HLn : Hid ((((CS.drop K)).take (x - K)).length ≤ 65536) := by have h := Hcl.out; unfold Hid; simp; omega
                  have bl1 : b1 < e3 := by omega
                  have bl2 : b2 < e3 := by omega
                  have bl3 : b3 < e3 := by omega
                  clear hz ho hbb hc1 hc2 hc3
                  have hi0 : (0 : Int) ≤ (x : Int) := by omega
                  have hi : (x : Int) < (n : Int) := by omega
                  have hi2 : (x : Int) < (n : Int) := by omega
                  go_wp2_with fail
                  go_region_held3 (fun w' => w'.cell? ⟨b1, o1 + x, none⟩ = some (.int .i64 z) ∧ w'.cell? ⟨b2, o2 + x, none⟩ = some (.bool o) ∧ w'.cell? ⟨b3, o3 + x, none⟩ = some (.bool bb)) (first | go_keep | (refine ⟨?_, ?_, ?_⟩ <;> (rw [hbn.cell (by simpa using (by assumption))]; assumption)))
                    ((go_at_call 10; refine (add_any e3 (m - J) c3 a3 (ys.drop J) ep (((CS.drop K)).take (x - K)) z o bb _ ?_ hz0 hz1 HLn.out).mono ?_; (first | exact HE.out | exact HE.out.below (Below.refl _ _).drew (Nat.le_refl _)); rintro e wn ⟨rfl, hEn, hbn⟩))
                  have HEn : Hid (Exch wn e3 a3 (m - J) c3 (ys.drop J) ep (((CS.drop K)).take (x + 1 - K))) := by unfold Hid; rw [show x + 1 - K = (x - K) + 1 from by omega, drop_take_snoc (k := K) (i := x - K) (by rw [show K + (x - K) = x from by omega]; exact HCT.out)]; exact hEn
                  have hbN : Below e3 wc wn := hbr.trans (below_undrew hbn)
                  clear hEn hbn
                  go_wp2_with fail
                  go_roundw
                  case rel => exact ⟨x + 1, by omega, by omega, by go_num, HEn.out, hbN⟩
                  case measure => simp [intOf]; omega
                · have HEw : Hid (Exch wr e3 a3 (m - J) c3 (ys.drop J) ep ((CS.drop K))) := by
                    have h := HE.out
                    rwa [show ((CS.drop K)).take (x - K) = (CS.drop K) from List.take_of_length_le (by have h := Hcl.out; simp; omega)] at h
                  clear HE
                  obtain ⟨W7, rfl⟩ : ∃ x, x = wr := ⟨_, rfl⟩
                  have HW7 : Hid (Exch W7 e1 a1 m c1 ys ep CS) := HW5.out.below (hbc.trans (hbr.mono hse)) (Nat.le_refl _)
                  have HL7 : Hid (Exch W7 e2 a2 J c2 (ys.take J) ep (CS.take K)) := HL5.out.below (hbc.trans (hbr.mono hse)) (Nat.le_refl _)
                  have HR7 : Hid (Exch W7 e3 a3 (m - J) c3 (ys.drop J) ep (CS.drop K)) := HEw.out
                  have hB7 : Below wy.heap.size wy W7 := hBr
                  have HL8 : Hid ((CS.take K).length ≤ 65537 ∧ (CS.drop K).length ≤ 65537 ∧ CS.length ≤ 65537) := by have h := Hcl.out; unfold Hid; simp; omega
                  obtain ⟨r, hr⟩ : ∃ r, endedB CS ys ep = r := ⟨_, rfl⟩
                  obtain ⟨r2, hr2⟩ : ∃ r, endedB (CS.take K) (ys.take J) ep = r := ⟨_, rfl⟩
                  obtain ⟨r3, hr3⟩ : ∃ r, endedB (CS.drop K) (ys.drop J) ep = r := ⟨_, rfl⟩
                  have hrr : r = (r2 && r3) := by rw [← hr, ← hr2, ← hr3]; exact ended_split CS ys ep K J
                  have hP : (pendC zs os bs n + pendA ys ep m == 0) = r := by rw [← hr, HCS.out]; exact pend_ended zs os bs ys ep n m H4.out.len Hz.out
                  have Hr : Hid (endedB CS ys ep = r) := hr
                  have Hr2 : Hid (endedB (CS.take K) (ys.take J) ep = r2) := hr2
                  have Hr3 : Hid (endedB (CS.drop K) (ys.drop J) ep = r3) := hr3
                  obtain ⟨PP, hPP⟩ : ∃ PP, pendC zs os bs n + pendA ys ep m = PP := ⟨_, rfl⟩
                  have HPP : Hid (pendC zs os bs n + pendA ys ep m = PP) := hPP
                  rw [hPP] at hP
                  clear hr hr2 hr3 hPP HEw hBr hbr HW5 HL5
                  go_wp2_with fail
                  refine (Ended_any e1 m c1 a1 ys ep CS _ HW7.out HL8.out.2.2 (by omega)).mono ?_
                  rintro e u1 ⟨rfl, rfl⟩
                  rw [Hr.out]
                  go_wp2_with fail
                  refine (pending_any ai ao ab aa n m ci co cb ca zs os bs ys ep _ (H1.out.below hB7 (Nat.le_refl _)) (H2.out.below hB7 (Nat.le_refl _)) (H3.out.below hB7 (Nat.le_refl _)) (H4.out.below hB7).vrow hb1 hb4 Hz.out).mono ?_
                  rintro e u2 ⟨rfl, rfl⟩
                  rw [HPP.out]
                  subst hrr
                  cases r2
                  · cases r3
                    all_goals
                      go_wp2_with fail
                      refine (Ended_any e2 J c2 a2 _ ep _ _ HL7.out HL8.out.1 (by omega)).mono ?_
                      rintro e u3 ⟨rfl, rfl⟩
                      rw [Hr2.out]
                      go_wp2_with fail
                      go_ret
                      exact ⟨rfl, hB7⟩
                  · cases r3
                    all_goals
                      go_wp2_with fail
                      refine (Ended_any e2 J c2 a2 _ ep _ _ HL7.out HL8.out.1 (by omega)).mono ?_
                      rintro e u3 ⟨rfl, rfl⟩
                      rw [Hr2.out]
                      go_wp2_with fail
                      refine (Ended_any e3 (m - J) c3 a3 _ ep _ _ HR7.out HL8.out.2.1 (by omega)).mono ?_
                      rintro e u4 ⟨rfl, rfl⟩
                      rw [Hr3.out]
                      go_wp2_with fail
                      go_ret
                      exact ⟨rfl, hB7⟩
end Go.Proofs.Qxb6615031a
