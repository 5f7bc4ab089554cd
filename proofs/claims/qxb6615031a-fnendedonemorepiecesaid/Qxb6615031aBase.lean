/-
  Rows of ints and bools; the tests of the law's own; zzb1Pending.
-/
import Derived.Test.Qxb6615031aRows
import Derived.WalkKit
import Derived.ProofKit
import Derived.OpenShut
import Derived.Deep.RegionHeld3
import Derived.Deep.DrawnRows
import Derived.Deep.DeepCutAuto
import Derived.Deep.CutBlock
import Derived.Deep.AppendLies
import Derived.Laws.CopyOwn
import Derived.Laws.AppendOwnNone
import Derived.Maps.AppendAt
import Derived.WalkSpells
import Derived.WalkSmall
import Derived.BigRegion
namespace Go.Proofs.Qxb6615031a
open Go.ChangeShapes Go.WideShapes Go.ChangeAt Go.RowKit
set_option linter.unusedVariables false

theorem vint {a b : Int} (h : a = b) : Value.int .i64 a = .int .i64 b := by rw [h]
theorem ret_bool {a b : Bool} (h : a = b) : Ending.returned (.bool a) = .returned (.bool b) := by rw [h]

/-- A slice of n values 'fv x', x of xs: of the address nothing is known where there is none. -/
structure VRow {α : Type} (fv : α → Value) (w : World) (ao : Option Addr) (n : Nat) (xs : List α) : Prop where
  len : xs.length = n
  row : 0 < n → ∃ b off, ao = some ⟨b, off, none⟩ ∧ b < w.heap.size ∧ ∀ j x, xs[j]? = some x → w.cell? ⟨b, off + j, none⟩ = some (fv x)
abbrev fI (z : Int) : Value := .int .i64 z
abbrev fB (b : Bool) : Value := .bool b
theorem VRow.below {α : Type} {fv : α → Value} {w w' : World} {ao : Option Addr} {n B : Nat} {xs : List α} (h : VRow fv w ao n xs) (hb : Below B w w') (hB : w.heap.size ≤ B) : VRow fv w' ao n xs :=
  ⟨h.len, fun hn => by
    obtain ⟨b, off, e, hlt, hc⟩ := h.row hn
    exact ⟨b, off, e, Nat.lt_of_lt_of_le hlt hb.size, fun j x hx => (hb.cell (p := ⟨b, _, none⟩) (Nat.lt_of_lt_of_le hlt hB)).trans (hc j x hx)⟩⟩
theorem getX {α : Type} {xs : List α} {n k : Nat} (hl : xs.length = n) (hk : k < n) : ∃ x, xs[k]? = some x := ⟨_, List.getElem?_eq_getElem (by omega)⟩

/-! ### zzb1InboxOK, zzb1EpochsOK -/
def InPost (zs : List Int) (w : World) (e : Ending) (w' : World) : Prop := ∃ b, e = .returned (.bool b) ∧ (b = true → ∀ z ∈ zs, 0 ≤ z ∧ z ≤ 65536) ∧ w' = w
theorem InPost.no {zs : List Int} {w : World} : InPost zs w (.returned (.bool false)) w := ⟨false, rfl, (by intro h; cases h), rfl⟩
theorem InPost.yes {zs : List Int} {w : World} (h : ∀ z ∈ zs, 0 ≤ z ∧ z ≤ 65536) : InPost zs w (.returned (.bool true)) w := ⟨true, rfl, fun _ => h, rfl⟩
def InRel (n : Nat) (zs : List Int) (tv i : Value) : Prop := ∃ k : Nat, ∃ q : Int, k ≤ n ∧ i = .int .i64 k ∧ tv = .int .i64 q ∧ 0 ≤ q ∧ q ≤ 65536 ∧ ∀ j z, j < k → zs[j]? = some z → 0 ≤ z ∧ z ≤ 65536

theorem inbox_any (ao : Option Addr) (n c : Nat) (zs : List Int) (s : Int) (w : World) (hs : VRow fI w ao n zs) (hn : n ≤ 65536) (h0 : 0 ≤ s) (h1 : s ≤ 65536) :
    Calls Try.prog 6 #[.slice ao n c, .int .i64 s] w (InPost zs w) := by
  have HS : Hid (VRow fI w ao n zs) := hs
  clear hs
  go_enter Try.func6, Try.ntmps6
  go_wp2
  go_loop [5, 6] (fun t i => InRel n zs t i) (fun _ i => n - (intOf i).toNat)
  case atStart => exact ⟨0, s, Nat.zero_le _, rfl, rfl, h0, h1, by omega⟩
  case round =>
    obtain ⟨k, q, hk, rfl, rfl, hq0, hq1, hall⟩ := hrel
    have Hall : Hid (∀ j z, j < k → zs[j]? = some z → 0 ≤ z ∧ z ≤ 65536) := hall
    clear hall
    by_cases hlt : k < n
    · obtain ⟨b, off, rfl, hb, hc⟩ := HS.out.row (by omega)
      obtain ⟨z, hz⟩ := getX HS.out.len hlt
      have g0 := hc k z hz
      have Hz : Hid (zs[k]? = some z) := hz
      clear hc hz
      have hi : (k : Int) < (n : Int) := by omega
      by_cases hz0 : z < 0
      · go_wp2
        go_ret
        exact InPost.no
      by_cases hz1 : 65536 < z
      · go_wp2
        go_ret
        exact InPost.no
      by_cases hq2 : 65536 < q + z
      · go_wp2
        go_ret
        exact InPost.no
      go_wp2
      go_round
      case rel =>
        refine ⟨k + 1, q + z, by omega, by go_num, rfl, by omega, by omega, ?_⟩
        intro j z' hj hz'
        by_cases e : j = k
        · subst e; have := Hz.out; rw [this] at hz'; cases hz'; omega
        · exact Hall.out j z' (by omega) hz'
      case measure => simp [intOf]; omega
    · have HA : Hid (∀ z ∈ zs, 0 ≤ z ∧ z ≤ 65536) := by
        intro z hz
        obtain ⟨j, hj, e⟩ := List.mem_iff_getElem.1 hz
        exact Hall.out j z (by have := HS.out.len; omega) (by rw [List.getElem?_eq_getElem hj, e])
      go_wp2
      go_ret
      exact InPost.yes HA.out

def EpPost (w : World) (e : Ending) (w' : World) : Prop := ∃ b, e = .returned (.bool b) ∧ w' = w
theorem EpPost.mk {w : World} (b : Bool) : EpPost w (.returned (.bool b)) w := ⟨b, rfl, rfl⟩
theorem epochs_any (ao : Option Addr) (n c : Nat) (zs : List Int) (ep : Int) (w : World) (hs : VRow fI w ao n zs) (hn : n ≤ 65536) :
    Calls Try.prog 7 #[.slice ao n c, .int .i64 ep] w (EpPost w) := by
  have HS : Hid (VRow fI w ao n zs) := hs
  clear hs
  go_enter Try.func7, Try.ntmps7
  go_wp2
  go_loop [5] (fun i => ∃ k : Nat, k ≤ n ∧ i = .int .i64 k) (fun i => n - (intOf i).toNat)
  case atStart => exact ⟨0, Nat.zero_le _, rfl⟩
  case round =>
    obtain ⟨k, hk, rfl⟩ := hrel
    by_cases hlt : k < n
    · obtain ⟨b, off, rfl, hb, hc⟩ := HS.out.row (by omega)
      obtain ⟨z, hz⟩ := getX HS.out.len hlt
      have g0 := hc k z hz
      clear hc hz
      have hi : (k : Int) < (n : Int) := by omega
      by_cases hz0 : z < 0
      · go_wp2
        go_ret
        exact EpPost.mk _
      by_cases hz1 : ep < z
      · go_wp2
        go_ret
        exact EpPost.mk _
      go_wp2
      go_round
      case rel => exact ⟨k + 1, by omega, by go_num⟩
      case measure => simp [intOf]; omega
    · go_wp2
      go_ret
      exact EpPost.mk _

/-! ### zzb1Pending -/
def bn (b : Bool) : Int := if b = true then 1 else 0
/-- What is pending among the first k centres. -/
def pendC (zs : List Int) (os bs : List Bool) : Nat → Int
  | 0 => 0
  | k + 1 => pendC zs os bs k + zs.getD k 0 + bn (os.getD k false) + bn (bs.getD k false)
/-- .. and among the first k deliveries. -/
def pendA (ys : List Int) (ep : Int) : Nat → Int
  | 0 => 0
  | k + 1 => pendA ys ep k + bn (ys.getD k ep != ep)
theorem bn_bd (b : Bool) : 0 ≤ bn b ∧ bn b ≤ 1 := by unfold bn; split <;> omega
theorem pendC_bd (zs : List Int) (os bs : List Bool) (hz : ∀ z ∈ zs, 0 ≤ z ∧ z ≤ 65536) : ∀ k, 0 ≤ pendC zs os bs k ∧ pendC zs os bs k ≤ 65538 * (k : Int) := by
  intro k
  induction k with
  | zero => simp [pendC]
  | succ k ih =>
    have h1 := bn_bd (os.getD k false)
    have h2 := bn_bd (bs.getD k false)
    have h3 : 0 ≤ zs.getD k 0 ∧ zs.getD k 0 ≤ 65536 := by
      by_cases hk : k < zs.length
      · rw [List.getD_eq_getElem?_getD, List.getElem?_eq_getElem hk]; exact hz _ (List.getElem_mem hk)
      · rw [List.getD_eq_getElem?_getD, List.getElem?_eq_none (by omega)]; simp
    simp only [pendC]
    omega
theorem pendA_bd (ys : List Int) (ep : Int) : ∀ k, 0 ≤ pendA ys ep k ∧ pendA ys ep k ≤ (k : Int) := by
  intro k
  induction k with
  | zero => simp [pendA]
  | succ k ih =>
    have h1 := bn_bd (ys.getD k ep != ep)
    simp only [pendA]
    omega

def PendPost (r : Int) (w : World) (e : Ending) (w' : World) : Prop := e = .returned (.int .i64 r) ∧ w' = w
def PendRelC (n : Nat) (zs : List Int) (os bs : List Bool) (t i : Value) : Prop := ∃ k : Nat, k ≤ n ∧ i = .int .i64 k ∧ t = .int .i64 (pendC zs os bs k)
def PendRelA (n m : Nat) (zs : List Int) (os bs : List Bool) (ys : List Int) (ep : Int) (t i : Value) : Prop := ∃ k : Nat, k ≤ m ∧ i = .int .i64 k ∧ t = .int .i64 (pendC zs os bs n + pendA ys ep k)

set_option maxHeartbeats 1000000 in
theorem pending_any (ai ao' ab aa : Option Addr) (n m c1 c2 c3 c4 : Nat) (zs : List Int) (os bs : List Bool) (ys : List Int) (ep : Int) (w : World) (h1 : VRow fI w ai n zs) (h2 : VRow fB w ao' n os) (h3 : VRow fB w ab n bs) (h4 : VRow fI w aa m ys)
    (hn : n ≤ 65536) (hm : m ≤ 65536) (hz : ∀ z ∈ zs, 0 ≤ z ∧ z ≤ 65536) :
    Calls Try.prog 12 #[.slice ai n c1, .slice ao' n c2, .slice ab n c3, .slice aa m c4, .int .i64 ep] w (PendPost (pendC zs os bs n + pendA ys ep m) w) := by
  have H1 : Hid (VRow fI w ai n zs) := h1
  have H2 : Hid (VRow fB w ao' n os) := h2
  have H3 : Hid (VRow fB w ab n bs) := h3
  have H4 : Hid (VRow fI w aa m ys) := h4
  have Hz : Hid (∀ z ∈ zs, 0 ≤ z ∧ z ≤ 65536) := hz
  clear h1 h2 h3 h4 hz
  go_enter Try.func12, Try.ntmps12
  go_wp2
  go_loop [11, 12] (fun t i => PendRelC n zs os bs t i) (fun _ i => n - (intOf i).toNat)
  case atStart => exact ⟨0, Nat.zero_le _, rfl, rfl⟩
  case round =>
    obtain ⟨k, hk, rfl, rfl⟩ := hrel
    have bd := pendC_bd zs os bs Hz.out k
    obtain ⟨bd1, bd2⟩ := bd
    by_cases hlt : k < n
    · obtain ⟨b1, o1, rfl, hb1, hc1⟩ := H1.out.row (by omega)
      obtain ⟨b2, o2, rfl, hb2, hc2⟩ := H2.out.row (by omega)
      obtain ⟨b3, o3, rfl, hb3, hc3⟩ := H3.out.row (by omega)
      obtain ⟨z, hz⟩ := getX H1.out.len hlt
      obtain ⟨x, hx⟩ := getX H2.out.len hlt
      obtain ⟨y, hy⟩ := getX H3.out.len hlt
      have g1 := hc1 k z hz
      have g2 := hc2 k x hx
      have g3 := hc3 k y hy
      have hz1 := Hz.out z (List.mem_of_getElem? hz)
      obtain ⟨hz1, hz2⟩ := hz1
      have HN : Hid (pendC zs os bs (k + 1) = pendC zs os bs k + z + bn x + bn y) := by simp [Hid, pendC, List.getD_eq_getElem?_getD, hz, hx, hy]
      clear hc1 hc2 hc3 hz hx hy
      have hi : (k : Int) < (n : Int) := by omega
      generalize pendC zs os bs k = P at bd1 bd2 HN ⊢
      cases x <;> cases y
      all_goals
        go_wp2
        go_round
        case rel => exact ⟨k + 1, by omega, by go_num, by rw [HN.out]; exact vint (by simp [bn] <;> omega)⟩
        case measure => simp [intOf]; omega
    · have hkn : n = k := by omega
      subst hkn
      go_wp2
      go_loop [11, 13] (fun t i => PendRelA n m zs os bs ys ep t i) (fun _ i => m - (intOf i).toNat)
      case atStart => exact ⟨0, Nat.zero_le _, rfl, by simp [pendA]⟩
      case round =>
        obtain ⟨j, hj, rfl, rfl⟩ := hrel
        have ba := pendA_bd ys ep j
        obtain ⟨ba1, ba2⟩ := ba
        by_cases hjt : j < m
        · obtain ⟨b4, o4, rfl, hb4, hc4⟩ := H4.out.row (by omega)
          obtain ⟨z, hz⟩ := getX H4.out.len hjt
          have g4 := hc4 j z hz
          have HN : Hid (pendC zs os bs n + pendA ys ep (j + 1) = pendC zs os bs n + pendA ys ep j + bn (z != ep)) := by simp [Hid, pendA, List.getD_eq_getElem?_getD, hz]; omega
          clear hc4 hz
          have hi : (j : Int) < (m : Int) := by omega
          have bs1 : 0 ≤ pendC zs os bs n + pendA ys ep j := by omega
          have bs2 : pendC zs os bs n + pendA ys ep j ≤ 65540 * 65536 := by omega
          have HP : Hid (PendRelA n m zs os bs ys ep (.int .i64 (pendC zs os bs n + pendA ys ep j + bn (z != ep))) (.int .i64 ((j + 1 : Nat) : Int))) := ⟨j + 1, by omega, rfl, by rw [HN.out]⟩
          clear HN
          generalize pendC zs os bs n + pendA ys ep j = P at HP bs1 bs2 ⊢
          by_cases hez : z = ep
          · have hb : (z != ep) = false := by simp [hez]
            have HQ : Hid (PendRelA n m zs os bs ys ep (.int .i64 P) (.int .i64 ((j + 1 : Nat) : Int))) := by
              have h := HP.out; rw [hb] at h; unfold Hid; simpa [bn] using h
            clear hez HP
            go_wp2
            go_round
            case rel => exact HQ.out
            case measure => simp [intOf]; omega
          · have hb : (z != ep) = true := by simp [hez]
            have HQ : Hid (PendRelA n m zs os bs ys ep (.int .i64 (P + 1)) (.int .i64 ((j + 1 : Nat) : Int))) := by
              have h := HP.out; rw [hb] at h; unfold Hid; simpa [bn] using h
            clear hez HP
            go_wp2
            go_round
            case rel => exact HQ.out
            case measure => simp [intOf]; omega
        · have hjm : m = j := by omega
          subst hjm
          go_wp2
          go_ret
          exact ⟨rfl, rfl⟩
end Go.Proofs.Qxb6615031a
