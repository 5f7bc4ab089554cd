/-
  zzb1InsertInt.
-/
import Derived.Test.Qxb6615031aParts
namespace Go.Proofs.Qxb6615031a
open Go.ChangeShapes Go.WideShapes Go.ChangeAt Go.RowKit
set_option linter.unusedVariables false

theorem ISl.take {w : World} {ao : Option Addr} {n c : Nat} {zs : List Int} (h : ISl w ao n c zs) {J : Nat} (hJ : J ≤ n) : ISl w ao J c (zs.take J) :=
  ⟨by have := h.len; simp; omega, Nat.le_trans hJ h.le, h.nil, fun a ha i z hz => h.cells a ha i z (by rw [List.getElem?_take] at hz; split at hz; exact hz; cases hz)⟩

theorem addr_add (a : Addr) (i j : Nat) : (a.add i).add j = a.add (i + j) := by
  unfold Addr.add
  by_cases hi : i = 0 <;> by_cases hj : j = 0 <;> simp [hi, hj, Nat.add_assoc]
theorem ISl.drop {w : World} {a : Addr} {n c : Nat} {zs : List Int} (h : ISl w (some a) n c zs) {J : Nat} (hJ : J ≤ n) : ISl w (some (a.add J)) (n - J) (c - J) (zs.drop J) :=
  ⟨by have := h.len; simp; omega, by have := h.le; omega, by simp, fun b hb i z hz => by
    cases hb
    rw [addr_add]
    exact h.cells a rfl _ z (by rw [List.getElem?_drop] at hz; exact hz)⟩

theorem ISl.news {w : World} {a : Addr} {n c : Nat} {zs : List Int} (h : ISl w (some a) n c zs) : ∀ j u, (zs.map fI)[j]? = some u → w.cell? (a.add j) = some u := by
  intro j u hu
  rw [List.getElem?_map] at hu
  cases hz : zs[j]? with
  | none => rw [hz] at hu; simp at hu
  | some z => rw [hz] at hu; simp at hu; subst hu; exact h.cells a rfl j z hz

theorem owns_ints {w : World} {base m : Nat} {v : Value} {xs : List Value} {zs : List Int} (h : w.ownsRow base 3 1 v m xs) (hx : xs = zs.map fI) (hl : zs.length = m) : ∃ ao c, v = .slice ao m c ∧ VRow fI w ao m zs := by
  subst hx
  rcases h.2 with ⟨rfl, rfl⟩ | ⟨g, cap, cur, rfl, _, hg, _, _, _, htake⟩
  · exact ⟨none, 0, rfl, ⟨hl, by omega⟩⟩
  · refine ⟨_, _, rfl, ⟨hl, fun _ => ⟨g, 0, rfl, lt_of_block hg, fun j z hz => ?_⟩⟩⟩
    rw [Nat.zero_add, cell_of_row w g j cur 3 (0, 0) hg]
    have hu : (zs.map fI)[j]? = some (fI z) := by rw [List.getElem?_map, hz]; rfl
    rw [← htake, List.getElem?_take] at hu
    split at hu
    · simpa using hu
    · cases hu

set_option maxHeartbeats 2000000 in
theorem insert_nil (v : Int) (w : World) : Calls Try.prog 14 #[.slice none 0 0, .int .i64 0, .int .i64 v] w (ClonePost 1 [v] w) := by
  obtain ⟨i3, hi, hz0, hz1, hz2⟩ := info_parts Try.info3
  have I3 : Hid (Try.prog.info? 3 = some i3 ∧ i3.zero = some (.int .i64 0) ∧ i3.size = 1 ∧ i3.bytes = 8) := ⟨hi, hz0, hz1, hz2⟩
  have B3 : Hid (i3.bytes * 1 ≤ 281474976710656) := by unfold Hid; rw [hz2]; omega
  have BM : Hid (1 ≤ maxLen) := by unfold Hid maxLen; omega
  clear hi hz0 hz1 hz2
  go_enter Try.func14, Try.ntmps14
  go_upto_region 2 with (at_make; refine wpList_make_own _ rfl _ _ 22 rfl w.heap.size 3 i3 (.int .i64 0) 1 Try.underlying22 I3.out.1 I3.out.2.1 I3.out.2.2.1 .i64 .i64 _ 1 rfl rfl rfl B3.out BM.out (Nat.le_refl _) ?_; intro w1 o1 g1)
  have hB1 : Below w.heap.size w w1 := Below.grown (Below.refl _ _) g1 (Nat.le_refl _) (by simp)
  have HO1 : Hid (w1.ownsRow w.heap.size 3 1 (.slice (some ⟨w.heap.size, 0, none⟩) 0 1) 0 []) := o1
  clear o1 g1
  go_upto_region 3 with (at_builtin; refine wpList_append_own_none rfl _ _ 22 rfl w.heap.size 3 i3 1 Try.underlying22 I3.out.1 _ _ _ rfl HO1.out rfl ?_)
  go_wp2_with (at_builtin; refine wpList_append_own _ rfl _ _ 22 rfl w.heap.size 3 i3 (.int .i64 0) 1 8 Try.underlying22 I3.out.1 I3.out.2.1 I3.out.2.2.1 I3.out.2.2.2 rfl (by decide) _ _ _ rfl (HO1.out.alloc _) ⟨w1.heap.size, 0, none⟩ 1 1 [.int .i64 v] rfl rfl (cell_one_new _ _ _) (ints_one [v]) ?c3 ?c4 ?c5 ?_)
  case c3 => unfold maxLen; omega
  case c4 => omega
  case c5 => have := hB1.size; simp; omega
  intro v2 w2 o2 g2 _
  have HV1 : Hid (∀ k, (Value.slice (some (⟨w.heap.size, 0, none⟩ : Addr)) 0 1).ownBlock = some k → w.heap.size ≤ k) := fun k hk => (HO1.out.lt k hk).1
  have hB2 : Below w.heap.size w w2 := (hB1.grown (World.grownBy_alloc w1 _ none) hB1.size (by simp)).grown g2 (by have := hB1.size; simp; omega) HV1.out
  have HO2 : Hid (w2.ownsRow w.heap.size 3 1 v2 1 [.int .i64 v]) := o2
  clear o2 g2
  go_wp2_with (at_builtin; refine wpList_append_own_none rfl _ _ 22 rfl w.heap.size 3 i3 1 Try.underlying22 I3.out.1 _ _ _ rfl HO2.out rfl ?_)
  go_wp2_with fail
  go_ret
  obtain ⟨ao, c, rfl, hv⟩ := owns_ints HO2.out (zs := [v]) rfl rfl
  exact ⟨_, _, rfl, hv, hB2⟩

theorem map_len (zs : List Int) (n : Nat) (h : zs.length = n) : (zs.map fI).length = n * 1 := by simp [h]
theorem take_len {zs : List Int} {n q : Nat} (h : zs.length = n) (hq : q ≤ n) : (zs.take q).length = q := by simp; omega
theorem drop_len {zs : List Int} {n q : Nat} (h : zs.length = n) : (zs.drop q).length = n - q := by simp; omega

set_option maxHeartbeats 4000000 in
theorem insert_some (a : Addr) (n c q : Nat) (zs : List Int) (v : Int) (w : World) (h : ISl w (some a) n c zs) (hn : n ≤ 65536) (hq : q ≤ n) :
    Calls Try.prog 14 #[.slice (some a) n c, .int .i64 q, .int .i64 v] w (ClonePost (n + 1) (zs.take q ++ v :: zs.drop q) w) := by
  obtain ⟨i3, hi, hz0, hz1, hz2⟩ := info_parts Try.info3
  have I3 : Hid (Try.prog.info? 3 = some i3 ∧ i3.zero = some (.int .i64 0) ∧ i3.size = 1 ∧ i3.bytes = 8) := ⟨hi, hz0, hz1, hz2⟩
  have B3 : Hid (i3.bytes * (n + 1) ≤ 281474976710656) := by unfold Hid; rw [hz2]; omega
  have BM : Hid (n + 1 ≤ maxLen) := by unfold Hid maxLen; omega
  have BC : Hid (((n : Int) + 1) = ((n + 1 : Nat) : Int)) := by unfold Hid; omega
  have H : Hid (ISl w (some a) n c zs) := h
  have hqc : (q : Int) ≤ (c : Int) := by have := h.le; omega
  have hqn : (q : Int) ≤ (n : Int) := by omega
  have hnc := h.le
  have Hlen : Hid (zs.length = n) := h.len
  clear hi hz0 hz1 hz2 h
  obtain ⟨b, off, spot⟩ := a
  go_enter Try.func14, Try.ntmps14
  go_upto_region 2 with (at_make; refine wpList_make_own _ rfl _ _ 22 rfl w.heap.size 3 i3 (.int .i64 0) 1 Try.underlying22 I3.out.1 I3.out.2.1 I3.out.2.2.1 .i64 .i64 _ (n + 1) rfl rfl BC.out B3.out BM.out (Nat.le_refl _) ?_; intro w1 o1 g1)
  have hB1 : Below w.heap.size w w1 := Below.grown (Below.refl _ _) g1 (Nat.le_refl _) (by simp)
  have HO1 : Hid (w1.ownsRow w.heap.size 3 1 (.slice (some ⟨w.heap.size, 0, none⟩) 0 (n + 1)) 0 []) := o1
  have H1 : Hid (ISl w1 (some ⟨b, off, spot⟩) n c zs) := H.out.below hB1
  clear o1 g1
  go_wp2_with (at_builtin; refine wpList_append_own _ rfl _ _ 22 rfl w.heap.size 3 i3 (.int .i64 0) 1 8 Try.underlying22 I3.out.1 I3.out.2.1 I3.out.2.2.1 I3.out.2.2.2 rfl (by decide) _ _ _ rfl HO1.out ⟨b, off, spot⟩ q c ((zs.take q).map fI) rfl ?c1 (H1.out.take hq).news (ints_one _) ?c3 ?c4 ?c5 ?_)
  case c1 => exact map_len _ _ (take_len Hlen.out hq)
  case c3 => unfold maxLen; omega
  case c4 => omega
  case c5 => exact hB1.size
  intro v2 w2 o2 g2 _
  have HV1 : Hid (∀ k, (Value.slice (some (⟨w.heap.size, 0, none⟩ : Addr)) 0 (n + 1)).ownBlock = some k → w.heap.size ≤ k) := fun k hk => (HO1.out.lt k hk).1
  have hB2 : Below w.heap.size w w2 := hB1.grown g2 hB1.size HV1.out
  have HO2 : Hid (w2.ownsRow w.heap.size 3 1 v2 q ((zs.take q).map fI)) := by unfold Hid; simpa using o2
  clear o2 g2 HO1 HV1 H1
  go_wp2_with (at_builtin; refine wpList_append_own _ rfl _ _ 22 rfl w.heap.size 3 i3 (.int .i64 0) 1 8 Try.underlying22 I3.out.1 I3.out.2.1 I3.out.2.2.1 I3.out.2.2.2 rfl (by decide) _ _ _ rfl (HO2.out.alloc _) ⟨w2.heap.size, 0, none⟩ 1 1 [.int .i64 v] rfl rfl (cell_one_new _ _ _) (ints_one [v]) ?c3 ?c4 ?c5 ?_)
  case c3 => unfold maxLen; omega
  case c4 => omega
  case c5 => have := hB2.size; simp; omega
  intro v3 w3 o3 g3 _
  have HV2 : Hid (∀ k, v2.ownBlock = some k → w.heap.size ≤ k) := fun k hk => (HO2.out.lt k hk).1
  have hB3 : Below w.heap.size w w3 := (hB2.grown (World.grownBy_alloc w2 _ none) hB2.size (by simp)).grown g3 (by have := hB2.size; simp; omega) HV2.out
  have HO3 : Hid (w3.ownsRow w.heap.size 3 1 v3 (q + 1) ((zs.take q).map fI ++ [.int .i64 v])) := by unfold Hid; rw [List.map_take]; exact o3
  have H3 : Hid (ISl w3 (some ⟨b, off, spot⟩) n c zs) := H.out.below hB3
  have HV3 : Hid (∀ k, v3.ownBlock = some k → w.heap.size ≤ k) := fun k hk => (HO3.out.lt k hk).1
  clear o3 g3 HV2 HO2
  by_cases hqe : q = c
  · have hnq : n = q := by omega
    subst hqe
    subst hnq
    go_wp2_with (at_builtin; refine wpList_append_own _ rfl _ _ 22 rfl w.heap.size 3 i3 (.int .i64 0) 1 8 Try.underlying22 I3.out.1 I3.out.2.1 I3.out.2.2.1 I3.out.2.2.2 rfl (by decide) _ _ _ rfl HO3.out ⟨b, off, spot⟩ 0 0 [] rfl rfl (by simp) (ints_one []) ?c3 ?c4 ?c5 ?_)
    case c3 => unfold maxLen; omega
    case c4 => omega
    case c5 => exact hB3.size
    intro v4 w4 o4 g4 _
    have hB4 : Below w.heap.size w w4 := hB3.grown g4 hB3.size HV3.out
    obtain ⟨ao, c4, rfl, hv⟩ := owns_ints o4 (zs := zs.take n ++ v :: zs.drop n) (by rw [List.drop_eq_nil_of_le (by rw [Hlen.out]; exact Nat.le_refl _)]; simp) (by have := Hlen.out; simp; omega)
    have HF : Hid (VRow fI w4 ao (n + 1) (zs.take n ++ v :: zs.drop n)) := hv
    clear o4 g4 hv
    go_wp2_with fail
    go_ret
    exact ⟨_, _, rfl, HF.out, hB4⟩
  · have hqlt : (q : Int) < (c : Int) := by omega
    go_wp2_with (at_builtin; refine wpList_append_own _ rfl _ _ 22 rfl w.heap.size 3 i3 (.int .i64 0) 1 8 Try.underlying22 I3.out.1 I3.out.2.1 I3.out.2.2.1 I3.out.2.2.2 rfl (by decide) _ _ _ rfl HO3.out ((⟨b, off, spot⟩ : Addr).add q) (n - q) (c - q) ((zs.drop q).map fI) rfl ?c1 (H3.out.drop hq).news (ints_one _) ?c3 ?c4 ?c5 ?_)
    case c1 => exact map_len _ _ (drop_len Hlen.out)
    case c3 => unfold maxLen; omega
    case c4 => omega
    case c5 => exact hB3.size
    intro v4 w4 o4 g4 _
    have hB4 : Below w.heap.size w w4 := hB3.grown g4 hB3.size HV3.out
    rw [show q + 1 + (n - q) = n + 1 from by omega] at o4
    obtain ⟨ao, c4, rfl, hv⟩ := owns_ints o4 (zs := zs.take q ++ v :: zs.drop q) (by simp) (by have := Hlen.out; simp; omega)
    have HF : Hid (VRow fI w4 ao (n + 1) (zs.take q ++ v :: zs.drop q)) := hv
    clear o4 g4 hv
    go_wp2_with fail
    go_ret
    exact ⟨_, _, rfl, HF.out, hB4⟩

theorem insert_any (ao : Option Addr) (n c q : Nat) (zs : List Int) (v : Int) (w : World) (h : ISl w ao n c zs) (hn : n ≤ 65536) (hq : q ≤ n) :
    Calls Try.prog 14 #[.slice ao n c, .int .i64 q, .int .i64 v] w (ClonePost (n + 1) (zs.take q ++ v :: zs.drop q) w) := by
  cases ao with
  | none =>
    have h1 := h.nil rfl
    have h2 := h.le
    have h3 := h.len
    obtain rfl : c = 0 := h1
    obtain rfl : n = 0 := by omega
    obtain rfl : q = 0 := by omega
    obtain rfl : zs = [] := List.eq_nil_of_length_eq_zero h3
    exact insert_nil v w
  | some a => exact insert_some a n c q zs v w h hn hq
end Go.Proofs.Qxb6615031a
