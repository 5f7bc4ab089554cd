/-
  The walk of FnIsArchiveFileNothingInserted.
-/
import Derived.Test.Qxb6615505aFmtNum
import Derived.BigRegion
namespace Go.Proofs.Qxb6615505aFmt
open Go.RowKit Go.Kit Go.Extern.Stop Go.Stop Go.Extern
set_option linter.unusedVariables false

def AnyPost (w : World) (e : Ending) (w' : World) : Prop := ∃ b, e = .returned (.bool b) ∧ w' = w
theorem AnyPost.mk {w : World} (b : Bool) : AnyPost w (.returned (.bool b)) w := ⟨b, rfl, rfl⟩
theorem bytes7 (x a : Int) (s : ByteArray) (w : World) (hs : s.size ≤ 9223372036854775807) : Calls Tryf.prog 7 #[.int .i64 x, .int .i64 a, .string s] w (AnyPost w) := by
  go_enter Tryf.func7, Tryf.ntmps7
  go_wp2
  all_goals go_ret
  all_goals exact AnyPost.mk _

theorem long_list {N s : ByteArray} {A : Nat} (hN : N.size = 32) (hA : A ≤ 32) : (N.extract 0 A ++ s ++ N.extract A 32).data.toList = N.data.toList.take A ++ s.data.toList ++ N.data.toList.drop A := by
  have hl : N.data.toList.length = 32 := by rw [← Lib.size_eq]; exact hN
  simp only [ByteArray.data_append, Array.toList_append, Lib.extract_data, List.drop_zero, Nat.sub_zero]
  rw [List.take_of_length_le (l := N.data.toList.drop A) (by simp only [List.length_drop]; omega)]
theorem long_size {N s : ByteArray} {A : Nat} (hN : N.size = 32) (hA : A ≤ 32) : (N.extract 0 A ++ s ++ N.extract A 32).size = 32 + s.size := by
  have hl : N.data.toList.length = 32 := by rw [← Lib.size_eq]; exact hN
  rw [Lib.size_eq, long_list hN hA, Lib.size_eq s]
  simp only [List.length_append, List.length_take, List.length_drop]
  omega
theorem long_arch {N s : ByteArray} {A : Nat} {x : Int} (hN : N.size = 32) (hA : A ≤ 32) (ha : arch N.data.toList = decide (0 < x)) : arch (N.extract 0 A ++ s ++ N.extract A 32).data.toList = (decide (0 < x) && decide (s.size = 0)) := by
  by_cases h0 : s.size = 0
  · have hs : s.data.toList = [] := List.eq_nil_of_length_eq_zero (by rw [← Lib.size_eq]; exact h0)
    rw [long_list hN hA, hs, List.append_nil, List.take_append_drop, ha, decide_eq_true h0, Bool.and_true]
  · rw [decide_eq_false h0, Bool.and_false]
    apply arch_long
    rw [← Lib.size_eq, long_size hN hA]
    omega

set_option maxHeartbeats 2000000 in
theorem law4 (F : Interp) (x a : Int) (s : ByteArray) (w : World) (hF : F.told.answers w.tape) (hw : (Lit.int .i64 x).wf = true) (hs : s.size ≤ 9223372036854775807) (h : Errs w) : Calls Tryf.prog 4 #[.int .i64 x, .int .i64 a, .string s] w (BoolPost true w) := by
  have HF : Hid (F.told.answers w.tape) := hF
  have HW : Hid ((Lit.int .i64 x).wf = true) := hw
  have HE : Hid (Errs w) := h
  obtain ⟨b1, b2⟩ := wf_bounds hw
  have HA : Hid (arch (nmB x).data.toList = decide (0 < x)) := by unfold Hid; rw [nmB_list]; exact arch_nm b1 b2
  have hsz := nmB_size hw
  have Hsz : Hid ((nmB x).size = 32) := hsz
  clear hF hw h
  go_enter Tryf.func4, Tryf.ntmps4
  go_wp2_with fail
  refine (bytes7 x a s _ hs).mono ?_
  rintro e wx ⟨b, rfl, rfl⟩
  cases b
  · go_wp2_with fail
    go_ret
    exact ⟨rfl, Below.refl _ _⟩
  by_cases h1 : s.size ≤ 1048576
  case neg =>
    go_wp2_with fail
    go_ret
    exact ⟨rfl, Below.refl _ _⟩
  by_cases h2 : 0 ≤ a
  case neg =>
    go_wp2_with fail
    go_ret
    exact ⟨rfl, Below.refl _ _⟩
  by_cases h3 : a ≤ 32
  case neg =>
    go_wp2_with fail
    go_ret
    exact ⟨rfl, Below.refl _ _⟩
  obtain ⟨A, rfl⟩ := Int.eq_ofNat_of_zero_le h2
  have hA : A ≤ 32 := by omega
  go_wp2_with fail
  refine (zzseg_any F x _ HF.out HW.out).mono ?_
  rintro e w1 ⟨rfl, hb1⟩
  obtain ⟨N, hN⟩ : ∃ N, nmB x = N := ⟨_, rfl⟩
  have HN : Hid (nmB x = N) := hN
  rw [hN] at hsz ⊢
  clear hN
  go_wp2_with fail
  have hi : (A : Int) ≤ 32 := by omega
  go_region
  obtain ⟨Lg, hLg⟩ : ∃ Lg, N.extract 0 A ++ s ++ N.extract A 32 = Lg := ⟨_, rfl⟩
  have HAN : Hid (arch N.data.toList = decide (0 < x)) := by unfold Hid; rw [← HN.out]; exact HA.out
  have HL : Hid (arch Lg.data.toList = (decide (0 < x) && decide (s.size = 0))) := by unfold Hid; rw [← hLg]; exact long_arch hsz hA HAN.out
  have HLz : Hid (Lg.size = 32 + s.size) := by unfold Hid; rw [← hLg]; exact long_size hsz hA
  have HNz : Hid (N.size = 32) := hsz
  rw [hLg]
  clear hLg HA Hsz hsz HN
  have hb1' : Below wx.heap.size wx w1.drew := hb1.drew
  have HE1 : Hid (Errs w1.drew) := HE.out.below hb1'
  have HF1 : Hid (F.told.answers w1.drew.tape) := by unfold Hid; rw [hb1'.tape]; exact HF.out
  generalize w1.drew = w2 at hb1' HE1 HF1 ⊢
  clear hb1
  go_wp2_with fail
  refine (is_arch F N _ HF1.out (by rw [HNz.out]; decide) HE1.out).mono ?_
  rintro e w3 ⟨rfl, hb3⟩
  have hb3' : Below wx.heap.size wx w3 := hb1'.trans (hb3.mono hb1'.size)
  have HE3 : Hid (Errs w3) := HE.out.below hb3'
  have HF3 : Hid (F.told.answers w3.tape) := by unfold Hid; rw [hb3'.tape]; exact HF.out
  rw [HAN.out]
  by_cases h0 : 0 < x
  · by_cases hz : s.size = 0
    · have hzb : ((s.size : Int) == 0) = true := by simp [hz]
      rw [decide_eq_true h0]
      rw [decide_eq_true h0, decide_eq_true hz] at HL
      go_wp2_with fail
      refine (is_arch F Lg _ HF3.out (by rw [HLz.out]; omega) HE3.out).mono ?_
      rintro e w4 ⟨rfl, hb4⟩
      have hb4' : Below wx.heap.size wx w4 := hb3'.trans (hb4.mono hb3'.size)
      rw [HL.out]
      go_wp2_with fail
      go_ret
      exact BoolPost.mk (by simp) hb4'
    · have hzb : ((s.size : Int) == 0) = false := by rw [beq_eq_false_iff_ne]; omega
      rw [decide_eq_true h0]
      rw [decide_eq_true h0, decide_eq_false hz] at HL
      go_wp2_with fail
      refine (is_arch F Lg _ HF3.out (by rw [HLz.out]; omega) HE3.out).mono ?_
      rintro e w4 ⟨rfl, hb4⟩
      have hb4' : Below wx.heap.size wx w4 := hb3'.trans (hb4.mono hb3'.size)
      rw [HL.out]
      go_wp2_with fail
      go_ret
      exact BoolPost.mk (by simp) hb4'
  · rw [decide_eq_false h0]
    rw [decide_eq_false h0] at HL
    have h0' : ¬ 0 < x := h0
    go_wp2_with fail
    refine (is_arch F Lg _ HF3.out (by rw [HLz.out]; omega) HE3.out).mono ?_
    rintro e w4 ⟨rfl, hb4⟩
    have hb4' : Below wx.heap.size wx w4 := hb3'.trans (hb4.mono hb3'.size)
    rw [HL.out]
    go_wp2_with fail
    go_ret
    exact BoolPost.mk (by simp <;> omega) hb4'
end Go.Proofs.Qxb6615505aFmt
