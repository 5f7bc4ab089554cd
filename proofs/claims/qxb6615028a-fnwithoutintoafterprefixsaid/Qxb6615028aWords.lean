/-
  The cursor: words("strict").
-/
import Derived.Test.Qxb6615028aCur
namespace Go.Proofs.Qxb6615028a
open Go.ChangeShapes Go.WideShapes Go.ChangeAt Go.RowKit
set_option linter.unusedVariables false
attribute [local go_sem ↓] Go.wp_at_zero Go.wp_at_succ

def WordsRel (n : Nat) (r : Bool) (w : World) (i : Value) (wr : World) : Prop := ∃ k : Nat, k ≤ 1 ∧ i = .int .i64 k ∧ (k = 1 → r = true) ∧ Below w.heap.size w wr

set_option maxHeartbeats 1000000 in
theorem words_any (cb b n pos g : Nat) (ts : List Tk) (s : ByteArray) (c : List UInt8) (r : Bool) (w : World) (h : Cur w cb b n ts pos) (hg : w.cell? ⟨g, 0, none⟩ = some (.string s)) (hs : s.toList = c) (hr : isW (tokAt ts pos) c = r) :
    Calls Try.prog 28 #[.pointer (some ⟨cb, 0, none⟩), .slice (some ⟨g, 0, none⟩) 1 1] w fun e w' => e = .returned (.bool r) ∧ Step cb b n ts (if r = true then pos + 1 else pos) w w' := by
  have H : Hid (Cur w cb b n ts pos) := h
  have hsm := h.small
  have hle := h.le
  have k0 := h.k0
  have k1 := h.k1
  by_cases hp : n ≤ pos
  · have hr0 : r = false := by rw [← hr, tokAt_none (by have := h.len; omega), noTk_isW]
    subst hr0
    have hpn : pos = n := by omega
    subst hpn
    clear h hr
    go_enter Try.func28, Try.ntmps28
    go_wp2
    go_quiet (fail)
    go_wp2
    go_ret
    exact ⟨rfl, H.out.below (below_drewN (Below.refl _ _) _), grow_below (below_drewN (Below.refl _ _) _)⟩
  · obtain ⟨t, ht⟩ := getTk h.len (show pos < n by omega)
    rw [tokAt_some ht] at hr
    have HR : Hid (isW t c = r) := hr
    have Ht : Hid (ts[pos]? = some t) := ht
    have hgl : g < w.heap.size := World.block_lt_of_cell? w _ hg
    have hcb := h.lt
    have hbw := h.row.lt
    have hi : ¬ ((n : Int) - (pos : Int) < 1) := by omega
    clear h hr ht
    go_enter Try.func28, Try.ntmps28
    go_wp2
    go_quiet (fail)
    go_wp2
    go_loopw [22] (fun i wr => WordsRel n r w i wr) (fun i _ => 1 - (intOf i).toNat)
    case atStart => exact ⟨0, by omega, rfl, by omega, below_drewN (Below.refl _ _) _⟩
    case round =>
      obtain ⟨k, hk, rfl, hkr, hbr⟩ := hrel
      have C := H.out.below hbr
      have c0 := C.row.c0 pos t Ht.out
      have c1 := C.row.c1 pos t Ht.out
      have c2 := C.row.c2 pos t Ht.out
      rw [Nat.zero_add] at c0 c1 c2
      have m0 := C.k0
      have m1 := C.k1
      have mf := C.f1
      have mg := (hbr.cell (p := ⟨g, 0, none⟩) hgl).trans hg
      have HC : Hid (Cur wr cb b n ts pos) := C
      have hcr := C.lt
      have hbwr := C.row.lt
      clear C k0 k1 hg
      by_cases hk0 : k = 0
      · subst hk0
        clear hkr
        have hi0 : (0 : Int) ≤ (pos : Int) := by omega
        have hi1 : (pos : Int) < (n : Int) := by omega
        have hw1 : IntKind.i64.wrap (pos : Int) = (pos : Int) := wrap_same _ (by omega) (by omega)
        go_wp2_with fail
        go_region_held3 (fun w' => w'.cell? ⟨cb, 0, none⟩ = some (.slice (some ⟨b, 0, none⟩) n n) ∧ w'.cell? ⟨cb, 1, none⟩ = some (.int .i64 pos) ∧
            w'.cell? ⟨b, pos * 3, none⟩ = some (.int .i64 t.kind) ∧ w'.cell? ⟨b, pos * 3 + 1, none⟩ = some (.string t.text) ∧ w'.cell? ⟨b, pos * 3 + 2, none⟩ = some (.int .i64 t.line)) (first | go_keep | (refine ⟨?_, ?_, ?_, ?_, ?_⟩ <;> (rw [hx.cell (by simpa using (by assumption))]; assumption)))
          ((go_at_call 27; refine (is_is t _ c r _ hs HR.out).mono ?_; rintro e wx ⟨rfl, hx⟩))
        have hx' := below_undrew hx
        have hB : Below w.heap.size w wx := hbr.trans (hx'.mono hbr.size)
        have HX : Hid (Cur wx cb b n ts pos) := HC.out.below hx'
        clear hx hx'
        cases r
        · go_wp2_with fail
          go_ret
          exact ⟨rfl, HX.out, grow_below hB⟩
        · go_wp2_with fail
          go_roundw
          case rel => exact ⟨1, by omega, by go_num, fun _ => rfl, hB⟩
          case measure => simp [intOf]
      · have hk1 : k = 1 := by omega
        subst hk1
        have hr1 : r = true := hkr rfl
        subst hr1
        clear hkr
        go_wp2_with fail
        go_ret
        exact ⟨rfl, HC.out.put (by omega) _ (by go_num), grow_trans (grow_below hbr) (grow_set _ _ _ _)⟩
end Go.Proofs.Qxb6615028a
