/-
  zzb1CloneInts, zzb1InsertInt.
-/
import Derived.Test.Qxb6615031aEnded
namespace Go.Proofs.Qxb6615031a
open Go.ChangeShapes Go.WideShapes Go.ChangeAt Go.RowKit
set_option linter.unusedVariables false

theorem Try.info3 : (Try.prog.info? 3).map (fun i => (i.zero, i.size, i.bytes)) = some (some (.int .i64 0), 1, 8) := by kernel_rfl
theorem Try.size3 : (Try.prog.info? 3).map (·.size) = some 1 := by kernel_rfl

/-- A copy of the row: somewhere; nothing that was there has turned. -/
def ClonePost (n : Nat) (zs : List Int) (w : World) (e : Ending) (w' : World) : Prop := ∃ ao c, e = .returned (.slice ao n c) ∧ VRow fI w' ao n zs ∧ Below w.heap.size w w'

theorem eql_nil (w : World) : (binOp .eql 22 (.slice none 0 0) (.slice none 0 0)).run Try.prog w = .ok (.bool true) w := Lib.run_eql_slice_nil w 22 3 _ _ _ _ _ Try.underlying22
theorem eql_some (a : Addr) (m c : Nat) (w : World) : (binOp .eql 22 (.slice (some a) m c) (.slice none 0 0)).run Try.prog w = .ok (.bool false) w := Lib.run_eql_slice_nil w 22 3 _ _ _ _ _ Try.underlying22

theorem clone_nil (w : World) : Calls Try.prog 9 #[.slice none 0 0] w (ClonePost 0 [] w) := by
  have hq := eql_nil
  go_enter Try.func9, Try.ntmps9
  go_wp2_with fail
  go_ret
  exact ⟨_, _, rfl, ⟨rfl, by omega⟩, Below.refl _ _⟩

theorem ints_one (zs : List Int) : ∀ v ∈ zs.map fI, v.oneCell' = true := by
  intro v hv
  obtain ⟨z, _, rfl⟩ := List.mem_map.1 hv
  rfl

theorem owns_block {w : World} {base g e n : Nat} {xs : List Value} (h : w.ownsRow base e 1 (.slice (some ⟨g, 0, none⟩) n n) n xs) : ∃ cur : List Value, w.heap[g]? = some (.cells cur.toArray e (0, 0)) ∧ cur.length = n := by
  rcases h.2 with ⟨h', _⟩ | ⟨g', cap, cur, h', _, hg, _, _, hcs, _⟩
  · simp at h'
  · simp only [Value.slice.injEq, Option.some.injEq, Addr.mk.injEq, and_true, true_and] at h'
    obtain ⟨rfl, rfl⟩ := h'
    exact ⟨cur.toList, by simpa using hg, by simpa using hcs⟩
theorem add_block (a : Addr) (j : Nat) : (a.add j).block = a.block := by unfold Addr.add; split <;> rfl

set_option maxHeartbeats 1000000 in
theorem clone_some (a : Addr) (n c : Nat) (zs : List Int) (w : World) (hl : zs.length = n) (hc : ∀ j v, (zs.map fI)[j]? = some v → w.cell? (a.add j) = some v) (hblk : 0 < n → a.block < w.heap.size) (hn : n ≤ 65537) :
    Calls Try.prog 9 #[.slice (some a) n c] w (ClonePost n zs w) := by
  have hq := eql_some
  obtain ⟨i3, hi, hz0, hz1, hz2⟩ := info_parts Try.info3
  have I3 : Hid (Try.prog.info? 3 = some i3 ∧ i3.zero = some (.int .i64 0) ∧ i3.size = 1 ∧ i3.bytes = 8) := ⟨hi, hz0, hz1, hz2⟩
  have B3 : Hid (i3.bytes * n ≤ 281474976710656) := by unfold Hid; rw [hz2]; omega
  have BM : Hid (n ≤ maxLen) := by unfold Hid maxLen; omega
  have Hc : Hid (∀ j v, (zs.map fI)[j]? = some v → w.cell? (a.add j) = some v) := hc
  have Hl : Hid (zs.length = n) := hl
  have Hb : Hid (0 < n → a.block < w.heap.size) := hblk
  clear hi hz0 hz1 hz2 hc hl hblk
  go_enter Try.func9, Try.ntmps9
  obtain ⟨X, hX⟩ : ∃ X, X = zs.map fI := ⟨_, rfl⟩
  have HX : Hid (X = zs.map fI) := hX
  have Hxl : Hid (X.length = Nat.min n n) := by unfold Hid; rw [hX, List.length_map, Hl.out]; simp
  have Hx1 : Hid (∀ v ∈ X, v.oneCell' = true) := by unfold Hid; rw [hX]; exact ints_one zs
  have Hfit : Hid (∀ cur : List Value, cur.length = n → 0 + X.length ≤ cur.length) := fun cur hc => by rw [Hxl.out, hc]; simp
  have Hsrc : Hid (∀ w1, Below w.heap.size w w1 → 0 < X.length → (some (⟨w.heap.size, 0, none⟩ : Addr)) = some ⟨w.heap.size, 0, none⟩ ∧ ∃ ad, some a = some ad ∧ ∀ j v, X[j]? = some v → w1.cell? (ad.add j) = some v) := by
    intro w1 hb1 hp
    refine ⟨rfl, a, rfl, fun j v hv => ?_⟩
    have hn0 : 0 < n := by have h := Hxl.out; rw [h] at hp; simpa using hp
    rw [hb1.cell (by rw [add_block]; exact Hb.out hn0)]
    exact Hc.out j v (by rw [← hX]; exact hv)
  clear hX
  go_upto_region 4 with (at_make; refine wpList_make_full _ rfl (.tmp 7) (.tmp 7) 22 rfl w.heap.size 3 i3 (.int .i64 0) 1 Try.underlying22 I3.out.1 I3.out.2.1 I3.out.2.2.1 .i64 .i64 _ _ n rfl rfl rfl rfl B3.out BM.out (Nat.le_refl _) ?_; intro w1 o1 g1)
  have hB1 : Below w.heap.size w w1 := Below.grown (Below.refl _ _) g1 (Nat.le_refl _) (by simp)
  obtain ⟨cur, hcur, hcl⟩ := owns_block o1
  have Hcur : Hid (w1.heap[w.heap.size]? = some (.cells cur.toArray 3 (0, 0))) := hcur
  have Hcl : Hid (cur.length = n) := hcl
  clear o1 g1 hcur hcl
  go_wp2_with (refine wpList_copy_splice rfl (.tmp 9) (.tmp 10) 22 22 rfl 3 Try.underlying22 Try.size3 _ _ _ _ _ _ rfl rfl w.heap.size 0 cur 3 Hcur.out X Hxl.out (Hsrc.out _ hB1) (Hfit.out _ Hcl.out) Hx1.out w.heap.size w hB1 (Nat.le_refl _) ?_; intro w2 hg2 hb2)
  go_ret
  refine ⟨_, _, rfl, ⟨Hl.out, fun hn0 => ⟨w.heap.size, 0, rfl, lt_of_block hg2.out, ?_⟩⟩, hb2⟩
  intro j z hz
  rw [Nat.zero_add, cell_of_row w2 _ j _ 3 (0, 0) hg2.out]
  have hj : j < zs.length := (List.getElem?_eq_some_iff.1 hz).1
  simp only [splice, List.take_zero, List.nil_append, List.getElem?_toArray]
  rw [List.getElem?_append_left (by rw [HX.out]; simpa using hj), HX.out, List.getElem?_map, hz]
  rfl
end Go.Proofs.Qxb6615031a
