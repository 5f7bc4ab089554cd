/-
  The plain law: what is pending, and what ends; the list of centres; the slice of deliveries, cut.
-/
import Derived.Test.Qxb6615031aClone
namespace Go.Proofs.Qxb6615031a
open Go.ChangeShapes Go.WideShapes Go.ChangeAt Go.RowKit
set_option linter.unusedVariables false

/-- The centres that the law's three lists tell. -/
def mkC (zs : List Int) (os bs : List Bool) (n : Nat) : List Ctr := (List.range n).map (fun i => ⟨(zs.getD i 0).toNat, os.getD i false, bs.getD i false⟩)
theorem mkC_len (zs : List Int) (os bs : List Bool) (n : Nat) : (mkC zs os bs n).length = n := by simp [mkC]
theorem mkC_at {zs : List Int} {os bs : List Bool} {n i : Nat} {z : Int} {o b : Bool} (hi : i < n) (h1 : zs[i]? = some z) (h2 : os[i]? = some o) (h3 : bs[i]? = some b) : (mkC zs os bs n)[i]? = some ⟨z.toNat, o, b⟩ := by
  simp [mkC, hi, List.getD_eq_getElem?_getD, h1, h2, h3]
theorem take_snoc {α : Type} {l : List α} {i : Nat} {x : α} (h : l[i]? = some x) : l.take (i + 1) = l.take i ++ [x] := by
  rw [List.take_add_one, h]; rfl
theorem drop_take_snoc {α : Type} {l : List α} {k i : Nat} {x : α} (h : l[k + i]? = some x) : (l.drop k).take (i + 1) = (l.drop k).take i ++ [x] := take_snoc (by rw [List.getElem?_drop]; exact h)

theorem ended_append (a b : List Ctr) (x y : List Int) (ep : Int) : endedB (a ++ b) (x ++ y) ep = (endedB a x ep && endedB b y ep) := by
  simp only [endedB, List.all_append]
  cases a.all quiet <;> cases b.all quiet <;> cases x.all (fun z => z == ep) <;> cases y.all (fun z => z == ep) <;> rfl
theorem ended_split (cs : List Ctr) (ys : List Int) (ep : Int) (k j : Nat) : endedB cs ys ep = (endedB (cs.take k) (ys.take j) ep && endedB (cs.drop k) (ys.drop j) ep) := by
  conv => lhs; rw [← List.take_append_drop k cs, ← List.take_append_drop j ys]
  exact ended_append _ _ _ _ _

theorem bn_zero {b : Bool} : bn b = 0 ↔ b = false := by cases b <;> simp [bn]
theorem pendC_zero (zs : List Int) (os bs : List Bool) (hz : ∀ z ∈ zs, 0 ≤ z ∧ z ≤ 65536) : ∀ n, pendC zs os bs n = 0 ↔ (mkC zs os bs n).all quiet = true := by
  intro n
  induction n with
  | zero => simp [pendC, mkC]
  | succ n ih =>
    have e : mkC zs os bs (n + 1) = mkC zs os bs n ++ [⟨(zs.getD n 0).toNat, os.getD n false, bs.getD n false⟩] := by simp [mkC, List.range_succ]
    have h1 := bn_bd (os.getD n false)
    have h2 := bn_bd (bs.getD n false)
    have h3 := (pendC_bd zs os bs hz n).1
    have h4 : 0 ≤ zs.getD n 0 := by
      by_cases hk : n < zs.length
      · rw [List.getD_eq_getElem?_getD, List.getElem?_eq_getElem hk]; exact (hz _ (List.getElem_mem hk)).1
      · rw [List.getD_eq_getElem?_getD, List.getElem?_eq_none (by omega)]; simp
    rw [e, List.all_append, Bool.and_eq_true, ← ih]
    simp only [pendC, List.all_cons, List.all_nil, Bool.and_true, quiet, Bool.and_eq_true, beq_iff_eq, Bool.not_eq_true']
    constructor
    · intro h
      exact ⟨by omega, ⟨by omega, bn_zero.1 (by omega)⟩, bn_zero.1 (by omega)⟩
    · rintro ⟨a, ⟨b, c⟩, d⟩
      have c' := bn_zero.2 c
      have d' := bn_zero.2 d
      omega
theorem pendA_zero (ys : List Int) (ep : Int) : ∀ n, n ≤ ys.length → (pendA ys ep n = 0 ↔ (ys.take n).all (fun z => z == ep) = true) := by
  intro n
  induction n with
  | zero => intro _; simp [pendA]
  | succ n ih =>
    intro hn
    have hx : ys[n]? = some ys[n] := List.getElem?_eq_getElem (by omega)
    have h1 := bn_bd (ys.getD n ep != ep)
    have h2 := (pendA_bd ys ep n).1
    rw [take_snoc hx, List.all_append, Bool.and_eq_true, ← ih (by omega)]
    have e : ys.getD n ep = ys[n] := by rw [List.getD_eq_getElem?_getD, hx]; rfl
    simp only [pendA, List.all_cons, List.all_nil, Bool.and_true]
    rw [e] at h1 ⊢
    constructor
    · intro h
      refine ⟨by omega, ?_⟩
      have := bn_zero.1 (show bn (ys[n] != ep) = 0 by omega)
      simpa using this
    · rintro ⟨a, b⟩
      have : bn (ys[n] != ep) = 0 := bn_zero.2 (by simpa using b)
      omega
/-- Nothing is pending just where it has ended. -/
theorem pend_ended (zs : List Int) (os bs : List Bool) (ys : List Int) (ep : Int) (n m : Nat) (hm : ys.length = m) (hz : ∀ z ∈ zs, 0 ≤ z ∧ z ≤ 65536) : (pendC zs os bs n + pendA ys ep m == 0) = endedB (mkC zs os bs n) ys ep := by
  have h1 := pendC_zero zs os bs hz n
  have h2 := pendA_zero ys ep m (by omega)
  rw [List.take_of_length_le (by omega)] at h2
  have h3 := (pendC_bd zs os bs hz n).1
  have h4 := (pendA_bd ys ep m).1
  rw [Bool.eq_iff_iff, beq_iff_eq]
  unfold endedB
  rw [Bool.and_eq_true, ← h1, ← h2]
  omega

/-- A slice of deliveries that came in. -/
structure ISl (w : World) (ao : Option Addr) (n c : Nat) (zs : List Int) : Prop where
  len : zs.length = n
  le : n ≤ c
  nil : ao = none → c = 0
  cells : ∀ a, ao = some a → ∀ j z, zs[j]? = some z → w.cell? (a.add j) = some (.int .i64 z)

theorem ISl.blk {w : World} {a : Addr} {n c : Nat} {zs : List Int} (h : ISl w (some a) n c zs) (hn : 0 < n) : a.block < w.heap.size := by
  obtain ⟨z, hz⟩ := getX h.len hn
  have := World.block_lt_of_cell? w _ (h.cells a rfl 0 z hz)
  rwa [add_block] at this
theorem ISl.below {w w' : World} {ao : Option Addr} {n c : Nat} {zs : List Int} (h : ISl w ao n c zs) (hb : Below w.heap.size w w') : ISl w' ao n c zs :=
  ⟨h.len, h.le, h.nil, fun a ha j z hz => by
    have hc := h.cells a ha j z hz
    exact (hb.cell (World.block_lt_of_cell? w _ hc)).trans hc⟩
theorem ISl.vrow {w : World} {ao : Option Addr} {n c : Nat} {zs : List Int} (h : ISl w ao n c zs) : VRow fI w ao n zs := by
  refine ⟨h.len, fun hn => ?_⟩
  cases ao with
  | none => have := h.nil rfl; have := h.le; omega
  | some a =>
    obtain ⟨z, hz⟩ := getX h.len hn
    have hc := h.cells a rfl 0 z hz
    have hblk := h.blk hn
    obtain ⟨b, off, spot⟩ := a
    have hspot : spot = none := by simpa [Addr.add] using World.cell?_spot hc
    subst hspot
    refine ⟨b, off, rfl, hblk, fun j x hx => ?_⟩
    have := h.cells _ rfl j x hx
    rwa [add_plain] at this

theorem clone_any (ao : Option Addr) (n c : Nat) (zs : List Int) (w : World) (h : ISl w ao n c zs) (hn : n ≤ 65537) : Calls Try.prog 9 #[.slice ao n c] w (ClonePost n zs w) := by
  cases ao with
  | none =>
    have h1 := h.nil rfl
    have h2 := h.le
    have h3 := h.len
    obtain rfl : c = 0 := h1
    obtain rfl : n = 0 := by omega
    obtain rfl : zs = [] := List.eq_nil_of_length_eq_zero h3
    exact clone_nil w
  | some a =>
    refine clone_some a n c zs w h.len ?_ (fun h0 => h.blk h0) hn
    intro j v hv
    rw [List.getElem?_map] at hv
    cases hz : zs[j]? with
    | none => rw [hz] at hv; simp at hv
    | some z => rw [hz] at hv; simp at hv; subst hv; exact h.cells a rfl j z hz
end Go.Proofs.Qxb6615031a
