/-
  The exchange: NewExchange, AddCentre, ended.
-/
import Derived.Test.Qxb6615031aBase
namespace Go.Proofs.Qxb6615031a
open Go.ChangeShapes Go.WideShapes Go.ChangeAt Go.RowKit
set_option linter.unusedVariables false
attribute [local go_sem ↓] Go.wp_at_zero Go.wp_at_succ

/-- A centre, as far as 'ended' looks: how many messages wait; an offer; a bid. -/
structure Ctr where
  n : Nat
  o : Bool
  b : Bool
def quiet (c : Ctr) : Bool := c.n == 0 && !c.o && !c.b

/-- An exchange's cells. -/
abbrev exCells (vC : Value) (ao : Option Addr) (n c : Nat) (ep : Int) : Array Value :=
  #[.nilIface, vC, .slice none 0 0, .slice ao n c, .int .i64 ep, .slice none 0 0, .int .i64 0, .int .i64 0, .int .i64 0, .int .i64 0, .int .i64 0, .int .i64 0, .int .i64 0, .int .i64 0, .int .i64 0]

/-- The cells of a row of centres, six each. -/
def CtrOK (xs : List Value) (cs : List Ctr) : Prop := ∀ j c, cs[j]? = some c → (∃ a cap, xs[j * 6 + 3]? = some (.slice a c.n cap)) ∧ (∃ p, xs[j * 6 + 4]? = some (.pointer p) ∧ p.isSome = c.o) ∧ (∃ p, xs[j * 6 + 5]? = some (.pointer p) ∧ p.isSome = c.b)

theorem CtrOK.snoc {xs ys : List Value} {cs : List Ctr} {c : Ctr} (h : CtrOK xs cs) (hl : xs.length = cs.length * 6) (h1 : ∃ a cap, ys[3]? = some (.slice a c.n cap)) (h2 : ∃ p, ys[4]? = some (.pointer p) ∧ p.isSome = c.o) (h3 : ∃ p, ys[5]? = some (.pointer p) ∧ p.isSome = c.b) : CtrOK (xs ++ ys) (cs ++ [c]) := by
  intro j d hd
  by_cases hj : j < cs.length
  · rw [List.getElem?_append_left hj] at hd
    obtain ⟨a1, a2, a3⟩ := h j d hd
    rw [List.getElem?_append_left (by omega), List.getElem?_append_left (by omega), List.getElem?_append_left (by omega)]
    exact ⟨a1, a2, a3⟩
  · have hlt := (List.getElem?_eq_some_iff.1 hd).1
    have e : j = cs.length := by simp at hlt; omega
    subst e
    rw [List.getElem?_append_right (Nat.le_refl _)] at hd
    simp at hd
    subst hd
    rw [List.getElem?_append_right (by omega), List.getElem?_append_right (by omega), List.getElem?_append_right (by omega)]
    rw [show cs.length * 6 + 3 - xs.length = 3 by omega, show cs.length * 6 + 4 - xs.length = 4 by omega, show cs.length * 6 + 5 - xs.length = 5 by omega]
    exact ⟨h1, h2, h3⟩

/-- An exchange in block eb: its deliveries zs, announced in memory below eb; its centres cs, in a row of its own above eb. -/
structure Exch (w : World) (eb : Nat) (ao : Option Addr) (n c : Nat) (zs : List Int) (ep : Int) (cs : List Ctr) : Prop where
  ex : ∃ vC xs, w.heap[eb]? = some (.cells (exCells vC ao n c ep) 41 (0, 0)) ∧ w.ownsRow (eb + 1) 51 6 vC cs.length xs ∧ CtrOK xs cs
  ann : VRow fI w ao n zs
  low : 0 < n → ∀ a, ao = some a → a.block < eb

theorem Exch.lt {w : World} {eb n c : Nat} {ao : Option Addr} {zs : List Int} {ep : Int} {cs : List Ctr} (h : Exch w eb ao n c zs ep cs) : eb < w.heap.size := by
  obtain ⟨vC, xs, h1, _⟩ := h.ex; exact lt_of_block h1
theorem grow_below {a b : World} {r : Option Nat} (h : Below a.heap.size a b) : a.grownBy b r := ⟨h.os, h.tape, h.output, h.size, fun i hi _ => h.block i hi⟩
theorem ownsRow_below {w w' : World} {base : Nat} {e : TypeId} {size : Nat} {v : Value} {n : Nat} {xs : List Value} (h : w.ownsRow base e size v n xs) (hb : Below w.heap.size w w') : w'.ownsRow base e size v n xs :=
  h.kept (grow_below (r := none) hb) (by cases v.ownBlock <;> simp)
theorem Exch.below {w w' : World} {eb n c B : Nat} {ao : Option Addr} {zs : List Int} {ep : Int} {cs : List Ctr} (h : Exch w eb ao n c zs ep cs) (hb : Below B w w') (hB : w.heap.size ≤ B) : Exch w' eb ao n c zs ep cs := by
  have hlt := h.lt
  have hb' : Below w.heap.size w w' := hb.mono hB
  obtain ⟨⟨vC, xs, h1, h2, h3⟩, h4, h5⟩ := h
  exact ⟨⟨vC, xs, (hb'.block eb hlt).trans h1, ownsRow_below h2 hb', h3⟩, h4.below hb' (Nat.le_refl _), h5⟩

theorem new_any (ao : Option Addr) (n c : Nat) (zs : List Int) (ep : Int) (w : World) (h : VRow fI w ao n zs) :
    Calls Try.prog 8 #[.slice ao n c, .int .i64 ep] w fun e w' => e = .returned (.pointer (some ⟨w.heap.size, 0, none⟩)) ∧ Exch w' w.heap.size ao n c zs ep [] ∧ Below w.heap.size w w' := by
  have H : Hid (VRow fI w ao n zs) := h
  clear h
  go_enter Try.func8, Try.ntmps8
  go_wp2
  go_ret
  have hB : Below w.heap.size w (w.alloc (.cells (exCells (.slice none 0 0) ao n c ep) 41)) := (Below.refl _ _).alloc (Nat.le_refl _) _
  refine ⟨rfl, ⟨⟨_, [], heap_alloc_new _ _, World.ownsRow_nil _ _ _ _, by intro j c h; simp at h⟩, H.out.below hB (Nat.le_refl _), ?_⟩, hB⟩
  intro hn a ha
  obtain ⟨b, off, e, hlt, _⟩ := H.out.row hn
  rw [e] at ha
  cases ha
  exact hlt

theorem Try.info87 : (Try.prog.info? 87).map (fun i => (i.zero.isSome, i.size, i.bytes)) = some (true, 4, 32) := by kernel_rfl
theorem Try.info51 : (Try.prog.info? 51).map (fun i => (i.zero, i.size, i.bytes)) = some (some (.agg #[.pointer none, .pointer none, .slice none 0 0, .slice none 0 0, .pointer none, .pointer none]), 6, 80) := by kernel_rfl

theorem ex_after {wc wA : World} {o : Obj} {eb : Nat} {r : Option Nat} (hg : (wc.alloc o).drew.grownBy wA r) (heb : eb < wc.heap.size) (hr : r ≠ some eb) : wA.heap[eb]? = wc.heap[eb]? :=
  (hg.block eb (by show eb < (wc.alloc o).heap.size; simp; omega) (fun e => hr e.symm)).trans (Below.heap_alloc _ _ _ heb)
theorem ex_cell {wc wA : World} {o : Obj} {eb n c : Nat} {ao : Option Addr} {ep : Int} {vC : Value} {r : Option Nat} (hg : (wc.alloc o).drew.grownBy wA r) (hr : r ≠ some eb) (hex : wc.heap[eb]? = some (.cells (exCells vC ao n c ep) 41 (0, 0))) :
    wA.cell? ⟨eb, 1, none⟩ = some vC ∧ wA.frozen? ⟨eb, 1, none⟩ = false := by
  have h := (ex_after hg (lt_of_block hex) hr).trans hex
  exact ⟨by simp [World.cell?, h], by simp [World.frozen?, h]⟩

/-- The centre that is being made, in block k: what it holds so far. -/
abbrev ctrCells (g zn : Nat) (po pb : Option Addr) : Array Value := #[.pointer none, .pointer none, .slice none 0 0, .slice (some ⟨g, 0, none⟩) zn zn, .pointer po, .pointer pb]
def AddA (g zn k : Nat) (o : Bool) (w1 : World) (wX : World) : Prop := ∃ po, wX.heap[k]? = some (.cells (ctrCells g zn po none) 51 (0, 0)) ∧ po.isSome = o ∧ Below w1.heap.size w1 wX
def AddB (g zn k : Nat) (o b : Bool) (w1 : World) (wX : World) : Prop := ∃ po pb, wX.heap[k]? = some (.cells (ctrCells g zn po pb) 51 (0, 0)) ∧ po.isSome = o ∧ pb.isSome = b ∧ Below w1.heap.size w1 wX

theorem VRow.low {α : Type} {fv : α → Value} {w w' : World} {ao : Option Addr} {n B : Nat} {xs : List α} (h : VRow fv w ao n xs) (hb : Below B w w') (hl : 0 < n → ∀ a, ao = some a → a.block < B) : VRow fv w' ao n xs :=
  ⟨h.len, fun hn => by
    obtain ⟨b, off, e, hlt, hc⟩ := h.row hn
    exact ⟨b, off, e, Nat.lt_of_lt_of_le hlt hb.size, fun j x hx => (hb.cell (p := ⟨b, off + j, none⟩) (show b < B from hl hn _ e)).trans (hc j x hx)⟩⟩

theorem add_done {w wc wA : World} {eb n c g zn gg cap : Nat} {ao po pb : Option Addr} {zs : List Int} {ep : Int} {cs : List Ctr} {vC : Value} {xs : List Value} {o b : Bool} (hebw : eb < w.heap.size) (hBd : Below w.heap.size w wc)
    (hex : wc.heap[eb]? = some (.cells (exCells vC ao n c ep) 41 (0, 0))) (hown : wc.ownsRow (eb + 1) 51 6 vC cs.length xs) (hok : CtrOK xs cs) (hann : VRow fI wc ao n zs) (hlow : 0 < n → ∀ a, ao = some a → a.block < eb)
    (hown1 : wA.ownsRow (eb + 1) 51 6 (.slice (some ⟨gg, 0, none⟩) (cs.length + 1) cap) (cs.length + 1) (xs ++ (ctrCells g zn po pb).toList))
    (hgrow : (wc.alloc (.cells (ctrCells g zn po pb) 51)).drew.grownBy wA vC.ownBlock) (hpo : po.isSome = o) (hpb : pb.isSome = b) :
    Exch (wA.setCell ⟨eb, 1, none⟩ (.slice (some ⟨gg, 0, none⟩) (cs.length + 1) cap)) eb ao n c zs ep (cs ++ [⟨zn, o, b⟩]) ∧ Below eb w (wA.setCell ⟨eb, 1, none⟩ (.slice (some ⟨gg, 0, none⟩) (cs.length + 1) cap)) := by
  have hV : ∀ k, vC.ownBlock = some k → eb + 1 ≤ k := fun k hk => (hown.lt k hk).1
  have hebc := lt_of_block hex
  have hexA := (ex_after hgrow hebc (fun e => by have := hV eb e; omega)).trans hex
  have hBe : Below eb wc (wA.setCell ⟨eb, 1, none⟩ (.slice (some ⟨gg, 0, none⟩) (cs.length + 1) cap)) :=
    ((((Below.refl eb wc).alloc (by omega) _).drew).grown hgrow (by show eb ≤ (wc.alloc _).heap.size; simp; omega) (fun k hk => by have := hV k hk; omega)).setCell (Nat.le_refl _) _
  refine ⟨⟨⟨.slice (some ⟨gg, 0, none⟩) (cs.length + 1) cap, _, heap_setCell_same wA eb 1 _ 41 _ hexA, ?_, CtrOK.snoc (ys := (ctrCells g zn po pb).toList) hok hown.1 ⟨_, _, rfl⟩ ⟨po, rfl, hpo⟩ ⟨pb, rfl, hpb⟩⟩, hann.low hBe hlow, hlow⟩, (hBd.mono (Nat.le_of_lt hebw)).trans hBe⟩
  have := ownsRow_setCell_other hown1 (a := ⟨eb, 1, none⟩) (fun e => by have := (hown1.lt eb e).1; omega) (.slice (some ⟨gg, 0, none⟩) (cs.length + 1) cap)
  simpa using this

set_option maxHeartbeats 2000000 in
theorem add_any (eb n c : Nat) (ao : Option Addr) (zs : List Int) (ep : Int) (cs : List Ctr) (z : Int) (o b : Bool) (w : World) (h : Exch w eb ao n c zs ep cs) (h0 : 0 ≤ z) (h1 : z ≤ 65536) (hl : cs.length ≤ 65536) :
    Calls Try.prog 10 #[.pointer (some ⟨eb, 0, none⟩), .int .i64 z, .bool o, .bool b] w fun e w' => e = .returned (.tuple #[]) ∧ Exch w' eb ao n c zs ep (cs ++ [⟨z.toNat, o, b⟩]) ∧ Below eb w w' := by
  have H : Hid (Exch w eb ao n c zs ep cs) := h
  have heb := h.lt
  have hi87 := Try.info87
  obtain ⟨i87, hi, hzz⟩ := Option.map_eq_some_iff.1 hi87
  simp only [Prod.mk.injEq] at hzz
  obtain ⟨hz0, hz1, hz2⟩ := hzz
  obtain ⟨zm, hzm⟩ := Option.isSome_iff_exists.1 hz0
  have I87 : Hid (Try.prog.info? 87 = some i87 ∧ i87.zero = some zm ∧ i87.size = 4 ∧ i87.bytes = 32) := ⟨hi, hzm, hz1, hz2⟩
  clear hi87 hi hz0 hz1 hz2 hzm
  obtain ⟨i51, hi, hz0, hz1, hz2⟩ := info_parts Try.info51
  have I51 : Hid (Try.prog.info? 51 = some i51 ∧ i51.zero = some (.agg #[.pointer none, .pointer none, .slice none 0 0, .slice none 0 0, .pointer none, .pointer none]) ∧ i51.size = 6 ∧ i51.bytes = 80) := ⟨hi, hz0, hz1, hz2⟩
  clear hi hz0 hz1 hz2
  have hzn : z = ((z.toNat : Nat) : Int) := by omega
  have B87 : Hid (i87.bytes * z.toNat ≤ 281474976710656) := by unfold Hid; rw [I87.out.2.2.2]; omega
  have BM : Hid (z.toNat ≤ maxLen) := by unfold Hid maxLen; omega
  have HZ : Hid (z = ((z.toNat : Nat) : Int)) := hzn
  clear h hzn
  go_enter Try.func10, Try.ntmps10
  go_upto_if 12 with (at_make; refine wpList_make_full _ rfl (.tmp 9) (.tmp 9) 42 rfl w.heap.size 87 i87 zm 4 Try.underlying42 I87.out.1 I87.out.2.1 I87.out.2.2.1 .i64 .i64 _ _ z.toNat rfl rfl HZ.out HZ.out B87.out BM.out (Nat.le_refl _) ?_; intro w1 o1 g1)
  have hB1 : Below w.heap.size w w1 := (Below.refl _ _).grown g1 (Nat.le_refl _) (by simp)
  have hz1 := hB1.size
  clear o1 g1 B87 BM I87
  go_cut [] (fun wX => AddA w.heap.size z.toNat w1.heap.size o w1 wX)
  case first =>
    cases o
    · go_wp2_with fail
      go_meet
      case rel => exact ⟨none, heap_alloc_new _ _, rfl, (Below.refl _ _).alloc (Nat.le_refl _) _⟩
    · go_wp2_with fail
      go_meet
      case rel => exact ⟨_, (Below.heap_alloc _ _ _ (by simp)).trans (heap_alloc_new _ _), rfl, ((Below.refl _ _).alloc (Nat.le_refl _) _).alloc (by simp) _⟩
  case rest =>
    obtain ⟨po, hblk, hpo, hbc⟩ := hcut
    have HPO : Hid (po.isSome = o) := hpo
    have k5 : wc.cell? ⟨w1.heap.size, 5, none⟩ = some (.pointer none) := by simp [World.cell?, hblk]
    have f5 : wc.frozen? ⟨w1.heap.size, 5, none⟩ = false := by simp [World.frozen?, hblk]
    have Hblk : Hid (wc.heap[w1.heap.size]? = some (.cells (ctrCells w.heap.size z.toNat po none) 51 (0, 0))) := hblk
    have hk1 : w1.heap.size < wc.heap.size := lt_of_block hblk
    clear hpo hblk
    go_upto_if 16 with fail
    go_cut [] (fun wX => AddB w.heap.size z.toNat w1.heap.size o b w1 wX)
    case first =>
      cases b
      · go_wp2_with fail
        go_meet
        case rel => exact ⟨po, none, Hblk.out, HPO.out, rfl, hbc⟩
      · go_wp2_with fail
        go_meet
        case rel => exact ⟨po, _, (Below.heap_alloc _ _ _ (by simpa [World.setCell] using hk1)).trans (heap_setCell_same wc _ 5 _ 51 _ Hblk.out), HPO.out, rfl, (hbc.setCell (Nat.le_refl _) _).alloc (by simpa [World.setCell] using hbc.size) _⟩
    case rest =>
      obtain ⟨po, pb, hblk, hpo, hpb, hbd⟩ := hcut
      have hBd : Below w.heap.size w wc := hB1.trans (hbd.mono hz1)
      have HE : Hid (Exch wc eb ao n c zs ep cs) := H.out.below hBd (Nat.le_refl _)
      obtain ⟨⟨vC, xs, hex, hown, hok⟩, hann, hlow⟩ := HE.out
      have q0 : wc.cell? ⟨w1.heap.size, 0, none⟩ = some (.pointer none) := by simp [World.cell?, hblk]
      have q1 : wc.cell? ⟨w1.heap.size, 1, none⟩ = some (.pointer none) := by simp [World.cell?, hblk]
      have q2 : wc.cell? ⟨w1.heap.size, 2, none⟩ = some (.slice none 0 0) := by simp [World.cell?, hblk]
      have q3 : wc.cell? ⟨w1.heap.size, 3, none⟩ = some (.slice (some ⟨w.heap.size, 0, none⟩) z.toNat z.toNat) := by simp [World.cell?, hblk]
      have q4 : wc.cell? ⟨w1.heap.size, 4, none⟩ = some (.pointer po) := by simp [World.cell?, hblk]
      have q5 : wc.cell? ⟨w1.heap.size, 5, none⟩ = some (.pointer pb) := by simp [World.cell?, hblk]
      have k1 : wc.cell? ⟨eb, 1, none⟩ = some vC := by simp [World.cell?, hex]
      have f1 : wc.frozen? ⟨eb, 1, none⟩ = false := by simp [World.frozen?, hex]
      have Hex : Hid (wc.heap[eb]? = some (.cells (exCells vC ao n c ep) 41 (0, 0))) := hex
      have Hown : Hid (wc.ownsRow (eb + 1) 51 6 vC cs.length xs) := hown
      have Hok : Hid (CtrOK xs cs) := hok
      have Hann : Hid (VRow fI wc ao n zs) := hann
      have Hlow : Hid (0 < n → ∀ a, ao = some a → a.block < eb) := hlow
      have HV : Hid (∀ k, vC.ownBlock = some k → eb + 1 ≤ k) := fun k hk => (hown.lt k hk).1
      have HVne : Hid (vC.ownBlock ≠ some eb) := fun e => by have := HV.out eb e; omega
      have hk1 : w1.heap.size < wc.heap.size := lt_of_block hblk
      have hsz := hBd.size
      have hebc : eb < wc.heap.size := by omega
      have M1 : Hid (cs.length + 1 ≤ maxLen) := by unfold Hid maxLen; omega
      have HPO : Hid (po.isSome = o) := hpo
      have HPB : Hid (pb.isSome = b) := hpb
      clear hex hown hok hann hlow hblk hpo hpb HE
      go_wp2_with fail
      go_region_law ((refine step_append_lies _ (by rfl) _ _ _ (by rfl) (eb + 1) 51 i51 _ 6 80 Try.underlying36 I51.out.1 I51.out.2.1 I51.out.2.2.1 I51.out.2.2.2 rfl (by omega) vC cs.length xs (by rfl) ((Hown.out.alloc _).drew) ⟨wc.heap.size, 0, none⟩ 1 1 (ctrCells w.heap.size z.toNat po pb).toList (by rfl) (by rfl) (World.news_of_block (cs := ctrCells w.heap.size z.toNat po pb) (t := 51) (fr := (0, 0)) (heap_alloc_new wc _)) (by simp [Value.oneCell']) (by omega) M1.out (by omega) (by simp; omega) (wc.heap.size + 1) (by simp) ?_; intro gg cap wA hown1 hgrow hat hlt; obtain ⟨cA, fA⟩ := ex_cell hgrow HVne.out Hex.out))
      all_goals go_wp2_with fail
      all_goals go_end0
      all_goals exact ⟨rfl, add_done heb hBd Hex.out Hown.out Hok.out Hann.out Hlow.out hown1 hgrow HPO.out HPB.out⟩
end Go.Proofs.Qxb6615031a
