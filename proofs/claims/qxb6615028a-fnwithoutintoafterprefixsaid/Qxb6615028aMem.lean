/-
  Rows of tokens in memory.
-/
import Derived.Test.Qxb6615028aLeaf
namespace Go.Proofs.Qxb6615028a
open Go.ChangeShapes Go.WideShapes Go.ChangeAt Go.RowKit
set_option linter.unusedVariables false

/-- The tokens ts lie in block b from offset off on, three cells each. -/
structure TokRow (w : World) (b off : Nat) (ts : List Tk) : Prop where
  lt : b < w.heap.size
  c0 : ∀ j t, ts[j]? = some t → w.cell? ⟨b, off + j * 3, none⟩ = some (.int .i64 t.kind)
  c1 : ∀ j t, ts[j]? = some t → w.cell? ⟨b, off + j * 3 + 1, none⟩ = some (.string t.text)
  c2 : ∀ j t, ts[j]? = some t → w.cell? ⟨b, off + j * 3 + 2, none⟩ = some (.int .i64 t.line)
  sz : ∀ t ∈ ts, t.text.size ≤ maxLen

theorem TokRow.below {w w' : World} {b off B : Nat} {ts : List Tk} (h : TokRow w b off ts) (hb : Below B w w') (hB : b < B) : TokRow w' b off ts :=
  ⟨Nat.lt_of_lt_of_le h.lt hb.size, fun j t e => (hb.cell (p := ⟨b, _, none⟩) hB).trans (h.c0 j t e), fun j t e => (hb.cell (p := ⟨b, _, none⟩) hB).trans (h.c1 j t e), fun j t e => (hb.cell (p := ⟨b, _, none⟩) hB).trans (h.c2 j t e), h.sz⟩

/-- A slice value of n tokens: 'ao' is its address, of which nothing is known where there is no token. -/
structure TokSlice (w : World) (ao : Option Addr) (n : Nat) (ts : List Tk) : Prop where
  len : ts.length = n
  row : 0 < n → ∃ b off, ao = some ⟨b, off, none⟩ ∧ TokRow w b off ts

theorem TokSlice.below {w w' : World} {ao : Option Addr} {n B : Nat} {ts : List Tk} (h : TokSlice w ao n ts) (hb : Below B w w') (hB : w.heap.size ≤ B) : TokSlice w' ao n ts :=
  ⟨h.len, fun hn => by obtain ⟨b, off, e, r⟩ := h.row hn; exact ⟨b, off, e, r.below hb (Nat.lt_of_lt_of_le r.lt hB)⟩⟩

theorem getTk {ts : List Tk} {n k : Nat} (hl : ts.length = n) (hk : k < n) : ∃ t, ts[k]? = some t := ⟨_, List.getElem?_eq_getElem (by omega)⟩

def BytesPost (n : Nat) (w : World) (e : Ending) (w' : World) : Prop := ∃ b, e = .returned (.bool b) ∧ (b = true → n ≤ 1048576) ∧ w' = w
theorem BytesPost.mk {n : Nat} {w : World} (b : Bool) (h : b = true → n ≤ 1048576) : BytesPost n w (.returned (.bool b)) w := ⟨b, rfl, h, rfl⟩

/-- zzBytes: whatever it answers, true means at most 2^20 tokens. -/
theorem bytes_any (ao : Option Addr) (n c : Nat) (ts : List Tk) (w : World) (hs : TokSlice w ao n ts) (hn : n ≤ maxLen) :
    Calls Try.prog 6 #[.slice ao n c] w (BytesPost n w) := by
  unfold maxLen at hn
  by_cases hbig : n ≤ 1048576
  · go_enter Try.func6, Try.ntmps6
    go_wp2
    go_loop [3, 4] (fun z i => ∃ k : Nat, ∃ q : Int, k ≤ n ∧ i = .int .i64 k ∧ z = .int .i64 q ∧ 0 ≤ q ∧ q ≤ 1048576) (fun _ i => n - (intOf i).toNat)
    case atStart => exact ⟨0, _, Nat.zero_le _, rfl, rfl, by omega, by omega⟩
    case round =>
      obtain ⟨k, q, hk, rfl, rfl, hq0, hq1⟩ := hrel
      by_cases hlt : k < n
      · obtain ⟨b, off, rfl, hr⟩ := hs.row (by omega)
        obtain ⟨t, ht⟩ := getTk hs.len hlt
        have h1 := hr.c1 k t ht
        have hsz : t.text.size ≤ maxLen := hr.sz t (List.mem_of_getElem? ht)
        unfold maxLen at hsz
        clear hr ht hs
        have hi : (k : Int) < (n : Int) := by omega
        go_wp2
        all_goals first
          | (go_round
             case rel => exact ⟨k + 1, _, by omega, by go_num, rfl, by omega, by omega⟩
             case measure => simp [intOf]; omega)
          | (go_ret; exact BytesPost.mk _ fun _ => hbig)
      · clear hs
        go_wp2
        go_ret
        exact BytesPost.mk _ fun _ => hbig
  · clear hs
    go_enter Try.func6, Try.ntmps6
    go_wp2
    go_ret
    exact BytesPost.mk _ (by intro h; cases h)

def SpendPost (l : Int) (w : World) (e : Ending) (w' : World) : Prop := ∃ r : Int, e = .returned (.int .i64 r) ∧ (-1 ≤ r ∧ r ≤ l) ∧ w' = w
theorem SpendPost.mk {l : Int} {w : World} (r : Int) (h : -1 ≤ r ∧ r ≤ l) : SpendPost l w (.returned (.int .i64 r)) w := ⟨r, rfl, h, rfl⟩

/-- zzSpend: what is left, or -1. -/
theorem spend_any (ao : Option Addr) (n c : Nat) (ts : List Tk) (l : Int) (w : World) (hs : TokSlice w ao n ts) (hn : n ≤ 1048576) (hl0 : 0 ≤ l) (hl1 : l ≤ 1048576) :
    Calls Try.prog 7 #[.slice ao n c, .int .i64 l] w (SpendPost l w) := by
  go_enter Try.func7, Try.ntmps7
  go_wp2
  go_loop [1, 5] (fun z i => ∃ k : Nat, ∃ q : Int, k ≤ n ∧ i = .int .i64 k ∧ z = .int .i64 q ∧ 0 ≤ q ∧ q ≤ l) (fun _ i => n - (intOf i).toNat)
  case atStart => exact ⟨0, _, Nat.zero_le _, rfl, rfl, by omega, by omega⟩
  case round =>
    obtain ⟨k, q, hk, rfl, rfl, hq0, hq1⟩ := hrel
    by_cases hlt : k < n
    · obtain ⟨b, off, rfl, hr⟩ := hs.row (by omega)
      obtain ⟨t, ht⟩ := getTk hs.len hlt
      have h1 := hr.c1 k t ht
      have hsz : t.text.size ≤ maxLen := hr.sz t (List.mem_of_getElem? ht)
      unfold maxLen at hsz
      clear hr ht hs
      have hi : (k : Int) < (n : Int) := by omega
      go_wp2
      all_goals first
        | (go_round
           case rel => exact ⟨k + 1, _, by omega, by go_num, rfl, by omega, by omega⟩
           case measure => simp [intOf]; omega)
        | (go_ret; exact SpendPost.mk _ (by omega))
    · clear hs
      go_wp2
      go_ret
      exact SpendPost.mk _ (by omega)
end Go.Proofs.Qxb6615028a
