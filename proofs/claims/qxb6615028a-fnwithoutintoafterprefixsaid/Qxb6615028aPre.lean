/-
  What FnWithoutIntoAfterPrefix needs besides: the size test of two lists, the budget told more closely, zzPrefixOK; and the plain law of prefixes.
-/
import Derived.Test.Qxb6615028aSame
import Derived.Test.Qxb6615028aClause
namespace Go.Proofs.Qxb6615028a
open Go.ChangeShapes Go.WideShapes Go.ChangeAt Go.RowKit
set_option linter.unusedVariables false

/-! ### The plain law -/

theorem aut_shift (p r : List Tk) : ∀ (f st j : Nat), aut (p ++ r) f st (p.length + j) = p.length + aut r f st j := by
  intro f
  induction f with
  | zero => intro st j; rfl
  | succ f ih =>
    intro st j
    unfold aut
    have e : (p ++ r)[p.length + j]? = r[j]? := by rw [List.getElem?_append_right (by omega)]; congr 1; omega
    rw [e]
    split
    · rfl
    · split
      · rfl
      · rw [show p.length + j + 1 = p.length + (j + 1) by omega]
        exact ih _ _
theorem autF_shift (p r : List Tk) (st j : Nat) : autF (p ++ r) st (p.length + j) = p.length + autF r st j := by
  unfold autF
  have e : (p ++ r).length - (p.length + j) = r.length - j := by simp; omega
  rw [e]
  exact aut_shift p r _ _ _
theorem afterStrict_shift (p r : List Tk) (j : Nat) : afterStrict (p ++ r) (p.length + j) = p.length + afterStrict r j := by
  unfold afterStrict
  have e : (p ++ r)[p.length + j]? = r[j]? := by rw [List.getElem?_append_right (by omega)]; congr 1; omega
  rw [e]
  split
  · split <;> omega
  · rfl
theorem clauseEnd_shift (p r : List Tk) : clauseEnd (p ++ r) p.length = p.length + clauseEnd r 0 := by
  unfold clauseEnd
  rw [afterStrict_shift p r (0 + 1), autF_shift]
theorem cut_prefix {p r : List Tk} (h : fsF (p ++ r) 0 0 = some p.length) (h0 : fsF r 0 0 = some 0) : cut (p ++ r) = p ++ cut r := by
  rw [cut_some h, cut_some h0, clauseEnd_shift]
  simp [List.drop_append]
theorem cut_head {t : Tk} {s : List Tk} (ht : isW t cInto = true) : fsF (t :: s) 0 0 = some 0 := fsF_hit rfl ht rfl
theorem cut_head_len {t : Tk} {s : List Tk} (ht : isW t cInto = true) : (cut (t :: s)).length ≤ s.length := by
  rw [cut_some (cut_head ht)]
  have := (clauseEnd_le (ts := t :: s) (s := 0) (by simp)).1
  simp
  omega
/-- Where nothing that may start a name follows, just INTO is cut. -/
theorem cut_head_none {t : Tk} {s : List Tk} (ht : isW t cInto = true) (hs : namePart (tokAt s 0) = false) : (cut (t :: s)).length = s.length := by
  rw [cut_some (cut_head ht)]
  have hst : isW (tokAt s 0) cStrict = false := by
    cases h : isW (tokAt s 0) cStrict
    · rfl
    · simp [isW] at h; simp [namePart, h.1] at hs
  have e0 : tokAt (t :: s) 1 = tokAt s 0 := by simp [tokAt, List.getD]
  have e1 : afterStrict (t :: s) (0 + 1) = 1 := by rw [← strict_at, e0, hst]; rfl
  have e2 : clauseEnd (t :: s) 0 = 1 := by unfold clauseEnd; rw [e1]; exact aut_zero (by rw [e0]; exact hs)
  rw [e2]
  simp

/-! ### The walks -/

def Bytes2Post (n m : Nat) (w : World) (e : Ending) (w' : World) : Prop := ∃ b, e = .returned (.bool b) ∧ (b = true → n ≤ 1048576 ∧ m ≤ 1048576) ∧ w' = w
theorem Bytes2Post.mk {n m : Nat} {w : World} (b : Bool) (h : b = true → n ≤ 1048576 ∧ m ≤ 1048576) : Bytes2Post n m w (.returned (.bool b)) w := ⟨b, rfl, h, rfl⟩
theorem Bytes2Post.no {n m : Nat} {w : World} : Bytes2Post n m w (.returned (.bool false)) w := ⟨false, rfl, (by intro h; cases h), rfl⟩

set_option maxHeartbeats 1000000 in
theorem bytes2_any (ao bo : Option Addr) (n m c d : Nat) (ps ss : List Tk) (w : World) (hp : TokSlice w ao n ps) (hs : TokSlice w bo m ss) (hn : n ≤ maxLen) (hm : m ≤ maxLen) :
    Calls Try.prog 15 #[.slice ao n c, .slice bo m d] w (Bytes2Post n m w) := by
  unfold maxLen at hn hm
  have HP : Hid (TokSlice w ao n ps) := hp
  have HS : Hid (TokSlice w bo m ss) := hs
  clear hp hs
  by_cases hbig : n ≤ 1048576
  · go_enter Try.func15, Try.ntmps15
    go_wp2
    go_loop [5, 6] (fun z i => ∃ k : Nat, ∃ q : Int, k ≤ n ∧ i = .int .i64 k ∧ z = .int .i64 q ∧ 0 ≤ q ∧ q ≤ 1048576) (fun _ i => n - (intOf i).toNat)
    case atStart => exact ⟨0, _, Nat.zero_le _, rfl, rfl, by omega, by omega⟩
    case round =>
      obtain ⟨k, q, hk, rfl, rfl, hq0, hq1⟩ := hrel
      by_cases hlt : k < n
      · obtain ⟨b, off, rfl, hr⟩ := HP.out.row (by omega)
        obtain ⟨t, ht⟩ := getTk HP.out.len hlt
        have h1 := hr.c1 k t ht
        have hsz : t.text.size ≤ maxLen := hr.sz t (List.mem_of_getElem? ht)
        unfold maxLen at hsz
        clear hr ht
        have hi : (k : Int) < (n : Int) := by omega
        go_wp2
        all_goals first
          | (go_round
             case rel => exact ⟨k + 1, _, by omega, by go_num, rfl, by omega, by omega⟩
             case measure => simp [intOf]; omega)
          | (go_ret; exact Bytes2Post.no)
      · by_cases hbig2 : m ≤ 1048576
        · by_cases hsum : q + m ≤ 1048576
          · go_wp2
            go_loop [5, 7] (fun z i => ∃ k : Nat, ∃ q : Int, k ≤ m ∧ i = .int .i64 k ∧ z = .int .i64 q ∧ 0 ≤ q ∧ q ≤ 1048576) (fun _ i => m - (intOf i).toNat)
            case atStart => exact ⟨0, _, Nat.zero_le _, rfl, rfl, by omega, by omega⟩
            case round =>
              obtain ⟨j, q2, hj, rfl, rfl, hq20, hq21⟩ := hrel
              by_cases hjt : j < m
              · obtain ⟨b, off, rfl, hr⟩ := HS.out.row (by omega)
                obtain ⟨t, ht⟩ := getTk HS.out.len hjt
                have h1 := hr.c1 j t ht
                have hsz : t.text.size ≤ maxLen := hr.sz t (List.mem_of_getElem? ht)
                unfold maxLen at hsz
                clear hr ht
                have hi : (j : Int) < (m : Int) := by omega
                go_wp2
                all_goals first
                  | (go_round
                     case rel => exact ⟨j + 1, _, by omega, by go_num, rfl, by omega, by omega⟩
                     case measure => simp [intOf]; omega)
                  | (go_ret; exact Bytes2Post.no)
              · go_wp2
                go_ret
                exact Bytes2Post.mk _ fun _ => ⟨hbig, hbig2⟩
          · go_wp2
            go_ret
            exact Bytes2Post.no
        · go_wp2
          go_ret
          exact Bytes2Post.no
  · go_enter Try.func15, Try.ntmps15
    go_wp2
    go_ret
    exact Bytes2Post.no

def SpendMore (n : Nat) (l : Int) (w : World) (e : Ending) (w' : World) : Prop := ∃ r : Int, e = .returned (.int .i64 r) ∧ (-1 ≤ r ∧ r ≤ l) ∧ (0 ≤ r → 24 * (n : Int) + r ≤ l) ∧ w' = w
theorem SpendMore.mk {n : Nat} {l : Int} {w : World} (r : Int) (h : -1 ≤ r ∧ r ≤ l) (h2 : 0 ≤ r → 24 * (n : Int) + r ≤ l) : SpendMore n l w (.returned (.int .i64 r)) w := ⟨r, rfl, h, h2, rfl⟩

theorem spend_more (ao : Option Addr) (n c : Nat) (ts : List Tk) (l : Int) (w : World) (hs : TokSlice w ao n ts) (hn : n ≤ 1048576) (hl0 : 0 ≤ l) (hl1 : l ≤ 1048576) :
    Calls Try.prog 7 #[.slice ao n c, .int .i64 l] w (SpendMore n l w) := by
  go_enter Try.func7, Try.ntmps7
  go_wp2
  go_loop [1, 5] (fun z i => ∃ k : Nat, ∃ q : Int, k ≤ n ∧ i = .int .i64 k ∧ z = .int .i64 q ∧ 0 ≤ q ∧ 24 * (k : Int) + q ≤ l) (fun _ i => n - (intOf i).toNat)
  case atStart => exact ⟨0, _, Nat.zero_le _, rfl, rfl, by omega, by omega⟩
  case round =>
    obtain ⟨k, q, hk, rfl, rfl, hq0, hq1⟩ := hrel
    by_cases hlt : k < n
    · obtain ⟨b, off, rfl, hr⟩ := hs.row (by omega)
      obtain ⟨t, ht⟩ := getTk hs.len hlt
      have h1 := hr.c1 k t ht
      have hsz : t.text.size ≤ maxLen := hr.sz t (List.mem_of_getElem? ht)
      unfold maxLen at hsz
      clear hr ht hs
      have hi : (k : Int) < (n : Int) := by omega
      go_wp2
      all_goals first
        | (go_round
           case rel => exact ⟨k + 1, _, by omega, by go_num, rfl, by omega, by omega⟩
           case measure => simp [intOf]; omega)
        | (go_ret; exact SpendMore.mk _ (by omega) (by omega))
    · clear hs
      go_wp2
      go_ret
      exact SpendMore.mk _ (by omega) (by omega)
end Go.Proofs.Qxb6615028a
