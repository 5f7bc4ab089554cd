/-
  The plain law, with no Go in sight: the name of a segment file, and which names are taken for one.
-/
import Derived.Lib.ParseIntB
import Derived.Lib.ParseIntBTie
import Derived.Lib.Strings
import Derived.Stop.FmtTextWidths
namespace Go.Proofs.Qxb6615505aFmt
open Go.Extern.Stop Go.Stop Go.Extern

def pre : List UInt8 := [97, 114, 99, 104, 105, 118, 101, 45]
def suf : List UInt8 := [46, 115, 101, 103]
/-- archive-N.seg, N in 20 signs. -/
def nm (x : Int) : List UInt8 := pre ++ (FmtText.zeros 20 x ++ suf)
/-- Is the name taken for one? -/
def arch (s : List UInt8) : Bool :=
  if Lib.hasSuffix (Lib.trimPrefix s pre) suf then
    match Lib.parseIntB 64 (Lib.trimSuffix (Lib.trimPrefix s pre) suf) with
    | .ok v => decide (0 < v) && (s == nm v)
    | _ => false
  else false

def isDig (c : UInt8) : Prop := 48 ≤ c.toNat ∧ c.toNat ≤ 57
def val (acc : Nat) (l : List UInt8) : Nat := l.foldl (fun a c => a * 10 + (c.toNat - 48)) acc
theorem val_cons (acc : Nat) (c : UInt8) (l : List UInt8) : val acc (c :: l) = val (acc * 10 + (c.toNat - 48)) l := by simp only [val, List.foldl_cons]
theorem val_append (acc : Nat) (a b : List UInt8) : val acc (a ++ b) = val (val acc a) b := by simp [val]
theorem val_ge : ∀ (l : List UInt8) (acc : Nat), acc ≤ val acc l
  | [], acc => Nat.le_refl _
  | c :: r, acc => by
    rw [val_cons]
    exact Nat.le_trans (by omega) (val_ge r _)
theorem parse_val : ∀ (l : List UInt8) (acc : Nat), (∀ c ∈ l, isDig c) → val acc l ≤ 18446744073709551615 → Lib.parseUintM 18446744073709551615 acc l = .ok (val acc l)
  | [], acc, _, _ => rfl
  | c :: r, acc, hd, hv => by
    have hc := hd c (List.mem_cons_self ..)
    rw [val_cons] at hv ⊢
    have h1 := val_ge r (acc * 10 + (c.toNat - 48))
    rw [Lib.parseUintM, if_pos (show 48 ≤ c.toNat ∧ c.toNat ≤ 57 from hc), if_neg (by omega), if_neg (by omega)]
    exact parse_val r _ (fun d hd' => hd d (List.mem_cons_of_mem _ hd')) hv
theorem dig_toNat (k : Nat) (h : k < 10) : (UInt8.ofNat (48 + k)).toNat = 48 + k := by
  rw [UInt8.toNat_ofNat']; omega
theorem dec_dig (u : Nat) : ∀ c ∈ Lib.decDigits u, isDig c := by
  induction u using Nat.strongRecOn with
  | _ u ih =>
    intro c hc
    rw [Lib.decDigits] at hc
    split at hc
    · rename_i h
      obtain rfl := List.mem_singleton.1 hc
      have := dig_toNat u h
      exact ⟨by omega, by omega⟩
    · rename_i h
      rcases List.mem_append.1 hc with h1 | h1
      · exact ih (u / 10) (by omega) c h1
      · obtain rfl := List.mem_singleton.1 h1
        have := dig_toNat (u % 10) (by omega)
        exact ⟨by omega, by omega⟩
theorem dec_val (u : Nat) : val 0 (Lib.decDigits u) = u := by
  induction u using Nat.strongRecOn with
  | _ u ih =>
    rw [Lib.decDigits]
    split
    · rename_i h
      have := dig_toNat u h
      rw [val_cons]
      show 0 * 10 + _ = u
      omega
    · rename_i h
      have := dig_toNat (u % 10) (by omega)
      rw [val_append, ih (u / 10) (by omega), val_cons]
      show u / 10 * 10 + _ = u
      omega
theorem dec_len : ∀ (k u : Nat), u < 10 ^ (k + 1) → (Lib.decDigits u).length ≤ k + 1
  | 0, u, h => by rw [Lib.decDigits, dif_pos (by omega)]; simp
  | k + 1, u, h => by
    rw [Lib.decDigits]
    split
    · simp
    · have := dec_len k (u / 10) (by rw [Nat.pow_succ] at h; omega)
      simp
      exact this
theorem dec_pos (u : Nat) : 0 < (Lib.decDigits u).length := by
  rw [Lib.decDigits]
  split <;> simp
theorem val_zeros (k : Nat) : val 0 (List.replicate k 48) = 0 := by
  induction k with
  | zero => rfl
  | succ k ih => rw [List.replicate_succ, val_cons]; exact ih

theorem zeros_len {x : Int} (h1 : -9223372036854775808 ≤ x) (h2 : x ≤ 9223372036854775807) : (FmtText.zeros 20 x).length = 20 := by
  rw [FmtText.zeros]
  split
  · have := dec_len 18 x.natAbs (by omega)
    simp
    omega
  · have := dec_len 18 x.toNat (by omega)
    simp
    omega
theorem nm_len {x : Int} (h1 : -9223372036854775808 ≤ x) (h2 : x ≤ 9223372036854775807) : (nm x).length = 32 := by
  have := zeros_len h1 h2
  simp [nm, pre, suf, this]

theorem zeros_parse {x : Int} (h1 : -9223372036854775808 ≤ x) (h2 : x ≤ 9223372036854775807) : Lib.parseIntB 64 (FmtText.zeros 20 x) = .ok x := by
  rw [FmtText.zeros]
  split
  · rename_i hx
    have hd : ∀ c ∈ List.replicate (20 - 1 - (Lib.decDigits x.natAbs).length) 48 ++ Lib.decDigits x.natAbs, isDig c := by
      intro c hc
      rcases List.mem_append.1 hc with h | h
      · rw [(List.mem_replicate.1 h).2]; exact ⟨by decide, by decide⟩
      · exact dec_dig _ c h
    have hv : val 0 (List.replicate (20 - 1 - (Lib.decDigits x.natAbs).length) 48 ++ Lib.decDigits x.natAbs) = x.natAbs := by rw [val_append, val_zeros, dec_val]
    have hne : List.replicate (20 - 1 - (Lib.decDigits x.natAbs).length) (48 : UInt8) ++ Lib.decDigits x.natAbs ≠ [] := by
      intro e
      have := dec_pos x.natAbs
      have h := congrArg List.length e
      rw [List.length_append, List.length_nil] at h
      omega
    have hp := parse_val _ 0 hd (by rw [hv]; omega)
    rw [hv] at hp
    generalize List.replicate (20 - 1 - (Lib.decDigits x.natAbs).length) (48 : UInt8) ++ Lib.decDigits x.natAbs = r at hp hne
    have hu : Lib.parseUintB 64 r = .ok x.natAbs := by
      unfold Lib.parseUintB
      rw [if_neg hne]
      exact hp
    have e45 : (45 : UInt8).toNat = 45 := rfl
    simp only [Lib.parseIntB, e45, or_true, if_true, hu]
    rw [if_neg (by simp), if_neg (by omega)]
    congr 1
    omega
  · rename_i hx
    have hd : ∀ c ∈ List.replicate (20 - (Lib.decDigits x.toNat).length) 48 ++ Lib.decDigits x.toNat, isDig c := by
      intro c hc
      rcases List.mem_append.1 hc with h | h
      · rw [(List.mem_replicate.1 h).2]; exact ⟨by decide, by decide⟩
      · exact dec_dig _ c h
    have hv : val 0 (List.replicate (20 - (Lib.decDigits x.toNat).length) 48 ++ Lib.decDigits x.toNat) = x.toNat := by rw [val_append, val_zeros, dec_val]
    have hne : List.replicate (20 - (Lib.decDigits x.toNat).length) (48 : UInt8) ++ Lib.decDigits x.toNat ≠ [] := by
      intro e
      have := dec_pos x.toNat
      have h := congrArg List.length e
      rw [List.length_append, List.length_nil] at h
      omega
    have hp := parse_val _ 0 hd (by rw [hv]; omega)
    rw [hv] at hp
    generalize List.replicate (20 - (Lib.decDigits x.toNat).length) (48 : UInt8) ++ Lib.decDigits x.toNat = r at hd hp hne
    have hu : Lib.parseUintB 64 r = .ok x.toNat := by
      unfold Lib.parseUintB
      rw [if_neg hne]
      exact hp
    cases r with
    | nil => exact absurd rfl hne
    | cons c t =>
      have hc := hd c (List.mem_cons_self ..)
      obtain ⟨c1, c2⟩ := hc
      have n1 : ¬ c.toNat = 43 := by omega
      have n2 : ¬ (c.toNat = 45) := by omega
      simp only [Lib.parseIntB, n1, n2, or_self, hu, not_false_eq_true, true_and, false_and, if_false]
      rw [if_neg (by omega)]
      congr 1
      omega

theorem has_pre (r : List UInt8) : Lib.hasPrefix (pre ++ r) pre = true := by
  unfold Lib.hasPrefix
  rw [List.isPrefixOf_iff_prefix]
  exact List.prefix_append _ _
theorem trim_pre (r : List UInt8) : Lib.trimPrefix (pre ++ r) pre = r := by
  unfold Lib.trimPrefix
  rw [if_pos (has_pre r)]
  simp
theorem has_suf (r : List UInt8) : Lib.hasSuffix (r ++ suf) suf = true := by
  unfold Lib.hasSuffix
  rw [List.isSuffixOf_iff_suffix]
  exact List.suffix_append _ _
theorem trim_suf (r : List UInt8) : Lib.trimSuffix (r ++ suf) suf = r := by
  unfold Lib.trimSuffix
  rw [if_pos (has_suf r)]
  simp

theorem arch_nm {x : Int} (h1 : -9223372036854775808 ≤ x) (h2 : x ≤ 9223372036854775807) : arch (nm x) = decide (0 < x) := by
  unfold arch
  have e : Lib.trimPrefix (nm x) pre = FmtText.zeros 20 x ++ suf := by unfold nm; exact trim_pre _
  rw [e, if_pos (has_suf _), trim_suf, zeros_parse h1 h2]
  simp

theorem parse_bounds {l : List UInt8} {v : Int} (h : Lib.parseIntB 64 l = .ok v) : -9223372036854775808 ≤ v ∧ v ≤ 9223372036854775807 := by
  rw [Lib.parseIntB_64] at h
  have := Lib.atoiAll_bounds h
  omega

theorem arch_long {s : List UInt8} (h : s.length ≠ 32) : arch s = false := by
  unfold arch
  split
  · split
    · rename_i v hv
      obtain ⟨b1, b2⟩ := parse_bounds hv
      have hl := nm_len b1 b2
      have : (s == nm v) = false := by
        rw [beq_eq_false_iff_ne]
        intro e
        exact h (by rw [e]; exact hl)
      rw [this, Bool.and_false]
    · rfl
  · rfl
end Go.Proofs.Qxb6615505aFmt
