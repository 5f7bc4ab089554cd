/-
  THE PLAIN SIDE: tokens, the scan for INTO, the automaton for the clause's end. No Go in sight.
-/
namespace Go.Proofs.Qxb6615028a

structure Tk where
  kind : Int
  text : ByteArray
  line : Int

def isW (t : Tk) (s : List UInt8) : Bool := t.kind == 0 && t.text.toList == s
def isO (t : Tk) (s : List UInt8) : Bool := t.kind == 5 && t.text.toList == s
def cInto : List UInt8 := [105, 110, 116, 111]
def cInsert : List UInt8 := [105, 110, 115, 101, 114, 116]
def cMerge : List UInt8 := [109, 101, 114, 103, 101]
def cStrict : List UInt8 := [115, 116, 114, 105, 99, 116]
def opener (t : Tk) : Bool := isO t [40] || isO t [91]
def closer (t : Tk) : Bool := isO t [41] || isO t [93]
def namePart (t : Tk) : Bool := t.kind == 0 || t.kind == 1
def verb (t : Tk) : Bool := isW t cInsert || isW t cMerge
def afterVerb (ts : List Tk) : Nat → Bool
  | 0 => false
  | j + 1 => match ts[j]? with
    | some t => verb t
    | none => false

theorem opener_not_closer {t : Tk} (h : opener t = true) : closer t = false := by
  simp [opener, closer, isO] at *
  rcases h with ⟨_, h⟩ | ⟨_, h⟩ <;> simp [h]

/-- The scan for the first INTO outside brackets, not behind INSERT or MERGE. -/
def fs (ts : List Tk) : Nat → Nat → Nat → Option Nat
  | 0, _, _ => none
  | f + 1, d, i => match ts[i]? with
    | none => none
    | some t =>
      if (d == 0 && isW t cInto && !afterVerb ts i) = true then some i
      else if opener t = true then fs ts f (d + 1) (i + 1)
      else if (decide (0 < d) && closer t) = true then fs ts f (d - 1) (i + 1)
      else fs ts f d (i + 1)

def fsF (ts : List Tk) (d i : Nat) : Option Nat := fs ts (ts.length - i) d i

theorem fsF_end {ts : List Tk} {d i : Nat} (h : ts.length ≤ i) : fsF ts d i = none := by
  unfold fsF
  have : ts.length - i = 0 := by omega
  rw [this]; rfl

theorem fsF_step {ts : List Tk} {d i : Nat} {t : Tk} (h : ts[i]? = some t) :
    fsF ts d i = if (d == 0 && isW t cInto && !afterVerb ts i) = true then some i
      else if opener t = true then fsF ts (d + 1) (i + 1)
      else if (decide (0 < d) && closer t) = true then fsF ts (d - 1) (i + 1)
      else fsF ts d (i + 1) := by
  have hlt : i < ts.length := (List.getElem?_eq_some_iff.1 h).1
  unfold fsF
  have e : ts.length - i = (ts.length - (i + 1)) + 1 := by omega
  rw [e]
  conv => lhs; unfold fs
  rw [h]

/-- A token that is no INTO (or stands behind a verb, or inside brackets): the scan goes on. -/
theorem fsF_hit {ts : List Tk} {i : Nat} {t : Tk} (h : ts[i]? = some t) (hi : isW t cInto = true) (hv : afterVerb ts i = false) : fsF ts 0 i = some i := by
  rw [fsF_step h]; simp [hi, hv]
theorem fsF_open {ts : List Tk} {d i : Nat} {t : Tk} (h : ts[i]? = some t) (hn : (d == 0 && isW t cInto && !afterVerb ts i) = false) (ho : opener t = true) : fsF ts d i = fsF ts (d + 1) (i + 1) := by
  rw [fsF_step h, if_neg (by rw [hn]; simp), if_pos ho]
theorem fsF_close {ts : List Tk} {d i : Nat} {t : Tk} (h : ts[i]? = some t) (hd : 0 < d) (ho : opener t = false) (hc : closer t = true) : fsF ts d i = fsF ts (d - 1) (i + 1) := by
  rw [fsF_step h, if_neg, if_neg (by rw [ho]; simp), if_pos (by simp [hd, hc])]
  have : (d == 0) = false := by simp; omega
  simp [this]
theorem fsF_other {ts : List Tk} {d i : Nat} {t : Tk} (h : ts[i]? = some t) (hn : (d == 0 && isW t cInto && !afterVerb ts i) = false) (ho : opener t = false) (hc : (decide (0 < d) && closer t) = false) : fsF ts d i = fsF ts d (i + 1) := by
  rw [fsF_step h, if_neg (by rw [hn]; simp), if_neg (by rw [ho]; simp), if_neg (by rw [hc]; simp)]

theorem fs_lt (ts : List Tk) : ∀ (f d i s : Nat), fs ts f d i = some s → i ≤ s ∧ s < ts.length := by
  intro f
  induction f with
  | zero => intro d i s h; simp [fs] at h
  | succ f ih =>
    intro d i s h
    unfold fs at h
    split at h
    · cases h
    · rename_i t ht
      have hlt : i < ts.length := (List.getElem?_eq_some_iff.1 ht).1
      split at h
      · simp at h; omega
      · split at h
        · have := ih _ _ _ h; omega
        · split at h
          · have := ih _ _ _ h; omega
          · have := ih _ _ _ h; omega
theorem fsF_lt {ts : List Tk} {d i s : Nat} (h : fsF ts d i = some s) : i ≤ s ∧ s < ts.length := fs_lt ts _ _ _ _ h

/-- The automaton for the clause's end: 0: a name may start; 1: after a name part; 2: after a dot. -/
def next : Nat → Tk → Option Nat
  | 0, t => if namePart t = true then some 1 else none
  | 1, t => if isO t [46] = true then some 2 else if isO t [44] = true then some 0 else none
  | _, t => if namePart t = true then some 1 else if isO t [44] = true then some 0 else none

def aut (ts : List Tk) : Nat → Nat → Nat → Nat
  | 0, _, j => j
  | f + 1, st, j => match ts[j]? with
    | none => j
    | some t => match next st t with
      | none => j
      | some st' => aut ts f st' (j + 1)

def autF (ts : List Tk) (st j : Nat) : Nat := aut ts (ts.length - j) st j

theorem autF_end {ts : List Tk} {st j : Nat} (h : ts.length ≤ j) : autF ts st j = j := by
  unfold autF
  have : ts.length - j = 0 := by omega
  rw [this]; rfl
theorem autF_step {ts : List Tk} {st j : Nat} {t : Tk} (h : ts[j]? = some t) :
    autF ts st j = match next st t with
      | none => j
      | some st' => autF ts st' (j + 1) := by
  have hlt : j < ts.length := (List.getElem?_eq_some_iff.1 h).1
  unfold autF
  have e : ts.length - j = (ts.length - (j + 1)) + 1 := by omega
  rw [e]
  conv => lhs; unfold aut
  rw [h]
theorem autF_go {ts : List Tk} {st st' j : Nat} {t : Tk} (h : ts[j]? = some t) (hn : next st t = some st') : autF ts st j = autF ts st' (j + 1) := by
  rw [autF_step h, hn]
theorem autF_stop {ts : List Tk} {st j : Nat} {t : Tk} (h : ts[j]? = some t) (hn : next st t = none) : autF ts st j = j := by
  rw [autF_step h, hn]

theorem aut_le (ts : List Tk) : ∀ (f st j : Nat), j ≤ ts.length → j ≤ aut ts f st j ∧ aut ts f st j ≤ ts.length := by
  intro f
  induction f with
  | zero => intro st j h; simp [aut]; exact h
  | succ f ih =>
    intro st j h
    unfold aut
    split
    · omega
    · rename_i t ht
      have hlt : j < ts.length := (List.getElem?_eq_some_iff.1 ht).1
      split
      · omega
      · have := ih (by assumption) (j + 1) (by omega); omega
theorem autF_le {ts : List Tk} {st j : Nat} (h : j ≤ ts.length) : j ≤ autF ts st j ∧ autF ts st j ≤ ts.length := aut_le ts _ _ _ h

def afterStrict (ts : List Tk) (j : Nat) : Nat := match ts[j]? with
  | some t => if isW t cStrict = true then j + 1 else j
  | none => j
theorem afterStrict_le {ts : List Tk} {j : Nat} (h : j ≤ ts.length) : j ≤ afterStrict ts j ∧ afterStrict ts j ≤ ts.length := by
  unfold afterStrict
  split
  · rename_i t ht
    have hlt : j < ts.length := (List.getElem?_eq_some_iff.1 ht).1
    split <;> omega
  · omega

def clauseEnd (ts : List Tk) (s : Nat) : Nat := autF ts 0 (afterStrict ts (s + 1))
theorem clauseEnd_le {ts : List Tk} {s : Nat} (h : s < ts.length) : s + 1 ≤ clauseEnd ts s ∧ clauseEnd ts s ≤ ts.length := by
  unfold clauseEnd
  have h1 := afterStrict_le (ts := ts) (j := s + 1) (by omega)
  have h2 := autF_le (ts := ts) (st := 0) (j := afterStrict ts (s + 1)) (by omega)
  omega

/-- What is left where the clause is cut out. -/
def cut (ts : List Tk) : List Tk := match fsF ts 0 0 with
  | none => ts
  | some s => ts.take s ++ ts.drop (clauseEnd ts s)

theorem cut_none {ts : List Tk} (h : fsF ts 0 0 = none) : cut ts = ts := by simp [cut, h]
theorem cut_some {ts : List Tk} {s : Nat} (h : fsF ts 0 0 = some s) : cut ts = ts.take s ++ ts.drop (clauseEnd ts s) := by simp [cut, h]
end Go.Proofs.Qxb6615028a
