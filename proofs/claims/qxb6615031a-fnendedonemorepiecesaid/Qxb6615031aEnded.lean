/-
  (*exchange).ended.
-/
import Derived.Test.Qxb6615031aExch
namespace Go.Proofs.Qxb6615031a
open Go.ChangeShapes Go.WideShapes Go.ChangeAt Go.RowKit
set_option linter.unusedVariables false

/-- 'ended', plainly. -/
def endedB (cs : List Ctr) (zs : List Int) (ep : Int) : Bool := cs.all quiet && zs.all (fun z => z == ep)
theorem ended_no1 {cs : List Ctr} {zs : List Int} {ep : Int} {k : Nat} {c : Ctr} (h : cs[k]? = some c) (hq : quiet c = false) : endedB cs zs ep = false := by
  have : cs.all quiet = false := by
    rw [List.all_eq_false]; exact ⟨c, List.mem_of_getElem? h, by simp [hq]⟩
  simp [endedB, this]
theorem ended_no2 {cs : List Ctr} {zs : List Int} {ep z : Int} {k : Nat} (h : zs[k]? = some z) (hq : z ≠ ep) : endedB cs zs ep = false := by
  have : zs.all (fun z => z == ep) = false := by
    rw [List.all_eq_false]; exact ⟨z, List.mem_of_getElem? h, by simp [hq]⟩
  simp [endedB, this]
theorem ended_yes {cs : List Ctr} {zs : List Int} {ep : Int} (h : ∀ j c, j < cs.length → cs[j]? = some c → quiet c = true) (h2 : ∀ j z, j < zs.length → zs[j]? = some z → z = ep) : endedB cs zs ep = true := by
  have e1 : cs.all quiet = true := by
    rw [List.all_eq_true]; intro c hc
    obtain ⟨j, hj, e⟩ := List.mem_iff_getElem.1 hc
    exact h j c hj (by rw [List.getElem?_eq_getElem hj, e])
  have e2 : zs.all (fun z => z == ep) = true := by
    rw [List.all_eq_true]; intro z hz
    obtain ⟨j, hj, e⟩ := List.mem_iff_getElem.1 hz
    simp [h2 j z hj (by rw [List.getElem?_eq_getElem hj, e])]
  simp [endedB, e1, e2]

def EndPost (r : Bool) (w : World) (e : Ending) (w' : World) : Prop := e = .returned (.bool r) ∧ w' = w
theorem EndPost.mk {r b : Bool} {w : World} (h : r = b) : EndPost r w (.returned (.bool b)) w := ⟨by rw [h], rfl⟩
def EndRelC (n : Nat) (cs : List Ctr) (i : Value) : Prop := ∃ k : Nat, k ≤ n ∧ i = .int .i64 k ∧ ∀ j c, j < k → cs[j]? = some c → quiet c = true
def EndRelA (n : Nat) (zs : List Int) (ep : Int) (i : Value) : Prop := ∃ k : Nat, k ≤ n ∧ i = .int .i64 k ∧ ∀ j z, j < k → zs[j]? = some z → z = ep

/-- A row of centres, read. -/
theorem owns_read {w : World} {base m : Nat} {v : Value} {xs : List Value} (h : w.ownsRow base 51 6 v m xs) : ∃ va cap, v = .slice va m cap ∧ (0 < m → ∃ g, va = some ⟨g, 0, none⟩ ∧ ∀ j u, xs[j]? = some u → w.cell? ⟨g, j, none⟩ = some u) := by
  rcases h.2 with ⟨rfl, rfl⟩ | ⟨g, cap, cur, rfl, _, hg, _, _, _, htake⟩
  · exact ⟨none, 0, rfl, by omega⟩
  · refine ⟨_, _, rfl, fun _ => ⟨g, rfl, fun j u hu => ?_⟩⟩
    rw [cell_of_row w g j cur 51 (0, 0) hg]
    rw [← htake, List.getElem?_take] at hu
    split at hu
    · simpa using hu
    · cases hu

set_option maxHeartbeats 2000000 in
theorem ended_any (eb n c : Nat) (ao : Option Addr) (zs : List Int) (ep : Int) (cs : List Ctr) (w : World) (h : Exch w eb ao n c zs ep cs) (hl : cs.length ≤ 65537) (hn : n ≤ 65537) :
    Calls Try.prog 15 #[.pointer (some ⟨eb, 0, none⟩)] w (EndPost (endedB cs zs ep) w) := by
  obtain ⟨⟨vC, xs, hex, hown, hok⟩, hann, hlow⟩ := h
  obtain ⟨va, cap, rfl, hrd⟩ := owns_read hown
  have k1 : w.cell? ⟨eb, 1, none⟩ = some (.slice va cs.length cap) := by simp [World.cell?, hex]
  have k3 : w.cell? ⟨eb, 3, none⟩ = some (.slice ao n c) := by simp [World.cell?, hex]
  have k4 : w.cell? ⟨eb, 4, none⟩ = some (.int .i64 ep) := by simp [World.cell?, hex]
  have Hrd : Hid (0 < cs.length → ∃ g, va = some ⟨g, 0, none⟩ ∧ ∀ j u, xs[j]? = some u → w.cell? ⟨g, j, none⟩ = some u) := hrd
  have Hok : Hid (CtrOK xs cs) := hok
  have Hann : Hid (VRow fI w ao n zs) := hann
  obtain ⟨L, hL⟩ : ∃ L, cs.length = L := ⟨_, rfl⟩
  have HL : Hid (cs.length = L) := hL
  rw [hL] at k1 hl
  clear hex hown hok hann hlow hrd hL
  go_enter Try.func15, Try.ntmps15
  go_wp2_with fail
  go_loop [12] (fun i => EndRelC L cs i) (fun i => L - (intOf i).toNat)
  case atStart => exact ⟨0, Nat.zero_le _, rfl, by omega⟩
  case round =>
    obtain ⟨k, hk, rfl, hall⟩ := hrel
    have Hall : Hid (∀ j c, j < k → cs[j]? = some c → quiet c = true) := hall
    clear hall
    by_cases hlt : k < L
    · obtain ⟨g, rfl, hg⟩ := Hrd.out (by have := HL.out; omega)
      obtain ⟨ct, hct⟩ := getX HL.out hlt
      obtain ⟨⟨ia, icap, hx3⟩, ⟨po, hx4, hpo⟩, ⟨pb, hx5, hpb⟩⟩ := Hok.out k ct hct
      have g3 := hg _ _ hx3
      have g4 := hg _ _ hx4
      have g5 := hg _ _ hx5
      have Hct : Hid (cs[k]? = some ct) := hct
      have Hpo : Hid (po.isSome = ct.o) := hpo
      have Hpb : Hid (pb.isSome = ct.b) := hpb
      clear hg hct hx3 hx4 hx5 hpo hpb
      have hi : (k : Int) < (L : Int) := by omega
      obtain ⟨cn, co, cbd⟩ := ct
      simp only at g3 Hpo Hpb
      by_cases hn0 : cn = 0
      · subst hn0
        cases po with
        | none =>
          cases pb with
          | none =>
            have HQ : Hid (quiet ⟨0, co, cbd⟩ = true) := by
              have h1 := Hpo.out; have h2 := Hpb.out
              simp only [Option.isSome_none] at h1 h2
              simp [Hid, quiet, ← h1, ← h2]
            go_wp2_with fail
            go_round
            case rel =>
              refine ⟨k + 1, by omega, by go_num, ?_⟩
              intro j c hj hc
              by_cases e : j = k
              · subst e; have := Hct.out; rw [this] at hc; cases hc; exact HQ.out
              · exact Hall.out j c (by omega) hc
            case measure => simp [intOf]; omega
          | some a =>
            have HQ : Hid (endedB cs zs ep = false) := ended_no1 Hct.out (by have h2 := Hpb.out; simp only [Option.isSome_some] at h2; simp [quiet, ← h2])
            go_wp2_with fail
            go_ret
            exact EndPost.mk HQ.out
        | some a =>
          have HQ : Hid (endedB cs zs ep = false) := ended_no1 Hct.out (by have h1 := Hpo.out; simp only [Option.isSome_some] at h1; simp [quiet, ← h1])
          go_wp2_with fail
          go_ret
          exact EndPost.mk HQ.out
      · have HQ : Hid (endedB cs zs ep = false) := ended_no1 Hct.out (by simp [quiet, hn0])
        have hdn : 0 < cn := by omega
        clear hn0
        go_wp2_with fail
        go_ret
        exact EndPost.mk HQ.out
    · have hkL : L = k := by omega
      subst hkL
      clear k1
      go_wp2_with fail
      go_loop [47] (fun i => EndRelA n zs ep i) (fun i => n - (intOf i).toNat)
      case atStart => exact ⟨0, Nat.zero_le _, rfl, by omega⟩
      case round =>
        obtain ⟨j, hj, rfl, hall⟩ := hrel
        have Hall2 : Hid (∀ i z, i < j → zs[i]? = some z → z = ep) := hall
        clear hall
        by_cases hjt : j < n
        · obtain ⟨b, off, rfl, hb, hc⟩ := Hann.out.row (by omega)
          obtain ⟨z, hz⟩ := getX Hann.out.len hjt
          have g0 := hc j z hz
          have Hz : Hid (zs[j]? = some z) := hz
          clear hc hz
          have hi : (j : Int) < (n : Int) := by omega
          by_cases hez : z = ep
          · have hb2 : (z != ep) = false := by simp [hez]
            have Hez : Hid (z = ep) := hez
            clear hez
            go_wp2_with fail
            go_round
            case rel =>
              refine ⟨j + 1, by omega, by go_num, ?_⟩
              intro i z' hi hz'
              by_cases e : i = j
              · subst e; have := Hz.out; rw [this] at hz'; cases hz'; exact Hez.out
              · exact Hall2.out i z' (by omega) hz'
            case measure => simp [intOf]; omega
          · have hb2 : (z != ep) = true := by simp [hez]
            have HQ : Hid (endedB cs zs ep = false) := ended_no2 Hz.out hez
            clear hez
            go_wp2_with fail
            go_ret
            exact EndPost.mk HQ.out
        · have HQ : Hid (endedB cs zs ep = true) := ended_yes (fun i c hi hc => Hall.out i c (by have := HL.out; omega) hc) (fun i z hi hz => Hall2.out i z (by have := Hann.out.len; omega) hz)
          go_wp2_with fail
          go_ret
          exact EndPost.mk HQ.out

theorem Ended_any (eb n c : Nat) (ao : Option Addr) (zs : List Int) (ep : Int) (cs : List Ctr) (w : World) (h : Exch w eb ao n c zs ep cs) (hl : cs.length ≤ 65537) (hn : n ≤ 65537) :
    Calls Try.prog 11 #[.pointer (some ⟨eb, 0, none⟩)] w (EndPost (endedB cs zs ep) w) := by
  have H : Hid (Exch w eb ao n c zs ep cs) := h
  clear h
  go_enter Try.func11, Try.ntmps11
  go_wp2_with fail
  refine (ended_any eb n c ao zs ep cs _ H.out hl hn).mono ?_
  rintro e w' ⟨rfl, rfl⟩
  go_wp2_with fail
  go_ret
  exact ⟨rfl, rfl⟩
end Go.Proofs.Qxb6615031a
