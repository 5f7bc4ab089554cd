/-
  The walks: segmentNumber, IsArchiveFile.
-/
import Derived.Test.Qxb6615505aFmtWalk
namespace Go.Proofs.Qxb6615505aFmt
open Go.RowKit Go.Kit Go.Extern.Stop Go.Stop Go.Extern
set_option linter.unusedVariables false

def CutPost (t : ByteArray) (b : Bool) (w : World) (e : Ending) (w' : World) : Prop := e = .returned (.tuple #[.string t, .bool b]) ∧ w' = w
def d0 (s : ByteArray) : ByteArray := ⟨(Lib.trimPrefix s.data.toList pre).toArray⟩
def b0 (s : ByteArray) : Bool := Lib.hasPrefix s.data.toList pre
def d1 (s : ByteArray) : ByteArray := ⟨(Lib.trimSuffix (Lib.trimPrefix s.data.toList pre) suf).toArray⟩
def b1 (s : ByteArray) : Bool := Lib.hasSuffix (Lib.trimPrefix s.data.toList pre) suf
theorem d0_list (s : ByteArray) : (d0 s).data.toList = Lib.trimPrefix s.data.toList pre := by simp [d0]
theorem d1_list (s : ByteArray) : (d1 s).data.toList = Lib.trimSuffix (Lib.trimPrefix s.data.toList pre) suf := by simp [d1]
theorem trimP_le (l p : List UInt8) : (Lib.trimPrefix l p).length ≤ l.length := by
  unfold Lib.trimPrefix; split
  · simp
  · exact Nat.le_refl _
theorem trimS_le (l p : List UInt8) : (Lib.trimSuffix l p).length ≤ l.length := by
  unfold Lib.trimSuffix; split
  · simp
  · exact Nat.le_refl _
theorem d0_size (s : ByteArray) : (d0 s).size ≤ s.size := by
  rw [Lib.size_eq, Lib.size_eq, d0_list]; exact trimP_le _ _
theorem d1_size (s : ByteArray) : (d1 s).size ≤ s.size := by
  rw [Lib.size_eq, Lib.size_eq, d1_list]; exact Nat.le_trans (trimS_le _ _) (trimP_le _ _)
theorem cutP (s : ByteArray) (w : World) : Calls Tryf.prog 10 #[.string s, .string ⟨#[97, 114, 99, 104, 105, 118, 101, 45]⟩] w (CutPost (d0 s) (b0 s) w) := Tryf.cutPrefix s ⟨#[97, 114, 99, 104, 105, 118, 101, 45]⟩ w
theorem cutS (s : ByteArray) (w : World) (hs : s.size ≤ 9223372036854775807) : Calls Tryf.prog 11 #[.string (d0 s), .string ⟨#[46, 115, 101, 103]⟩] w (CutPost (d1 s) (b1 s) w) := by
  have h := Tryf.cutSuffix (d0 s) ⟨#[46, 115, 101, 103]⟩ w (Nat.le_trans (d0_size s) hs)
  rw [d0_list] at h
  exact h

def OkPost (v : Int) (w : World) (e : Ending) (w' : World) : Prop := e = .returned (.tuple #[.int .i64 v, .nilIface]) ∧ Below w.heap.size w w'
def ErrPost (w : World) (e : Ending) (w' : World) : Prop := ∃ v T N, e = .returned (.tuple #[.int .i64 v, .iface T (.pointer (some ⟨N, 0, none⟩))]) ∧ Below w.heap.size w w'
theorem parse_ok (s : ByteArray) (hmax : s.size ≤ 9223372036854775806) (v : Int) (h : Lib.parseIntB 64 s.data.toList = .ok v) (w : World) :
    Calls Tryf.prog 12 #[.string s, .int .i64 10, .int .i64 64] w (OkPost v w) := by
  refine (Tryf.parse_ok s hmax v h w).mono ?_
  rintro e w' ⟨rfl, hw⟩
  refine ⟨rfl, ?_⟩
  rcases hw with rfl | ⟨t, rfl⟩
  · exact Below.refl _ _
  · exact Lib.bytesWorld_below _ _ _
theorem parse_err (s : ByteArray) (hlim : s.size ≤ 281474976710656) (h : ∀ v, Lib.parseIntB 64 s.data.toList ≠ .ok v) (tp1 tp2 : TypeId) (p1 p2 : Value) (w : World) (h1 : w.var? Tryf.prog "strconv.ErrSyntax" = some #[.iface tp1 p1]) (h2 : w.var? Tryf.prog "strconv.ErrRange" = some #[.iface tp2 p2]) :
    Calls Tryf.prog 12 #[.string s, .int .i64 10, .int .i64 64] w (ErrPost w) := by
  cases hp : Lib.parseIntB 64 s.data.toList
  · exact absurd hp (h _)
  · refine (Any.strconv_ParseInt_10_at64_syntax_var Tryf.laysC174 s hlim hp tp1 p1 w h1).mono ?_
    rintro e w' ⟨N, rfl, _, _, hb⟩
    exact ⟨_, _, _, rfl, hb⟩
  · refine (Any.strconv_ParseInt_10_at64_range_var Tryf.laysC174 s hlim hp tp2 p2 w h2).mono ?_
    rintro e w' ⟨N, rfl, _, _, hb⟩
    exact ⟨_, _, _, rfl, hb⟩

theorem nmB_list (x : Int) : (nmB x).data.toList = nm x := by simp [nmB]
def NumPost (b : Bool) (w : World) (e : Ending) (w' : World) : Prop := ∃ v, e = .returned (.tuple #[.int .i64 v, .bool b]) ∧ Below w.heap.size w w'
theorem NumPost.mk {b b' : Bool} {v : Int} {w w' : World} (h : b = b') (hb : Below w.heap.size w w') : NumPost b w (.returned (.tuple #[.int .i64 v, .bool b'])) w' := ⟨v, by rw [h], hb⟩
theorem arch_no {s : ByteArray} (h : b1 s = false) : arch s.data.toList = false := by
  unfold arch; unfold b1 at h; rw [h]; rfl
theorem arch_bad {s : ByteArray} (h : ∀ v, Lib.parseIntB 64 (d1 s).data.toList ≠ .ok v) : arch s.data.toList = false := by
  unfold arch
  rw [d1_list] at h
  split
  · split
    · rename_i v hv
      exact absurd hv (h v)
    · rfl
  · rfl
theorem arch_ok {s : ByteArray} {v : Int} (hb : b1 s = true) (h : Lib.parseIntB 64 (d1 s).data.toList = .ok v) : arch s.data.toList = (decide (0 < v) && (s.data.toList == nm v)) := by
  unfold arch; unfold b1 at hb
  rw [d1_list] at h
  rw [if_pos hb, h]

set_option maxHeartbeats 1000000 in
theorem num_any (F : Interp) (s : ByteArray) (w : World) (hF : F.told.answers w.tape) (hs : s.size ≤ 281474976710656) (tp1 tp2 : TypeId) (p1 p2 : Value) (h1 : w.var? Tryf.prog "strconv.ErrSyntax" = some #[.iface tp1 p1]) (h2 : w.var? Tryf.prog "strconv.ErrRange" = some #[.iface tp2 p2]) :
    Calls Tryf.prog 8 #[.string s] w (NumPost (arch s.data.toList) w) := by
  have hd1 := d1_size s
  have HF : Hid (F.told.answers w.tape) := hF
  have H1 : Hid (w.var? Tryf.prog "strconv.ErrSyntax" = some #[.iface tp1 p1]) := h1
  have H2 : Hid (w.var? Tryf.prog "strconv.ErrRange" = some #[.iface tp2 p2]) := h2
  clear hF h1 h2
  obtain ⟨bb, hbb⟩ : ∃ bb, b1 s = bb := ⟨_, rfl⟩
  have Hbb : Hid (b1 s = bb) := hbb
  clear hbb
  go_enter Tryf.func8, Tryf.ntmps8
  go_wp2_with fail
  refine (cutP s _).mono ?_
  rintro e w1 ⟨rfl, rfl⟩
  go_wp2_with fail
  refine (cutS s _ (by omega)).mono ?_
  rintro e w2 ⟨rfl, rfl⟩
  rw [Hbb.out]
  cases bb
  · go_wp2_with fail
    go_ret2
    exact NumPost.mk (arch_no Hbb.out) (Below.refl _ _)
  go_wp2_with fail
  by_cases hex : ∃ v, Lib.parseIntB 64 (d1 s).data.toList = .ok v
  · obtain ⟨v, hv⟩ := hex
    have HV : Hid (Lib.parseIntB 64 (d1 s).data.toList = .ok v) := hv
    clear hv
    obtain ⟨v1, v2⟩ := parse_bounds HV.out
    refine (parse_ok (d1 s) (by omega) v HV.out _).mono ?_
    rintro e w3 ⟨rfl, hb3⟩
    by_cases h0 : 0 < v
    · have Hwf : Hid ((Lit.int .i64 v).wf = true) := by
        have e1 : IntKind.i64.min = -9223372036854775808 := rfl
        have e2 : IntKind.i64.max = 9223372036854775807 := rfl
        unfold Hid
        simp [Lit.wf, e1, e2]
        omega
      go_wp2_with fail
      refine (seg_any F v _ (by rw [hb3.tape]; exact HF.out) Hwf.out).mono ?_
      rintro e w4 ⟨rfl, hb4⟩
      have hb : Below w2.heap.size w2 w4 := hb3.trans (hb4.mono hb3.size)
      have HA : Hid (arch s.data.toList = (decide (0 < v) && (s.data.toList == nm v))) := arch_ok Hbb.out HV.out
      go_wp2_with fail
      go_ret2
      exact NumPost.mk (by rw [HA.out, decide_eq_true h0, Bool.true_and, Lib.toList_data, Lib.toList_data, nmB_list]) hb
    · have HA : Hid (arch s.data.toList = (decide (0 < v) && (s.data.toList == nm v))) := arch_ok Hbb.out HV.out
      go_wp2_with fail
      go_ret2
      exact NumPost.mk (by rw [HA.out, decide_eq_false (show ¬ 0 < v by omega)]; rfl) hb3
  · have hno : ∀ v, Lib.parseIntB 64 (d1 s).data.toList ≠ .ok v := fun v hv => hex ⟨v, hv⟩
    have HA : Hid (arch s.data.toList = false) := arch_bad hno
    clear hex
    refine (parse_err (d1 s) (by omega) hno tp1 tp2 p1 p2 _ H1.out H2.out).mono ?_
    clear hno
    rintro e w3 ⟨v, T, N, rfl, hb3⟩
    go_wp2_with fail
    go_ret2
    exact NumPost.mk HA.out hb3

def BoolPost (b : Bool) (w : World) (e : Ending) (w' : World) : Prop := e = .returned (.bool b) ∧ Below w.heap.size w w'
theorem BoolPost.mk {b b' : Bool} {w w' : World} (h : b = b') (hb : Below w.heap.size w w') : BoolPost b w (.returned (.bool b')) w' := ⟨by rw [h], hb⟩
theorem is_any (F : Interp) (s : ByteArray) (w : World) (hF : F.told.answers w.tape) (hs : s.size ≤ 281474976710656) (tp1 tp2 : TypeId) (p1 p2 : Value) (h1 : w.var? Tryf.prog "strconv.ErrSyntax" = some #[.iface tp1 p1]) (h2 : w.var? Tryf.prog "strconv.ErrRange" = some #[.iface tp2 p2]) :
    Calls Tryf.prog 5 #[.string s] w (BoolPost (arch s.data.toList) w) := by
  have H := num_any F s w hF hs tp1 tp2 p1 p2 h1 h2
  clear hF h1 h2
  go_enter Tryf.func5, Tryf.ntmps5
  go_wp2_with fail
  refine H.mono ?_
  rintro e w1 ⟨v, rfl, hb⟩
  go_wp2_with fail
  go_ret
  exact ⟨rfl, hb⟩

/-- The two errors of the library's lie there. -/
structure Errs (w : World) : Prop where
  one : ∃ tp p, w.var? Tryf.prog "strconv.ErrSyntax" = some #[.iface tp p]
  two : ∃ tp p, w.var? Tryf.prog "strconv.ErrRange" = some #[.iface tp p]
theorem var_lt {w : World} {n : String} {g : Nat} {cs : Array Value} (hg : Tryf.prog.globalNamed n = some g) (hv : w.var? Tryf.prog n = some cs) : g < w.heap.size := by
  unfold World.var? at hv
  simp only [hg, Option.bind_some] at hv
  rcases Nat.lt_or_ge g w.heap.size with h | h
  · exact h
  · rw [Array.getElem?_eq_none h] at hv; cases hv
theorem Errs.below {w w' : World} (h : Errs w) (hb : Below w.heap.size w w') : Errs w' := by
  obtain ⟨⟨t1, p1, e1⟩, ⟨t2, p2, e2⟩⟩ := h
  have g1 : Tryf.prog.globalNamed "strconv.ErrSyntax" = some 0 := by kernel_rfl
  have g2 : Tryf.prog.globalNamed "strconv.ErrRange" = some 1 := by kernel_rfl
  exact ⟨⟨t1, p1, var?_below hb g1 (var_lt g1 e1) e1⟩, ⟨t2, p2, var?_below hb g2 (var_lt g2 e2) e2⟩⟩
theorem is_arch (F : Interp) (s : ByteArray) (w : World) (hF : F.told.answers w.tape) (hs : s.size ≤ 281474976710656) (h : Errs w) : Calls Tryf.prog 5 #[.string s] w (BoolPost (arch s.data.toList) w) := by
  obtain ⟨⟨t1, p1, e1⟩, ⟨t2, p2, e2⟩⟩ := h
  exact is_any F s w hF hs t1 t2 p1 p2 e1 e2
theorem nmB_size {x : Int} (hw : (Lit.int .i64 x).wf = true) : (nmB x).size = 32 := by
  obtain ⟨b1, b2⟩ := wf_bounds hw
  rw [Lib.size_eq, nmB_list]
  exact nm_len b1 b2

theorem law3 (F : Interp) (x : Int) (w : World) (hF : F.told.answers w.tape) (hw : (Lit.int .i64 x).wf = true) (h : Errs w) : Calls Tryf.prog 3 #[.int .i64 x] w (BoolPost true w) := by
  have HF : Hid (F.told.answers w.tape) := hF
  have HW : Hid ((Lit.int .i64 x).wf = true) := hw
  have HE : Hid (Errs w) := h
  obtain ⟨b1, b2⟩ := wf_bounds hw
  have HA : Hid (arch (nmB x).data.toList = decide (0 < x)) := by unfold Hid; rw [nmB_list]; exact arch_nm b1 b2
  clear hF hw h
  go_enter Tryf.func3, Tryf.ntmps3
  go_wp2_with fail
  refine (zzseg_any F x _ HF.out HW.out).mono ?_
  rintro e w1 ⟨rfl, hb1⟩
  go_wp2_with fail
  refine (is_arch F (nmB x) _ (by rw [hb1.tape]; exact HF.out) (by rw [nmB_size HW.out]; decide) (HE.out.below hb1)).mono ?_
  rintro e w2 ⟨rfl, hb2⟩
  have hb : Below w.heap.size w w2 := hb1.trans (hb2.mono hb1.size)
  rw [HA.out]
  by_cases h0 : 0 < x
  · rw [decide_eq_true h0]
    go_wp2_with fail
    go_ret
    exact ⟨rfl, hb⟩
  · rw [decide_eq_false h0]
    go_wp2_with fail
    go_ret
    exact BoolPost.mk (by simp; omega) hb
end Go.Proofs.Qxb6615505aFmt
