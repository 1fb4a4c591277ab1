/- strconv.ParseFloat at 64 bits: total; its answers hang on the text alone. -/
import Derived.Test.YtnggkkdcddpjlaaGreatDoorHA
namespace Go.Proofs.YtnggkkdcddpjlaaGreatDoor
open Go.RowKit
set_option maxRecDepth 100000
set_option linter.unusedVariables false
set_option linter.unusedSimpArgs false
/-- A library's error, or none. -/
def ErrIs (bad : Bool) (v : Value) : Prop := if bad = true then ∃ N, v = .iface 258 (.pointer (some ⟨N, 0, none⟩)) else v = .nilIface
def NumPost (w : World) (v : Value) (bad : Bool) (e : Ending) (w' : World) : Prop := ∃ er, e = .returned (.tuple #[v, er]) ∧ ErrIs bad er ∧ Below w.heap.size w w'
theorem prefix64 (s : ByteArray) (f n k : Nat) (h : ∀ w, PW w → Calls Tryz.prog 218 #[.string s] w (AtPost w f n k)) (w : World) (hw : PW w) :
    Calls Tryz.prog 194 #[.string s, .int .i64 64] w (AtPost w f n k) := by
  have H := Lib.hid h
  have HW := Lib.hid hw
  clear h hw
  obtain ⟨Q, hQ⟩ : ∃ Q, Q = AtPost w f n k := ⟨_, rfl⟩
  rw [← hQ]
  have HQ := Lib.hid hQ
  clear hQ
  go_enter Tryz.func194, Tryz.ntmps194
  go_wp2_with (go_at_call 218; refine (H.out _ HW.out).mono ?_; rintro r w1 ⟨rfl, hb⟩)
  go_ret3
  rw [HQ.out]
  exact ⟨rfl, hb⟩
theorem pfIn_same (s : ByteArray) (f n k : Nat) (h : ∀ w, PW w → Calls Tryz.prog 218 #[.string s] w (AtPost w f n k)) (hn : n = s.size) (w : World) (hw : PW w) :
    Calls Tryz.prog 171 #[.string s, .int .i64 64] w fun e w' => e = .returned (.tuple #[.float .f64 f, er3 k]) ∧ Below w.heap.size w w' := by
  have H := Lib.hid (prefix64 s f n k h w hw)
  have hnb : ((n : Int) != s.size) = false := by simp; omega
  have hnb2 : (n != s.size) = false := by simp; omega
  clear h hw hn
  go_enter Tryz.func171, Tryz.ntmps171
  go_wp2_with (go_at_call 194; refine H.out.mono ?_; rintro r w1 ⟨rfl, hb⟩)
  go_ret2
  exact ⟨rfl, hb⟩
theorem pfIn_other (s : ByteArray) (f n k : Nat) (h : ∀ w, PW w → Calls Tryz.prog 218 #[.string s] w (AtPost w f n k)) (hn : n ≠ s.size) (w : World) (hw : PW w) :
    Calls Tryz.prog 171 #[.string s, .int .i64 64] w fun e w' => e = .returned (.tuple #[.float .f64 0, er3 2]) ∧ Below w.heap.size w w' := by
  have H := Lib.hid (prefix64 s f n k h w hw)
  have hnb : ((n : Int) != s.size) = true := by simp; omega
  have hnb2 : (n != s.size) = true := by simp; omega
  clear h hw hn
  go_enter Tryz.func171, Tryz.ntmps171
  go_wp2_with (go_at_call 194; refine H.out.mono ?_; rintro r w1 ⟨rfl, hb⟩)
  go_ret2
  exact ⟨rfl, hb⟩
/-- toError of ErrRange and of ErrSyntax. -/
theorem toErr (fn s : ByteArray) (b z : Int) (k : Nat) (hk : k = 1 ∨ k = 2) (hlim : s.size ≤ 281474976710656) (w : World) (hg : Good w) :
    Calls Tryz.prog 136 #[.string fn, .string s, .int .i64 b, .int .i64 z, .iface 257 (.int .i64 k)] w fun e w' => ∃ N, e = .returned (.iface 258 (.pointer (some ⟨N, 0, none⟩))) ∧ Below w.heap.size w w' := by
  rcases hk with rfl | rfl
  · obtain ⟨tp, p, hv⟩ := hg.rng
    have hc : w.cell? ⟨2, 0, none⟩ = some (.iface tp p) := World.var?_cell gRng hv 0
    exact (Tryz.strconv_toError_range fn s b z _ w hlim hc (Or.inr ⟨_, _, rfl⟩)).mono fun e w' ⟨N, h1, _, _, h4⟩ => ⟨N, h1, h4⟩
  · obtain ⟨tp, p, hv⟩ := hg.syn
    have hc : w.cell? ⟨1, 0, none⟩ = some (.iface tp p) := World.var?_cell gSyn hv 0
    exact (Tryz.strconv_toError_syntax fn s b z _ w hlim hc (Or.inr ⟨_, _, rfl⟩)).mono fun e w' ⟨N, h1, _, _, h4⟩ => ⟨N, h1, h4⟩
theorem pf_run (s : ByteArray) (hs : s.size ≤ 1000000) (f k : Nat) (hk : k ≤ 2) (h : ∀ w, PW w → Calls Tryz.prog 171 #[.string s, .int .i64 64] w fun e w' => e = .returned (.tuple #[.float .f64 f, er3 k]) ∧ Below w.heap.size w w') (w : World) (hg : Good w) (hw : PW w) :
    Calls Tryz.prog 133 #[.string s, .int .i64 64] w (NumPost w (.float .f64 f) (decide (0 < k))) := by
  have H := Lib.hid h
  have HW := Lib.hid hw
  have HG := Lib.hid hg
  clear h hw hg
  obtain ⟨Q, hQ⟩ : ∃ Q, Q = NumPost w (.float .f64 f) (decide (0 < k)) := ⟨_, rfl⟩
  rw [← hQ]
  have HQ := Lib.hid hQ
  clear hQ
  rcases Nat.eq_zero_or_pos k with hk0 | hk0
  · subst hk0
    unfold er3 at H
    rw [if_pos rfl] at H
    go_enter Tryz.func133, Tryz.ntmps133
    go_wp2_with (go_at_call 171; refine (H.out _ HW.out).mono ?_; rintro r w1 ⟨rfl, hb⟩)
    rw [HQ.out]
    exact ⟨_, rfl, rfl, hb⟩
  · have hk12 : k = 1 ∨ k = 2 := by omega
    have hkb : decide (0 < k) = true := by simpa using hk0
    rw [hkb] at HQ
    have HK := Lib.hid hk12
    unfold er3 at H
    rw [if_neg (by omega)] at H
    clear hkb hk12
    go_enter Tryz.func133, Tryz.ntmps133
    go_wp2_with (first | (go_at_call 171; refine (H.out _ HW.out).mono ?_; rintro r w1 ⟨rfl, hb⟩; have HB := Lib.hid hb; clear hb) | (go_at_call 136; refine (toErr _ _ _ _ k HK.out (by omega) _ (HG.out.on HB.out)).mono ?_; rintro r w2 ⟨N, rfl, hb2⟩; have HB2 := Lib.hid (belowOn HB.out hb2); clear hb2))
    rw [HQ.out]
    exact ⟨_, rfl, ⟨N, rfl⟩, HB2.out⟩
/-- strconv.ParseFloat(s, 64): total; its float, and whether there is an error, hang on the text alone. -/
theorem parseFloat_any (s : ByteArray) (hs : s.size ≤ 1000000) : ∃ (f : Nat) (bad : Bool), ∀ w, Good w → PW w → Calls Tryz.prog 133 #[.string s, .int .i64 64] w (NumPost w (.float .f64 f) bad) := by
  obtain ⟨f, n, k, hk, h⟩ := atof64_any s (by omega)
  by_cases hn : n = s.size
  · exact ⟨f, _, fun w hg hw => pf_run s hs f k hk (fun w hw => pfIn_same s f n k h hn w hw) w hg hw⟩
  · exact ⟨0, _, fun w hg hw => pf_run s hs 0 2 (by omega) (fun w hw => pfIn_other s f n k h hn w hw) w hg hw⟩
end Go.Proofs.YtnggkkdcddpjlaaGreatDoor
