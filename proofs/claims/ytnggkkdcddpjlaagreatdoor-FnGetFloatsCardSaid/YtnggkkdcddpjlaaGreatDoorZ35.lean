/- internal/strconv.fmtEFG at the form 'g', shortest, with an exponent. -/
import Derived.Test.YtnggkkdcddpjlaaGreatDoorZ34
namespace Go.Proofs.YtnggkkdcddpjlaaGreatDoor
open Go.RowKit
set_option maxRecDepth 100000
set_option linter.unusedVariables false
set_option maxHeartbeats 4000000 in
theorem fmt_e1_hi_a (db : Nat) (dl dc : Nat) (D : Nat → Int) (v : Value) (xs : List Value) (w0 w : World) (h : Dst w0 w db 1 D v xs) (hn : 1 ≤ dl) (hnc : dl ≤ dc) (hdc : dc ≤ 1000) (hx : xs.length ≤ 5)  (dp : Int) (E : Nat) (hE : dp - 1 = (E : Int)) (h5 : 6 ≤ E) (hE1 : E < 10) (hb0 : -400 ≤ dp) (hb1 : dp ≤ 400) :
    Calls Tryz.prog 200 #[v, .bool false, .slice (some ⟨db, 0, none⟩) dl dc, .int .i64 dp, .int .i64 1, .int .i64 1, .int .u8 103, .bool true] w fun r w' => ∃ v', r = .returned v' ∧ Dst w0 w' db 1 D v' (xs ++ [bt (D 0)] ++ [bt 101] ++ [bt 43] ++ [bt 48, bt ((E : Int) + 48)]) := by
  have hdk := h.dig 0 (by omega)
  have HD := Lib.hid h
  clear h
  have hg1 : ¬ dp - 1 < -4 := by omega
  have hg2 : (6 : Int) ≤ dp - 1 := by omega
  have hg1' : ¬ (E : Int) < -4 := by omega
  have hg2' : (6 : Int) ≤ (E : Int) := by omega
  have hg4 : ¬ (E : Int) < 0 := by omega
  obtain ⟨Q, hQ⟩ : ∃ Q : Ending → World → Prop, Q = fun r w' => ∃ v', r = .returned v' ∧ Dst w0 w' db 1 D v' (xs ++ [bt (D 0)] ++ [bt 101] ++ [bt 43] ++ [bt 48, bt ((E : Int) + 48)]) := ⟨_, rfl⟩
  rw [← hQ]
  have HQ := Lib.hid hQ
  clear hQ
  have hxl : xs.length ≤ 3000 := by omega
  have hE2 : (E : Int) < 10 := by omega
  go_enter Tryz.func200, Tryz.ntmps200
  go_wp2_with (first | (at_builtin; refine wpList_dst (c := bt (D 0)) rfl _ _ rfl rfl HD.out rfl rfl rfl (by (try simp); omega) ?_; intro gg cap2 w3 hd3; (try simp only [List.length_append, List.length_singleton] at hd3); have HDf := Lib.hid hd3; clear hd3) | (at_builtin; refine wpList_dst (c := bt 101) rfl _ _ rfl rfl HDf.out rfl rfl rfl (by (try simp); omega) ?_; intro gg cap2 w3 hd3; (try simp only [List.length_append, List.length_singleton] at hd3); have HDe := Lib.hid hd3; clear hd3) | (at_builtin; refine wpList_dst (c := bt 43) rfl _ _ rfl rfl HDe.out rfl rfl rfl (by (try simp); omega) ?_; intro gg cap2 w3 hd3; (try simp only [List.length_append, List.length_singleton] at hd3); have HDg := Lib.hid hd3; clear hd3) | (at_builtin; refine wpList_dsts [bt 48, bt ((E : Int) + 48)] rfl _ _ rfl rfl HDg.out 2 rfl (by decide) (by decide) rfl rfl (by intro u hu; simp at hu; rcases hu with rfl | rfl <;> rfl) (by (try simp); omega) ?_; intro gg cap2 w3 hd3; (try simp only [List.length_append, List.length_singleton] at hd3); have HDz := Lib.hid hd3; clear hd3))
  rw [HQ.out]
  exact ⟨_, rfl, HDz.out⟩
set_option maxHeartbeats 4000000 in
theorem fmt_e1_hi_b (db : Nat) (dl dc : Nat) (D : Nat → Int) (v : Value) (xs : List Value) (w0 w : World) (h : Dst w0 w db 1 D v xs) (hn : 1 ≤ dl) (hnc : dl ≤ dc) (hdc : dc ≤ 1000) (hx : xs.length ≤ 5)  (dp : Int) (E : Nat) (hE : dp - 1 = (E : Int)) (h5 : 6 ≤ E) (hE0 : 10 ≤ E) (hE1 : E < 100) (hb0 : -400 ≤ dp) (hb1 : dp ≤ 400) :
    Calls Tryz.prog 200 #[v, .bool false, .slice (some ⟨db, 0, none⟩) dl dc, .int .i64 dp, .int .i64 1, .int .i64 1, .int .u8 103, .bool true] w fun r w' => ∃ v', r = .returned v' ∧ Dst w0 w' db 1 D v' (xs ++ [bt (D 0)] ++ [bt 101] ++ [bt 43] ++ [bt ((E : Int) / 10 + 48), bt ((E : Int) % 10 + 48)]) := by
  have hdk := h.dig 0 (by omega)
  have HD := Lib.hid h
  clear h
  have hg1 : ¬ dp - 1 < -4 := by omega
  have hg2 : (6 : Int) ≤ dp - 1 := by omega
  have hg1' : ¬ (E : Int) < -4 := by omega
  have hg2' : (6 : Int) ≤ (E : Int) := by omega
  have hg4 : ¬ (E : Int) < 0 := by omega
  obtain ⟨Q, hQ⟩ : ∃ Q : Ending → World → Prop, Q = fun r w' => ∃ v', r = .returned v' ∧ Dst w0 w' db 1 D v' (xs ++ [bt (D 0)] ++ [bt 101] ++ [bt 43] ++ [bt ((E : Int) / 10 + 48), bt ((E : Int) % 10 + 48)]) := ⟨_, rfl⟩
  rw [← hQ]
  have HQ := Lib.hid hQ
  clear hQ
  have hxl : xs.length ≤ 3000 := by omega
  have hE2 : ¬ (E : Int) < 10 := by omega
  have hE3 : (E : Int) < 100 := by omega
  go_enter Tryz.func200, Tryz.ntmps200
  go_wp2_with (first | (at_builtin; refine wpList_dst (c := bt (D 0)) rfl _ _ rfl rfl HD.out rfl rfl rfl (by (try simp); omega) ?_; intro gg cap2 w3 hd3; (try simp only [List.length_append, List.length_singleton] at hd3); have HDf := Lib.hid hd3; clear hd3) | (at_builtin; refine wpList_dst (c := bt 101) rfl _ _ rfl rfl HDf.out rfl rfl rfl (by (try simp); omega) ?_; intro gg cap2 w3 hd3; (try simp only [List.length_append, List.length_singleton] at hd3); have HDe := Lib.hid hd3; clear hd3) | (at_builtin; refine wpList_dst (c := bt 43) rfl _ _ rfl rfl HDe.out rfl rfl rfl (by (try simp); omega) ?_; intro gg cap2 w3 hd3; (try simp only [List.length_append, List.length_singleton] at hd3); have HDg := Lib.hid hd3; clear hd3) | (at_builtin; refine wpList_dsts [bt ((E : Int) / 10 + 48), bt ((E : Int) % 10 + 48)] rfl _ _ rfl rfl HDg.out 2 rfl (by decide) (by decide) rfl rfl (by intro u hu; simp at hu; rcases hu with rfl | rfl <;> rfl) (by (try simp); omega) ?_; intro gg cap2 w3 hd3; (try simp only [List.length_append, List.length_singleton] at hd3); have HDz := Lib.hid hd3; clear hd3))
  rw [HQ.out]
  exact ⟨_, rfl, HDz.out⟩
set_option maxHeartbeats 4000000 in
theorem fmt_e1_hi_c (db : Nat) (dl dc : Nat) (D : Nat → Int) (v : Value) (xs : List Value) (w0 w : World) (h : Dst w0 w db 1 D v xs) (hn : 1 ≤ dl) (hnc : dl ≤ dc) (hdc : dc ≤ 1000) (hx : xs.length ≤ 5)  (dp : Int) (E : Nat) (hE : dp - 1 = (E : Int)) (h5 : 6 ≤ E) (hE0 : 100 ≤ E) (hE1 : E < 400) (hb0 : -400 ≤ dp) (hb1 : dp ≤ 400) :
    Calls Tryz.prog 200 #[v, .bool false, .slice (some ⟨db, 0, none⟩) dl dc, .int .i64 dp, .int .i64 1, .int .i64 1, .int .u8 103, .bool true] w fun r w' => ∃ v', r = .returned v' ∧ Dst w0 w' db 1 D v' (xs ++ [bt (D 0)] ++ [bt 101] ++ [bt 43] ++ [bt ((E : Int) / 100 + 48), bt ((E : Int) / 10 % 10 + 48), bt ((E : Int) % 10 + 48)]) := by
  have hdk := h.dig 0 (by omega)
  have HD := Lib.hid h
  clear h
  have hg1 : ¬ dp - 1 < -4 := by omega
  have hg2 : (6 : Int) ≤ dp - 1 := by omega
  have hg1' : ¬ (E : Int) < -4 := by omega
  have hg2' : (6 : Int) ≤ (E : Int) := by omega
  have hg4 : ¬ (E : Int) < 0 := by omega
  obtain ⟨Q, hQ⟩ : ∃ Q : Ending → World → Prop, Q = fun r w' => ∃ v', r = .returned v' ∧ Dst w0 w' db 1 D v' (xs ++ [bt (D 0)] ++ [bt 101] ++ [bt 43] ++ [bt ((E : Int) / 100 + 48), bt ((E : Int) / 10 % 10 + 48), bt ((E : Int) % 10 + 48)]) := ⟨_, rfl⟩
  rw [← hQ]
  have HQ := Lib.hid hQ
  clear hQ
  have hxl : xs.length ≤ 3000 := by omega
  have hE2 : ¬ (E : Int) < 10 := by omega
  have hE3 : ¬ (E : Int) < 100 := by omega
  have hE4 : (E : Int) < 400 := by omega
  go_enter Tryz.func200, Tryz.ntmps200
  go_wp2_with (first | (at_builtin; refine wpList_dst (c := bt (D 0)) rfl _ _ rfl rfl HD.out rfl rfl rfl (by (try simp); omega) ?_; intro gg cap2 w3 hd3; (try simp only [List.length_append, List.length_singleton] at hd3); have HDf := Lib.hid hd3; clear hd3) | (at_builtin; refine wpList_dst (c := bt 101) rfl _ _ rfl rfl HDf.out rfl rfl rfl (by (try simp); omega) ?_; intro gg cap2 w3 hd3; (try simp only [List.length_append, List.length_singleton] at hd3); have HDe := Lib.hid hd3; clear hd3) | (at_builtin; refine wpList_dst (c := bt 43) rfl _ _ rfl rfl HDe.out rfl rfl rfl (by (try simp); omega) ?_; intro gg cap2 w3 hd3; (try simp only [List.length_append, List.length_singleton] at hd3); have HDg := Lib.hid hd3; clear hd3) | (at_builtin; refine wpList_dsts [bt ((E : Int) / 100 + 48), bt ((E : Int) / 10 % 10 + 48), bt ((E : Int) % 10 + 48)] rfl _ _ rfl rfl HDg.out 3 rfl (by decide) (by decide) rfl rfl (by intro u hu; simp at hu; rcases hu with rfl | rfl | rfl <;> rfl) (by (try simp); omega) ?_; intro gg cap2 w3 hd3; (try simp only [List.length_append, List.length_singleton] at hd3); have HDz := Lib.hid hd3; clear hd3))
  rw [HQ.out]
  exact ⟨_, rfl, HDz.out⟩
set_option maxHeartbeats 4000000 in
theorem fmt_e1_lo_a (db : Nat) (dl dc : Nat) (D : Nat → Int) (v : Value) (xs : List Value) (w0 w : World) (h : Dst w0 w db 1 D v xs) (hn : 1 ≤ dl) (hnc : dl ≤ dc) (hdc : dc ≤ 1000) (hx : xs.length ≤ 5)  (dp : Int) (E : Nat) (hE : dp - 1 = -(E : Int)) (h5 : 5 ≤ E) (hE1 : E < 10) (hb0 : -400 ≤ dp) (hb1 : dp ≤ 400) :
    Calls Tryz.prog 200 #[v, .bool false, .slice (some ⟨db, 0, none⟩) dl dc, .int .i64 dp, .int .i64 1, .int .i64 1, .int .u8 103, .bool true] w fun r w' => ∃ v', r = .returned v' ∧ Dst w0 w' db 1 D v' (xs ++ [bt (D 0)] ++ [bt 101] ++ [bt 45] ++ [bt 48, bt ((E : Int) + 48)]) := by
  have hdk := h.dig 0 (by omega)
  have HD := Lib.hid h
  clear h
  have hg1 : dp - 1 < -4 := by omega
  have hg1' : -(E : Int) < -4 := by omega
  have hg4 : -(E : Int) < 0 := by omega
  obtain ⟨Q, hQ⟩ : ∃ Q : Ending → World → Prop, Q = fun r w' => ∃ v', r = .returned v' ∧ Dst w0 w' db 1 D v' (xs ++ [bt (D 0)] ++ [bt 101] ++ [bt 45] ++ [bt 48, bt ((E : Int) + 48)]) := ⟨_, rfl⟩
  rw [← hQ]
  have HQ := Lib.hid hQ
  clear hQ
  have hxl : xs.length ≤ 3000 := by omega
  have hE2 : (E : Int) < 10 := by omega
  go_enter Tryz.func200, Tryz.ntmps200
  go_wp2_with (first | (at_builtin; refine wpList_dst (c := bt (D 0)) rfl _ _ rfl rfl HD.out rfl rfl rfl (by (try simp); omega) ?_; intro gg cap2 w3 hd3; (try simp only [List.length_append, List.length_singleton] at hd3); have HDf := Lib.hid hd3; clear hd3) | (at_builtin; refine wpList_dst (c := bt 101) rfl _ _ rfl rfl HDf.out rfl rfl rfl (by (try simp); omega) ?_; intro gg cap2 w3 hd3; (try simp only [List.length_append, List.length_singleton] at hd3); have HDe := Lib.hid hd3; clear hd3) | (at_builtin; refine wpList_dst (c := bt 45) rfl _ _ rfl rfl HDe.out rfl rfl rfl (by (try simp); omega) ?_; intro gg cap2 w3 hd3; (try simp only [List.length_append, List.length_singleton] at hd3); have HDg := Lib.hid hd3; clear hd3) | (at_builtin; refine wpList_dsts [bt 48, bt ((E : Int) + 48)] rfl _ _ rfl rfl HDg.out 2 rfl (by decide) (by decide) rfl rfl (by intro u hu; simp at hu; rcases hu with rfl | rfl <;> rfl) (by (try simp); omega) ?_; intro gg cap2 w3 hd3; (try simp only [List.length_append, List.length_singleton] at hd3); have HDz := Lib.hid hd3; clear hd3))
  rw [HQ.out]
  exact ⟨_, rfl, HDz.out⟩
set_option maxHeartbeats 4000000 in
theorem fmt_e1_lo_b (db : Nat) (dl dc : Nat) (D : Nat → Int) (v : Value) (xs : List Value) (w0 w : World) (h : Dst w0 w db 1 D v xs) (hn : 1 ≤ dl) (hnc : dl ≤ dc) (hdc : dc ≤ 1000) (hx : xs.length ≤ 5)  (dp : Int) (E : Nat) (hE : dp - 1 = -(E : Int)) (h5 : 5 ≤ E) (hE0 : 10 ≤ E) (hE1 : E < 100) (hb0 : -400 ≤ dp) (hb1 : dp ≤ 400) :
    Calls Tryz.prog 200 #[v, .bool false, .slice (some ⟨db, 0, none⟩) dl dc, .int .i64 dp, .int .i64 1, .int .i64 1, .int .u8 103, .bool true] w fun r w' => ∃ v', r = .returned v' ∧ Dst w0 w' db 1 D v' (xs ++ [bt (D 0)] ++ [bt 101] ++ [bt 45] ++ [bt ((E : Int) / 10 + 48), bt ((E : Int) % 10 + 48)]) := by
  have hdk := h.dig 0 (by omega)
  have HD := Lib.hid h
  clear h
  have hg1 : dp - 1 < -4 := by omega
  have hg1' : -(E : Int) < -4 := by omega
  have hg4 : -(E : Int) < 0 := by omega
  obtain ⟨Q, hQ⟩ : ∃ Q : Ending → World → Prop, Q = fun r w' => ∃ v', r = .returned v' ∧ Dst w0 w' db 1 D v' (xs ++ [bt (D 0)] ++ [bt 101] ++ [bt 45] ++ [bt ((E : Int) / 10 + 48), bt ((E : Int) % 10 + 48)]) := ⟨_, rfl⟩
  rw [← hQ]
  have HQ := Lib.hid hQ
  clear hQ
  have hxl : xs.length ≤ 3000 := by omega
  have hE2 : ¬ (E : Int) < 10 := by omega
  have hE3 : (E : Int) < 100 := by omega
  go_enter Tryz.func200, Tryz.ntmps200
  go_wp2_with (first | (at_builtin; refine wpList_dst (c := bt (D 0)) rfl _ _ rfl rfl HD.out rfl rfl rfl (by (try simp); omega) ?_; intro gg cap2 w3 hd3; (try simp only [List.length_append, List.length_singleton] at hd3); have HDf := Lib.hid hd3; clear hd3) | (at_builtin; refine wpList_dst (c := bt 101) rfl _ _ rfl rfl HDf.out rfl rfl rfl (by (try simp); omega) ?_; intro gg cap2 w3 hd3; (try simp only [List.length_append, List.length_singleton] at hd3); have HDe := Lib.hid hd3; clear hd3) | (at_builtin; refine wpList_dst (c := bt 45) rfl _ _ rfl rfl HDe.out rfl rfl rfl (by (try simp); omega) ?_; intro gg cap2 w3 hd3; (try simp only [List.length_append, List.length_singleton] at hd3); have HDg := Lib.hid hd3; clear hd3) | (at_builtin; refine wpList_dsts [bt ((E : Int) / 10 + 48), bt ((E : Int) % 10 + 48)] rfl _ _ rfl rfl HDg.out 2 rfl (by decide) (by decide) rfl rfl (by intro u hu; simp at hu; rcases hu with rfl | rfl <;> rfl) (by (try simp); omega) ?_; intro gg cap2 w3 hd3; (try simp only [List.length_append, List.length_singleton] at hd3); have HDz := Lib.hid hd3; clear hd3))
  rw [HQ.out]
  exact ⟨_, rfl, HDz.out⟩
set_option maxHeartbeats 4000000 in
theorem fmt_e1_lo_c (db : Nat) (dl dc : Nat) (D : Nat → Int) (v : Value) (xs : List Value) (w0 w : World) (h : Dst w0 w db 1 D v xs) (hn : 1 ≤ dl) (hnc : dl ≤ dc) (hdc : dc ≤ 1000) (hx : xs.length ≤ 5)  (dp : Int) (E : Nat) (hE : dp - 1 = -(E : Int)) (h5 : 5 ≤ E) (hE0 : 100 ≤ E) (hE1 : E < 400) (hb0 : -400 ≤ dp) (hb1 : dp ≤ 400) :
    Calls Tryz.prog 200 #[v, .bool false, .slice (some ⟨db, 0, none⟩) dl dc, .int .i64 dp, .int .i64 1, .int .i64 1, .int .u8 103, .bool true] w fun r w' => ∃ v', r = .returned v' ∧ Dst w0 w' db 1 D v' (xs ++ [bt (D 0)] ++ [bt 101] ++ [bt 45] ++ [bt ((E : Int) / 100 + 48), bt ((E : Int) / 10 % 10 + 48), bt ((E : Int) % 10 + 48)]) := by
  have hdk := h.dig 0 (by omega)
  have HD := Lib.hid h
  clear h
  have hg1 : dp - 1 < -4 := by omega
  have hg1' : -(E : Int) < -4 := by omega
  have hg4 : -(E : Int) < 0 := by omega
  obtain ⟨Q, hQ⟩ : ∃ Q : Ending → World → Prop, Q = fun r w' => ∃ v', r = .returned v' ∧ Dst w0 w' db 1 D v' (xs ++ [bt (D 0)] ++ [bt 101] ++ [bt 45] ++ [bt ((E : Int) / 100 + 48), bt ((E : Int) / 10 % 10 + 48), bt ((E : Int) % 10 + 48)]) := ⟨_, rfl⟩
  rw [← hQ]
  have HQ := Lib.hid hQ
  clear hQ
  have hxl : xs.length ≤ 3000 := by omega
  have hE2 : ¬ (E : Int) < 10 := by omega
  have hE3 : ¬ (E : Int) < 100 := by omega
  have hE4 : (E : Int) < 400 := by omega
  go_enter Tryz.func200, Tryz.ntmps200
  go_wp2_with (first | (at_builtin; refine wpList_dst (c := bt (D 0)) rfl _ _ rfl rfl HD.out rfl rfl rfl (by (try simp); omega) ?_; intro gg cap2 w3 hd3; (try simp only [List.length_append, List.length_singleton] at hd3); have HDf := Lib.hid hd3; clear hd3) | (at_builtin; refine wpList_dst (c := bt 101) rfl _ _ rfl rfl HDf.out rfl rfl rfl (by (try simp); omega) ?_; intro gg cap2 w3 hd3; (try simp only [List.length_append, List.length_singleton] at hd3); have HDe := Lib.hid hd3; clear hd3) | (at_builtin; refine wpList_dst (c := bt 45) rfl _ _ rfl rfl HDe.out rfl rfl rfl (by (try simp); omega) ?_; intro gg cap2 w3 hd3; (try simp only [List.length_append, List.length_singleton] at hd3); have HDg := Lib.hid hd3; clear hd3) | (at_builtin; refine wpList_dsts [bt ((E : Int) / 100 + 48), bt ((E : Int) / 10 % 10 + 48), bt ((E : Int) % 10 + 48)] rfl _ _ rfl rfl HDg.out 3 rfl (by decide) (by decide) rfl rfl (by intro u hu; simp at hu; rcases hu with rfl | rfl | rfl <;> rfl) (by (try simp); omega) ?_; intro gg cap2 w3 hd3; (try simp only [List.length_append, List.length_singleton] at hd3); have HDz := Lib.hid hd3; clear hd3))
  rw [HQ.out]
  exact ⟨_, rfl, HDz.out⟩
set_option maxHeartbeats 4000000 in
theorem fmt_e1_neg_hi_a (db : Nat) (dl dc : Nat) (D : Nat → Int) (v : Value) (xs : List Value) (w0 w : World) (h : Dst w0 w db 1 D v xs) (hn : 1 ≤ dl) (hnc : dl ≤ dc) (hdc : dc ≤ 1000) (hx : xs.length ≤ 5)  (dp : Int) (E : Nat) (hE : dp - 1 = (E : Int)) (h5 : 6 ≤ E) (hE1 : E < 10) (hb0 : -400 ≤ dp) (hb1 : dp ≤ 400) :
    Calls Tryz.prog 200 #[v, .bool true, .slice (some ⟨db, 0, none⟩) dl dc, .int .i64 dp, .int .i64 1, .int .i64 1, .int .u8 103, .bool true] w fun r w' => ∃ v', r = .returned v' ∧ Dst w0 w' db 1 D v' (xs ++ [bt 45] ++ [bt (D 0)] ++ [bt 101] ++ [bt 43] ++ [bt 48, bt ((E : Int) + 48)]) := by
  have hdk := h.dig 0 (by omega)
  have HD := Lib.hid h
  clear h
  have hg1 : ¬ dp - 1 < -4 := by omega
  have hg2 : (6 : Int) ≤ dp - 1 := by omega
  have hg1' : ¬ (E : Int) < -4 := by omega
  have hg2' : (6 : Int) ≤ (E : Int) := by omega
  have hg4 : ¬ (E : Int) < 0 := by omega
  obtain ⟨Q, hQ⟩ : ∃ Q : Ending → World → Prop, Q = fun r w' => ∃ v', r = .returned v' ∧ Dst w0 w' db 1 D v' (xs ++ [bt 45] ++ [bt (D 0)] ++ [bt 101] ++ [bt 43] ++ [bt 48, bt ((E : Int) + 48)]) := ⟨_, rfl⟩
  rw [← hQ]
  have HQ := Lib.hid hQ
  clear hQ
  have hxl : xs.length ≤ 3000 := by omega
  have hE2 : (E : Int) < 10 := by omega
  go_enter Tryz.func200, Tryz.ntmps200
  go_wp2_with (first | (at_builtin; refine wpList_dst (c := bt 45) rfl _ _ rfl rfl HD.out rfl rfl rfl (by (try simp); omega) ?_; intro gg cap2 w3 hd3; (try simp only [List.length_append, List.length_singleton] at hd3); have hdk := hd3.dig 0 (by omega); have HDs := Lib.hid hd3; clear hd3) | (at_builtin; refine wpList_dst (c := bt (D 0)) rfl _ _ rfl rfl HDs.out rfl rfl rfl (by (try simp); omega) ?_; intro gg cap2 w3 hd3; (try simp only [List.length_append, List.length_singleton] at hd3); have HDf := Lib.hid hd3; clear hd3) | (at_builtin; refine wpList_dst (c := bt 101) rfl _ _ rfl rfl HDf.out rfl rfl rfl (by (try simp); omega) ?_; intro gg cap2 w3 hd3; (try simp only [List.length_append, List.length_singleton] at hd3); have HDe := Lib.hid hd3; clear hd3) | (at_builtin; refine wpList_dst (c := bt 43) rfl _ _ rfl rfl HDe.out rfl rfl rfl (by (try simp); omega) ?_; intro gg cap2 w3 hd3; (try simp only [List.length_append, List.length_singleton] at hd3); have HDg := Lib.hid hd3; clear hd3) | (at_builtin; refine wpList_dsts [bt 48, bt ((E : Int) + 48)] rfl _ _ rfl rfl HDg.out 2 rfl (by decide) (by decide) rfl rfl (by intro u hu; simp at hu; rcases hu with rfl | rfl <;> rfl) (by (try simp); omega) ?_; intro gg cap2 w3 hd3; (try simp only [List.length_append, List.length_singleton] at hd3); have HDz := Lib.hid hd3; clear hd3))
  rw [HQ.out]
  exact ⟨_, rfl, HDz.out⟩
set_option maxHeartbeats 4000000 in
theorem fmt_e1_neg_hi_b (db : Nat) (dl dc : Nat) (D : Nat → Int) (v : Value) (xs : List Value) (w0 w : World) (h : Dst w0 w db 1 D v xs) (hn : 1 ≤ dl) (hnc : dl ≤ dc) (hdc : dc ≤ 1000) (hx : xs.length ≤ 5)  (dp : Int) (E : Nat) (hE : dp - 1 = (E : Int)) (h5 : 6 ≤ E) (hE0 : 10 ≤ E) (hE1 : E < 100) (hb0 : -400 ≤ dp) (hb1 : dp ≤ 400) :
    Calls Tryz.prog 200 #[v, .bool true, .slice (some ⟨db, 0, none⟩) dl dc, .int .i64 dp, .int .i64 1, .int .i64 1, .int .u8 103, .bool true] w fun r w' => ∃ v', r = .returned v' ∧ Dst w0 w' db 1 D v' (xs ++ [bt 45] ++ [bt (D 0)] ++ [bt 101] ++ [bt 43] ++ [bt ((E : Int) / 10 + 48), bt ((E : Int) % 10 + 48)]) := by
  have hdk := h.dig 0 (by omega)
  have HD := Lib.hid h
  clear h
  have hg1 : ¬ dp - 1 < -4 := by omega
  have hg2 : (6 : Int) ≤ dp - 1 := by omega
  have hg1' : ¬ (E : Int) < -4 := by omega
  have hg2' : (6 : Int) ≤ (E : Int) := by omega
  have hg4 : ¬ (E : Int) < 0 := by omega
  obtain ⟨Q, hQ⟩ : ∃ Q : Ending → World → Prop, Q = fun r w' => ∃ v', r = .returned v' ∧ Dst w0 w' db 1 D v' (xs ++ [bt 45] ++ [bt (D 0)] ++ [bt 101] ++ [bt 43] ++ [bt ((E : Int) / 10 + 48), bt ((E : Int) % 10 + 48)]) := ⟨_, rfl⟩
  rw [← hQ]
  have HQ := Lib.hid hQ
  clear hQ
  have hxl : xs.length ≤ 3000 := by omega
  have hE2 : ¬ (E : Int) < 10 := by omega
  have hE3 : (E : Int) < 100 := by omega
  go_enter Tryz.func200, Tryz.ntmps200
  go_wp2_with (first | (at_builtin; refine wpList_dst (c := bt 45) rfl _ _ rfl rfl HD.out rfl rfl rfl (by (try simp); omega) ?_; intro gg cap2 w3 hd3; (try simp only [List.length_append, List.length_singleton] at hd3); have hdk := hd3.dig 0 (by omega); have HDs := Lib.hid hd3; clear hd3) | (at_builtin; refine wpList_dst (c := bt (D 0)) rfl _ _ rfl rfl HDs.out rfl rfl rfl (by (try simp); omega) ?_; intro gg cap2 w3 hd3; (try simp only [List.length_append, List.length_singleton] at hd3); have HDf := Lib.hid hd3; clear hd3) | (at_builtin; refine wpList_dst (c := bt 101) rfl _ _ rfl rfl HDf.out rfl rfl rfl (by (try simp); omega) ?_; intro gg cap2 w3 hd3; (try simp only [List.length_append, List.length_singleton] at hd3); have HDe := Lib.hid hd3; clear hd3) | (at_builtin; refine wpList_dst (c := bt 43) rfl _ _ rfl rfl HDe.out rfl rfl rfl (by (try simp); omega) ?_; intro gg cap2 w3 hd3; (try simp only [List.length_append, List.length_singleton] at hd3); have HDg := Lib.hid hd3; clear hd3) | (at_builtin; refine wpList_dsts [bt ((E : Int) / 10 + 48), bt ((E : Int) % 10 + 48)] rfl _ _ rfl rfl HDg.out 2 rfl (by decide) (by decide) rfl rfl (by intro u hu; simp at hu; rcases hu with rfl | rfl <;> rfl) (by (try simp); omega) ?_; intro gg cap2 w3 hd3; (try simp only [List.length_append, List.length_singleton] at hd3); have HDz := Lib.hid hd3; clear hd3))
  rw [HQ.out]
  exact ⟨_, rfl, HDz.out⟩
set_option maxHeartbeats 4000000 in
theorem fmt_e1_neg_hi_c (db : Nat) (dl dc : Nat) (D : Nat → Int) (v : Value) (xs : List Value) (w0 w : World) (h : Dst w0 w db 1 D v xs) (hn : 1 ≤ dl) (hnc : dl ≤ dc) (hdc : dc ≤ 1000) (hx : xs.length ≤ 5)  (dp : Int) (E : Nat) (hE : dp - 1 = (E : Int)) (h5 : 6 ≤ E) (hE0 : 100 ≤ E) (hE1 : E < 400) (hb0 : -400 ≤ dp) (hb1 : dp ≤ 400) :
    Calls Tryz.prog 200 #[v, .bool true, .slice (some ⟨db, 0, none⟩) dl dc, .int .i64 dp, .int .i64 1, .int .i64 1, .int .u8 103, .bool true] w fun r w' => ∃ v', r = .returned v' ∧ Dst w0 w' db 1 D v' (xs ++ [bt 45] ++ [bt (D 0)] ++ [bt 101] ++ [bt 43] ++ [bt ((E : Int) / 100 + 48), bt ((E : Int) / 10 % 10 + 48), bt ((E : Int) % 10 + 48)]) := by
  have hdk := h.dig 0 (by omega)
  have HD := Lib.hid h
  clear h
  have hg1 : ¬ dp - 1 < -4 := by omega
  have hg2 : (6 : Int) ≤ dp - 1 := by omega
  have hg1' : ¬ (E : Int) < -4 := by omega
  have hg2' : (6 : Int) ≤ (E : Int) := by omega
  have hg4 : ¬ (E : Int) < 0 := by omega
  obtain ⟨Q, hQ⟩ : ∃ Q : Ending → World → Prop, Q = fun r w' => ∃ v', r = .returned v' ∧ Dst w0 w' db 1 D v' (xs ++ [bt 45] ++ [bt (D 0)] ++ [bt 101] ++ [bt 43] ++ [bt ((E : Int) / 100 + 48), bt ((E : Int) / 10 % 10 + 48), bt ((E : Int) % 10 + 48)]) := ⟨_, rfl⟩
  rw [← hQ]
  have HQ := Lib.hid hQ
  clear hQ
  have hxl : xs.length ≤ 3000 := by omega
  have hE2 : ¬ (E : Int) < 10 := by omega
  have hE3 : ¬ (E : Int) < 100 := by omega
  have hE4 : (E : Int) < 400 := by omega
  go_enter Tryz.func200, Tryz.ntmps200
  go_wp2_with (first | (at_builtin; refine wpList_dst (c := bt 45) rfl _ _ rfl rfl HD.out rfl rfl rfl (by (try simp); omega) ?_; intro gg cap2 w3 hd3; (try simp only [List.length_append, List.length_singleton] at hd3); have hdk := hd3.dig 0 (by omega); have HDs := Lib.hid hd3; clear hd3) | (at_builtin; refine wpList_dst (c := bt (D 0)) rfl _ _ rfl rfl HDs.out rfl rfl rfl (by (try simp); omega) ?_; intro gg cap2 w3 hd3; (try simp only [List.length_append, List.length_singleton] at hd3); have HDf := Lib.hid hd3; clear hd3) | (at_builtin; refine wpList_dst (c := bt 101) rfl _ _ rfl rfl HDf.out rfl rfl rfl (by (try simp); omega) ?_; intro gg cap2 w3 hd3; (try simp only [List.length_append, List.length_singleton] at hd3); have HDe := Lib.hid hd3; clear hd3) | (at_builtin; refine wpList_dst (c := bt 43) rfl _ _ rfl rfl HDe.out rfl rfl rfl (by (try simp); omega) ?_; intro gg cap2 w3 hd3; (try simp only [List.length_append, List.length_singleton] at hd3); have HDg := Lib.hid hd3; clear hd3) | (at_builtin; refine wpList_dsts [bt ((E : Int) / 100 + 48), bt ((E : Int) / 10 % 10 + 48), bt ((E : Int) % 10 + 48)] rfl _ _ rfl rfl HDg.out 3 rfl (by decide) (by decide) rfl rfl (by intro u hu; simp at hu; rcases hu with rfl | rfl | rfl <;> rfl) (by (try simp); omega) ?_; intro gg cap2 w3 hd3; (try simp only [List.length_append, List.length_singleton] at hd3); have HDz := Lib.hid hd3; clear hd3))
  rw [HQ.out]
  exact ⟨_, rfl, HDz.out⟩
set_option maxHeartbeats 4000000 in
theorem fmt_e1_neg_lo_a (db : Nat) (dl dc : Nat) (D : Nat → Int) (v : Value) (xs : List Value) (w0 w : World) (h : Dst w0 w db 1 D v xs) (hn : 1 ≤ dl) (hnc : dl ≤ dc) (hdc : dc ≤ 1000) (hx : xs.length ≤ 5)  (dp : Int) (E : Nat) (hE : dp - 1 = -(E : Int)) (h5 : 5 ≤ E) (hE1 : E < 10) (hb0 : -400 ≤ dp) (hb1 : dp ≤ 400) :
    Calls Tryz.prog 200 #[v, .bool true, .slice (some ⟨db, 0, none⟩) dl dc, .int .i64 dp, .int .i64 1, .int .i64 1, .int .u8 103, .bool true] w fun r w' => ∃ v', r = .returned v' ∧ Dst w0 w' db 1 D v' (xs ++ [bt 45] ++ [bt (D 0)] ++ [bt 101] ++ [bt 45] ++ [bt 48, bt ((E : Int) + 48)]) := by
  have hdk := h.dig 0 (by omega)
  have HD := Lib.hid h
  clear h
  have hg1 : dp - 1 < -4 := by omega
  have hg1' : -(E : Int) < -4 := by omega
  have hg4 : -(E : Int) < 0 := by omega
  obtain ⟨Q, hQ⟩ : ∃ Q : Ending → World → Prop, Q = fun r w' => ∃ v', r = .returned v' ∧ Dst w0 w' db 1 D v' (xs ++ [bt 45] ++ [bt (D 0)] ++ [bt 101] ++ [bt 45] ++ [bt 48, bt ((E : Int) + 48)]) := ⟨_, rfl⟩
  rw [← hQ]
  have HQ := Lib.hid hQ
  clear hQ
  have hxl : xs.length ≤ 3000 := by omega
  have hE2 : (E : Int) < 10 := by omega
  go_enter Tryz.func200, Tryz.ntmps200
  go_wp2_with (first | (at_builtin; refine wpList_dst (c := bt 45) rfl _ _ rfl rfl HD.out rfl rfl rfl (by (try simp); omega) ?_; intro gg cap2 w3 hd3; (try simp only [List.length_append, List.length_singleton] at hd3); have hdk := hd3.dig 0 (by omega); have HDs := Lib.hid hd3; clear hd3) | (at_builtin; refine wpList_dst (c := bt (D 0)) rfl _ _ rfl rfl HDs.out rfl rfl rfl (by (try simp); omega) ?_; intro gg cap2 w3 hd3; (try simp only [List.length_append, List.length_singleton] at hd3); have HDf := Lib.hid hd3; clear hd3) | (at_builtin; refine wpList_dst (c := bt 101) rfl _ _ rfl rfl HDf.out rfl rfl rfl (by (try simp); omega) ?_; intro gg cap2 w3 hd3; (try simp only [List.length_append, List.length_singleton] at hd3); have HDe := Lib.hid hd3; clear hd3) | (at_builtin; refine wpList_dst (c := bt 45) rfl _ _ rfl rfl HDe.out rfl rfl rfl (by (try simp); omega) ?_; intro gg cap2 w3 hd3; (try simp only [List.length_append, List.length_singleton] at hd3); have HDg := Lib.hid hd3; clear hd3) | (at_builtin; refine wpList_dsts [bt 48, bt ((E : Int) + 48)] rfl _ _ rfl rfl HDg.out 2 rfl (by decide) (by decide) rfl rfl (by intro u hu; simp at hu; rcases hu with rfl | rfl <;> rfl) (by (try simp); omega) ?_; intro gg cap2 w3 hd3; (try simp only [List.length_append, List.length_singleton] at hd3); have HDz := Lib.hid hd3; clear hd3))
  rw [HQ.out]
  exact ⟨_, rfl, HDz.out⟩
set_option maxHeartbeats 4000000 in
theorem fmt_e1_neg_lo_b (db : Nat) (dl dc : Nat) (D : Nat → Int) (v : Value) (xs : List Value) (w0 w : World) (h : Dst w0 w db 1 D v xs) (hn : 1 ≤ dl) (hnc : dl ≤ dc) (hdc : dc ≤ 1000) (hx : xs.length ≤ 5)  (dp : Int) (E : Nat) (hE : dp - 1 = -(E : Int)) (h5 : 5 ≤ E) (hE0 : 10 ≤ E) (hE1 : E < 100) (hb0 : -400 ≤ dp) (hb1 : dp ≤ 400) :
    Calls Tryz.prog 200 #[v, .bool true, .slice (some ⟨db, 0, none⟩) dl dc, .int .i64 dp, .int .i64 1, .int .i64 1, .int .u8 103, .bool true] w fun r w' => ∃ v', r = .returned v' ∧ Dst w0 w' db 1 D v' (xs ++ [bt 45] ++ [bt (D 0)] ++ [bt 101] ++ [bt 45] ++ [bt ((E : Int) / 10 + 48), bt ((E : Int) % 10 + 48)]) := by
  have hdk := h.dig 0 (by omega)
  have HD := Lib.hid h
  clear h
  have hg1 : dp - 1 < -4 := by omega
  have hg1' : -(E : Int) < -4 := by omega
  have hg4 : -(E : Int) < 0 := by omega
  obtain ⟨Q, hQ⟩ : ∃ Q : Ending → World → Prop, Q = fun r w' => ∃ v', r = .returned v' ∧ Dst w0 w' db 1 D v' (xs ++ [bt 45] ++ [bt (D 0)] ++ [bt 101] ++ [bt 45] ++ [bt ((E : Int) / 10 + 48), bt ((E : Int) % 10 + 48)]) := ⟨_, rfl⟩
  rw [← hQ]
  have HQ := Lib.hid hQ
  clear hQ
  have hxl : xs.length ≤ 3000 := by omega
  have hE2 : ¬ (E : Int) < 10 := by omega
  have hE3 : (E : Int) < 100 := by omega
  go_enter Tryz.func200, Tryz.ntmps200
  go_wp2_with (first | (at_builtin; refine wpList_dst (c := bt 45) rfl _ _ rfl rfl HD.out rfl rfl rfl (by (try simp); omega) ?_; intro gg cap2 w3 hd3; (try simp only [List.length_append, List.length_singleton] at hd3); have hdk := hd3.dig 0 (by omega); have HDs := Lib.hid hd3; clear hd3) | (at_builtin; refine wpList_dst (c := bt (D 0)) rfl _ _ rfl rfl HDs.out rfl rfl rfl (by (try simp); omega) ?_; intro gg cap2 w3 hd3; (try simp only [List.length_append, List.length_singleton] at hd3); have HDf := Lib.hid hd3; clear hd3) | (at_builtin; refine wpList_dst (c := bt 101) rfl _ _ rfl rfl HDf.out rfl rfl rfl (by (try simp); omega) ?_; intro gg cap2 w3 hd3; (try simp only [List.length_append, List.length_singleton] at hd3); have HDe := Lib.hid hd3; clear hd3) | (at_builtin; refine wpList_dst (c := bt 45) rfl _ _ rfl rfl HDe.out rfl rfl rfl (by (try simp); omega) ?_; intro gg cap2 w3 hd3; (try simp only [List.length_append, List.length_singleton] at hd3); have HDg := Lib.hid hd3; clear hd3) | (at_builtin; refine wpList_dsts [bt ((E : Int) / 10 + 48), bt ((E : Int) % 10 + 48)] rfl _ _ rfl rfl HDg.out 2 rfl (by decide) (by decide) rfl rfl (by intro u hu; simp at hu; rcases hu with rfl | rfl <;> rfl) (by (try simp); omega) ?_; intro gg cap2 w3 hd3; (try simp only [List.length_append, List.length_singleton] at hd3); have HDz := Lib.hid hd3; clear hd3))
  rw [HQ.out]
  exact ⟨_, rfl, HDz.out⟩
set_option maxHeartbeats 4000000 in
theorem fmt_e1_neg_lo_c (db : Nat) (dl dc : Nat) (D : Nat → Int) (v : Value) (xs : List Value) (w0 w : World) (h : Dst w0 w db 1 D v xs) (hn : 1 ≤ dl) (hnc : dl ≤ dc) (hdc : dc ≤ 1000) (hx : xs.length ≤ 5)  (dp : Int) (E : Nat) (hE : dp - 1 = -(E : Int)) (h5 : 5 ≤ E) (hE0 : 100 ≤ E) (hE1 : E < 400) (hb0 : -400 ≤ dp) (hb1 : dp ≤ 400) :
    Calls Tryz.prog 200 #[v, .bool true, .slice (some ⟨db, 0, none⟩) dl dc, .int .i64 dp, .int .i64 1, .int .i64 1, .int .u8 103, .bool true] w fun r w' => ∃ v', r = .returned v' ∧ Dst w0 w' db 1 D v' (xs ++ [bt 45] ++ [bt (D 0)] ++ [bt 101] ++ [bt 45] ++ [bt ((E : Int) / 100 + 48), bt ((E : Int) / 10 % 10 + 48), bt ((E : Int) % 10 + 48)]) := by
  have hdk := h.dig 0 (by omega)
  have HD := Lib.hid h
  clear h
  have hg1 : dp - 1 < -4 := by omega
  have hg1' : -(E : Int) < -4 := by omega
  have hg4 : -(E : Int) < 0 := by omega
  obtain ⟨Q, hQ⟩ : ∃ Q : Ending → World → Prop, Q = fun r w' => ∃ v', r = .returned v' ∧ Dst w0 w' db 1 D v' (xs ++ [bt 45] ++ [bt (D 0)] ++ [bt 101] ++ [bt 45] ++ [bt ((E : Int) / 100 + 48), bt ((E : Int) / 10 % 10 + 48), bt ((E : Int) % 10 + 48)]) := ⟨_, rfl⟩
  rw [← hQ]
  have HQ := Lib.hid hQ
  clear hQ
  have hxl : xs.length ≤ 3000 := by omega
  have hE2 : ¬ (E : Int) < 10 := by omega
  have hE3 : ¬ (E : Int) < 100 := by omega
  have hE4 : (E : Int) < 400 := by omega
  go_enter Tryz.func200, Tryz.ntmps200
  go_wp2_with (first | (at_builtin; refine wpList_dst (c := bt 45) rfl _ _ rfl rfl HD.out rfl rfl rfl (by (try simp); omega) ?_; intro gg cap2 w3 hd3; (try simp only [List.length_append, List.length_singleton] at hd3); have hdk := hd3.dig 0 (by omega); have HDs := Lib.hid hd3; clear hd3) | (at_builtin; refine wpList_dst (c := bt (D 0)) rfl _ _ rfl rfl HDs.out rfl rfl rfl (by (try simp); omega) ?_; intro gg cap2 w3 hd3; (try simp only [List.length_append, List.length_singleton] at hd3); have HDf := Lib.hid hd3; clear hd3) | (at_builtin; refine wpList_dst (c := bt 101) rfl _ _ rfl rfl HDf.out rfl rfl rfl (by (try simp); omega) ?_; intro gg cap2 w3 hd3; (try simp only [List.length_append, List.length_singleton] at hd3); have HDe := Lib.hid hd3; clear hd3) | (at_builtin; refine wpList_dst (c := bt 45) rfl _ _ rfl rfl HDe.out rfl rfl rfl (by (try simp); omega) ?_; intro gg cap2 w3 hd3; (try simp only [List.length_append, List.length_singleton] at hd3); have HDg := Lib.hid hd3; clear hd3) | (at_builtin; refine wpList_dsts [bt ((E : Int) / 100 + 48), bt ((E : Int) / 10 % 10 + 48), bt ((E : Int) % 10 + 48)] rfl _ _ rfl rfl HDg.out 3 rfl (by decide) (by decide) rfl rfl (by intro u hu; simp at hu; rcases hu with rfl | rfl | rfl <;> rfl) (by (try simp); omega) ?_; intro gg cap2 w3 hd3; (try simp only [List.length_append, List.length_singleton] at hd3); have HDz := Lib.hid hd3; clear hd3))
  rw [HQ.out]
  exact ⟨_, rfl, HDz.out⟩
end Go.Proofs.YtnggkkdcddpjlaaGreatDoor
