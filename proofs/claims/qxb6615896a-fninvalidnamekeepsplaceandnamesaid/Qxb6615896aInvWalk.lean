/- FnInvalidNameKeepsPlaceAndName: the walk. -/
import Derived.Test.Qxb6615896aCopy
namespace Go.Proofs.Qxb6615896a
open Go.RowKit

theorem make22 (n : Nat) (hn : n ≤ 1048576) (w : World) : (Instr.makeSlice 22 (.int .i64 (n : Int)) (.int .i64 (n : Int))).run Try.prog w = .ok (.slice (some ⟨w.heap.size, 0, none⟩) n n) (w.alloc (.cells (madeCells #[.int .u8 0] n) 5)) :=
  run_make_row' 22 5 (.int .u8 0) 1 Try.underlying22 info5 rfl .i64 .i64 n (by omega) (by omega) w

theorem msg_beq_yes {n m : Nat} {Z Y : Nat → Int} (h : (msg n Z).toList = (msg m Y).toList) : ((msg n Z).toList == (msg m Y).toList) = true := by rw [beq_iff_eq]; exact h
theorem msg_beq_no {n m : Nat} {Z Y : Nat → Int} (h : ¬ (msg n Z).toList = (msg m Y).toList) : ((msg n Z).toList == (msg m Y).toList) = false := by rw [beq_eq_false_iff_ne]; exact h

set_option maxRecDepth 100000 in
set_option maxHeartbeats 1000000 in
theorem walk_ss (z1 z2 : Int) (x : Addr) (n cap : Nat) (y : Addr) (m cap2 : Nat) (Z Y : Nat → Int) (w : World) (hz : ∀ j, j < n → 0 ≤ Z j ∧ Z j ≤ 255) (hy : ∀ j, j < m → 0 ≤ Y j ∧ Y j ≤ 255) (hn : n ≤ maxLen) (ha : Byts w (some x) n Z) (hm : m ≤ maxLen) (hb : Byts w (some y) m Y) :
    Calls Try.prog 3 #[.int .i64 z1, .int .i64 z2, .slice (some x) n cap, .slice (some y) m cap2] w fun e w' => e = .returned (.bool true) ∧ Below w.heap.size w w' := by
  have C1 := hide (bytes5_any z1 z2 (some x) (some y) n m cap cap2 w hn hm)
  have HZ := hide (And.intro hz hy)
  have HA := hide ha
  have HB := hide hb
  clear hz hy ha hb
  go_enter Try.func3, Try.ntmps3
  go_wp2_with fail
  refine (unhide C1).mono ?_
  rintro e w' ⟨r, rfl, hr, rfl⟩
  cases r
  · go_wp2
    go_ret
    exact ⟨rfl, Below.refl _ _⟩
  have hnm := hr rfl
  have t1 : decide (1048576 < (n : Int)) = false := decide_eq_false (by omega)
  have mk1 := make22 n (by omega)
  have t2 : decide (1048576 < (m : Int)) = false := decide_eq_false (by omega)
  have mk2 := make22 m (by omega)
  have t3 : decide (1048576 < (n : Int) + (m : Int)) = false := decide_eq_false (by omega)
  clear hr C1
  have ne1 := ne22_some
  obtain ⟨w2, cp1, D1⟩ := copy_bytes w' x n cap Z HA.out
  have ha2 := hide D1
  clear D1
  obtain ⟨w3, cp2, D2⟩ := copy_bytes w2 y m cap2 Y (HB.out.below ha2.out.below)
  have hb3 := hide D2
  clear D2
  have FA : Hid (Byts w3 (some ⟨w'.heap.size, 0, none⟩) n Z) := (ha2.out.byts.below hb3.out.below)
  have FB : Hid (Byts w3 (some ⟨w2.heap.size, 0, none⟩) m Y) := hb3.out.byts
  have BL : Hid (Below w'.heap.size w' w3) := (ha2.out.below.trans (hb3.out.below.mono ha2.out.below.size))
  have CA := hide (show Calls Try.prog 6 #[.int .i64 z1, .slice (some ⟨w'.heap.size, 0, none⟩) n n] w3 fun e wz => e = .returned (.tuple #[.int .i64 z1, .string (msg n Z), .bool true]) ∧ Below w3.heap.size w3 wz from zzInv_any z1 (some ⟨w'.heap.size, 0, none⟩) n n (str n Z) w3 (conv_some _ _ _ _ _ Z FA.out) (by rw [str_size]; omega))
  clear ha2 hb3
  go_wp2_with fail
  refine (unhide CA).mono ?_
  rintro e w4 ⟨rfl, b4⟩
  have CB := hide (show Calls Try.prog 6 #[.int .i64 z2, .slice (some ⟨w2.heap.size, 0, none⟩) m m] w4 fun e wz => e = .returned (.tuple #[.int .i64 z2, .string (msg m Y), .bool true]) ∧ Below w4.heap.size w4 wz from zzInv_any z2 (some ⟨w2.heap.size, 0, none⟩) m m (str m Y) w4 (conv_some _ _ _ _ _ Y (FB.out.below b4)) (by rw [str_size]; omega))
  have B4 := hide b4
  clear b4 CA cp1 mk1 cp2 mk2
  go_wp2_with fail
  refine (unhide CB).mono ?_
  rintro e w5 ⟨rfl, b5⟩
  have FA5 := hide ((FA.out.below B4.out).below b5)
  have FB5 := hide ((FB.out.below B4.out).below b5)
  have BL5 := hide (BL.out.trans ((B4.out.mono BL.out.size).trans (b5.mono (Nat.le_trans BL.out.size B4.out.size))))
  clear b5 CB FA FB BL B4
  by_cases hsame : (msg n Z).toList = (msg m Y).toList
  · have hq := msg_beq_yes hsame
    obtain ⟨enm, heq⟩ := (msg_eq HZ.out.1 HZ.out.2).1 hsame
    subst enm
    have CS := hide (same_yes (some ⟨w'.heap.size, 0, none⟩) (some ⟨w2.heap.size, 0, none⟩) n n n Z Y w5 (by unfold maxLen; omega) FA5.out FB5.out heq)
    clear hsame heq
    go_wp2_with fail
    refine (unhide CS).mono ?_
    rintro e w6 ⟨rfl, d6⟩
    have B6 := d6.below w5.heap.size
    have E1 := hide (ends_yes (msg n Z) (some ⟨w'.heap.size, 0, none⟩) n n 18 Z w6 (by omega) (msg_size _ _) (by omega) (FA5.out.below B6) (msg_at HZ.out.1))
    have BL6 := hide (BL5.out.trans (d6.below _))
    have FB6 := hide (FB5.out.below B6)
    clear CS d6 B6
    go_wp2_with fail
    refine (unhide E1).mono ?_
    rintro e w7 ⟨rfl, d7⟩
    have E2 := hide (ends_yes (msg n Y) (some ⟨w2.heap.size, 0, none⟩) n n 18 Y w7 (by omega) (msg_size _ _) (by omega) (FB6.out.below (d7.below _)) (msg_at HZ.out.2))
    have BL7 := hide (BL6.out.trans (d7.below _))
    clear E1 d7
    go_wp2_with fail
    refine (unhide E2).mono ?_
    rintro e w8 ⟨rfl, d8⟩
    go_wp2_with fail
    go_ret
    exact ⟨rfl, BL7.out.trans (d8.below _)⟩
  · have hq := msg_beq_no hsame
    have CS := hide (same_no (some ⟨w'.heap.size, 0, none⟩) (some ⟨w2.heap.size, 0, none⟩) n m n m Z Y w5 (by unfold maxLen; omega) (by unfold maxLen; omega) FA5.out FB5.out (fun h => hsame ((msg_eq HZ.out.1 HZ.out.2).2 h)))
    clear hsame
    go_wp2_with fail
    refine (unhide CS).mono ?_
    rintro e w6 ⟨rfl, d6⟩
    have B6 := d6.below w5.heap.size
    have E1 := hide (ends_yes (msg n Z) (some ⟨w'.heap.size, 0, none⟩) n n 18 Z w6 (by omega) (msg_size _ _) (by omega) (FA5.out.below B6) (msg_at HZ.out.1))
    have BL6 := hide (BL5.out.trans (d6.below _))
    have FB6 := hide (FB5.out.below B6)
    clear CS d6 B6
    go_wp2_with fail
    refine (unhide E1).mono ?_
    rintro e w7 ⟨rfl, d7⟩
    have E2 := hide (ends_yes (msg m Y) (some ⟨w2.heap.size, 0, none⟩) m m 18 Y w7 (by omega) (msg_size _ _) (by omega) (FB6.out.below (d7.below _)) (msg_at HZ.out.2))
    have BL7 := hide (BL6.out.trans (d7.below _))
    clear E1 d7
    go_wp2_with fail
    refine (unhide E2).mono ?_
    rintro e w8 ⟨rfl, d8⟩
    go_wp2_with fail
    go_ret
    exact ⟨rfl, BL7.out.trans (d8.below _)⟩

set_option maxRecDepth 100000 in
set_option maxHeartbeats 1000000 in
theorem walk_sn (z1 z2 : Int) (x : Addr) (n cap : Nat) (Z Y : Nat → Int) (w : World) (hz : ∀ j, j < n → 0 ≤ Z j ∧ Z j ≤ 255) (hy : ∀ j, j < 0 → 0 ≤ Y j ∧ Y j ≤ 255) (hn : n ≤ maxLen) (ha : Byts w (some x) n Z) :
    Calls Try.prog 3 #[.int .i64 z1, .int .i64 z2, .slice (some x) n cap, .slice (none) 0 0] w fun e w' => e = .returned (.bool true) ∧ Below w.heap.size w w' := by
  have C1 := hide (bytes5_any z1 z2 (some x) (none) n 0 cap 0 w hn (Nat.zero_le _))
  have HZ := hide (And.intro hz hy)
  have HA := hide ha
  clear hz hy ha
  go_enter Try.func3, Try.ntmps3
  go_wp2_with fail
  refine (unhide C1).mono ?_
  rintro e w' ⟨r, rfl, hr, rfl⟩
  cases r
  · go_wp2
    go_ret
    exact ⟨rfl, Below.refl _ _⟩
  have hnm := hr rfl
  have t1 : decide (1048576 < (n : Int)) = false := decide_eq_false (by omega)
  have mk1 := make22 n (by omega)
  clear hr C1
  have ne1 := ne22_some
  have ne2 := ne22_none
  obtain ⟨w2, cp1, D1⟩ := copy_bytes w' x n cap Z HA.out
  have ha2 := hide D1
  clear D1
  have FA : Hid (Byts w2 (some ⟨w'.heap.size, 0, none⟩) n Z) := ha2.out.byts
  have FB : Hid (Byts w2 none 0 Y) := (Or.inl rfl)
  have BL : Hid (Below w'.heap.size w' w2) := ha2.out.below
  have CA := hide (show Calls Try.prog 6 #[.int .i64 z1, .slice (some ⟨w'.heap.size, 0, none⟩) n n] w2 fun e wz => e = .returned (.tuple #[.int .i64 z1, .string (msg n Z), .bool true]) ∧ Below w2.heap.size w2 wz from zzInv_any z1 (some ⟨w'.heap.size, 0, none⟩) n n (str n Z) w2 (conv_some _ _ _ _ _ Z FA.out) (by rw [str_size]; omega))
  clear ha2
  go_wp2_with fail
  refine (unhide CA).mono ?_
  rintro e w4 ⟨rfl, b4⟩
  have CB := hide (show Calls Try.prog 6 #[.int .i64 z2, .slice none 0 0] w4 fun e wz => e = .returned (.tuple #[.int .i64 z2, .string (msg 0 Y), .bool true]) ∧ Below w4.heap.size w4 wz from zzInv_any z2 none 0 0 (str 0 Y) w4 (conv_none _ _ _ Y) (by rw [str_size]; omega))
  have B4 := hide b4
  clear b4 CA cp1 mk1
  go_wp2_with fail
  refine (unhide CB).mono ?_
  rintro e w5 ⟨rfl, b5⟩
  have FA5 := hide ((FA.out.below B4.out).below b5)
  have FB5 := hide ((FB.out.below B4.out).below b5)
  have BL5 := hide (BL.out.trans ((B4.out.mono BL.out.size).trans (b5.mono (Nat.le_trans BL.out.size B4.out.size))))
  clear b5 CB FA FB BL B4
  by_cases hsame : (msg n Z).toList = (msg 0 Y).toList
  · have hq := msg_beq_yes hsame
    obtain ⟨enm, heq⟩ := (msg_eq HZ.out.1 HZ.out.2).1 hsame
    subst enm
    have CS := hide (same_yes (some ⟨w'.heap.size, 0, none⟩) none 0 0 0 Z Y w5 (by unfold maxLen; omega) FA5.out FB5.out heq)
    clear hsame heq
    go_wp2_with fail
    refine (unhide CS).mono ?_
    rintro e w6 ⟨rfl, d6⟩
    have B6 := d6.below w5.heap.size
    have E1 := hide (ends_yes (msg 0 Z) (some ⟨w'.heap.size, 0, none⟩) 0 0 18 Z w6 (by omega) (msg_size _ _) (by omega) (FA5.out.below B6) (msg_at HZ.out.1))
    have BL6 := hide (BL5.out.trans (d6.below _))
    have FB6 := hide (FB5.out.below B6)
    clear CS d6 B6
    go_wp2_with fail
    refine (unhide E1).mono ?_
    rintro e w7 ⟨rfl, d7⟩
    have E2 := hide (ends_yes (msg 0 Y) none 0 0 18 Y w7 (by omega) (msg_size _ _) (by omega) (FB6.out.below (d7.below _)) (msg_at HZ.out.2))
    have BL7 := hide (BL6.out.trans (d7.below _))
    clear E1 d7
    go_wp2_with fail
    refine (unhide E2).mono ?_
    rintro e w8 ⟨rfl, d8⟩
    go_wp2_with fail
    go_ret
    exact ⟨rfl, BL7.out.trans (d8.below _)⟩
  · have hq := msg_beq_no hsame
    have CS := hide (same_no (some ⟨w'.heap.size, 0, none⟩) none n 0 n 0 Z Y w5 (by unfold maxLen; omega) (by unfold maxLen; omega) FA5.out FB5.out (fun h => hsame ((msg_eq HZ.out.1 HZ.out.2).2 h)))
    clear hsame
    go_wp2_with fail
    refine (unhide CS).mono ?_
    rintro e w6 ⟨rfl, d6⟩
    have B6 := d6.below w5.heap.size
    have E1 := hide (ends_yes (msg n Z) (some ⟨w'.heap.size, 0, none⟩) n n 18 Z w6 (by omega) (msg_size _ _) (by omega) (FA5.out.below B6) (msg_at HZ.out.1))
    have BL6 := hide (BL5.out.trans (d6.below _))
    have FB6 := hide (FB5.out.below B6)
    clear CS d6 B6
    go_wp2_with fail
    refine (unhide E1).mono ?_
    rintro e w7 ⟨rfl, d7⟩
    have E2 := hide (ends_yes (msg 0 Y) none 0 0 18 Y w7 (by omega) (msg_size _ _) (by omega) (FB6.out.below (d7.below _)) (msg_at HZ.out.2))
    have BL7 := hide (BL6.out.trans (d7.below _))
    clear E1 d7
    go_wp2_with fail
    refine (unhide E2).mono ?_
    rintro e w8 ⟨rfl, d8⟩
    go_wp2_with fail
    go_ret
    exact ⟨rfl, BL7.out.trans (d8.below _)⟩

set_option maxRecDepth 100000 in
set_option maxHeartbeats 1000000 in
theorem walk_ns (z1 z2 : Int) (y : Addr) (m cap2 : Nat) (Z Y : Nat → Int) (w : World) (hz : ∀ j, j < 0 → 0 ≤ Z j ∧ Z j ≤ 255) (hy : ∀ j, j < m → 0 ≤ Y j ∧ Y j ≤ 255) (hm : m ≤ maxLen) (hb : Byts w (some y) m Y) :
    Calls Try.prog 3 #[.int .i64 z1, .int .i64 z2, .slice (none) 0 0, .slice (some y) m cap2] w fun e w' => e = .returned (.bool true) ∧ Below w.heap.size w w' := by
  have C1 := hide (bytes5_any z1 z2 (none) (some y) 0 m 0 cap2 w (Nat.zero_le _) hm)
  have HZ := hide (And.intro hz hy)
  have HB := hide hb
  clear hz hy hb
  go_enter Try.func3, Try.ntmps3
  go_wp2_with fail
  refine (unhide C1).mono ?_
  rintro e w' ⟨r, rfl, hr, rfl⟩
  cases r
  · go_wp2
    go_ret
    exact ⟨rfl, Below.refl _ _⟩
  have hnm := hr rfl
  have t2 : decide (1048576 < (m : Int)) = false := decide_eq_false (by omega)
  have mk2 := make22 m (by omega)
  clear hr C1
  have ne1 := ne22_some
  have ne2 := ne22_none
  obtain ⟨w3, cp2, D2⟩ := copy_bytes w' y m cap2 Y HB.out
  have hb3 := hide D2
  clear D2
  have FA : Hid (Byts w3 none 0 Z) := (Or.inl rfl)
  have FB : Hid (Byts w3 (some ⟨w'.heap.size, 0, none⟩) m Y) := hb3.out.byts
  have BL : Hid (Below w'.heap.size w' w3) := hb3.out.below
  have CA := hide (show Calls Try.prog 6 #[.int .i64 z1, .slice none 0 0] w3 fun e wz => e = .returned (.tuple #[.int .i64 z1, .string (msg 0 Z), .bool true]) ∧ Below w3.heap.size w3 wz from zzInv_any z1 none 0 0 (str 0 Z) w3 (conv_none _ _ _ Z) (by rw [str_size]; omega))
  clear hb3
  go_wp2_with fail
  refine (unhide CA).mono ?_
  rintro e w4 ⟨rfl, b4⟩
  have CB := hide (show Calls Try.prog 6 #[.int .i64 z2, .slice (some ⟨w'.heap.size, 0, none⟩) m m] w4 fun e wz => e = .returned (.tuple #[.int .i64 z2, .string (msg m Y), .bool true]) ∧ Below w4.heap.size w4 wz from zzInv_any z2 (some ⟨w'.heap.size, 0, none⟩) m m (str m Y) w4 (conv_some _ _ _ _ _ Y (FB.out.below b4)) (by rw [str_size]; omega))
  have B4 := hide b4
  clear b4 CA cp2 mk2
  go_wp2_with fail
  refine (unhide CB).mono ?_
  rintro e w5 ⟨rfl, b5⟩
  have FA5 := hide ((FA.out.below B4.out).below b5)
  have FB5 := hide ((FB.out.below B4.out).below b5)
  have BL5 := hide (BL.out.trans ((B4.out.mono BL.out.size).trans (b5.mono (Nat.le_trans BL.out.size B4.out.size))))
  clear b5 CB FA FB BL B4
  by_cases hsame : (msg 0 Z).toList = (msg m Y).toList
  · have hq := msg_beq_yes hsame
    obtain ⟨enm, heq⟩ := (msg_eq HZ.out.1 HZ.out.2).1 hsame
    subst enm
    have CS := hide (same_yes none (some ⟨w'.heap.size, 0, none⟩) 0 0 0 Z Y w5 (by unfold maxLen; omega) FA5.out FB5.out heq)
    clear hsame heq
    go_wp2_with fail
    refine (unhide CS).mono ?_
    rintro e w6 ⟨rfl, d6⟩
    have B6 := d6.below w5.heap.size
    have E1 := hide (ends_yes (msg 0 Z) none 0 0 18 Z w6 (by omega) (msg_size _ _) (by omega) (FA5.out.below B6) (msg_at HZ.out.1))
    have BL6 := hide (BL5.out.trans (d6.below _))
    have FB6 := hide (FB5.out.below B6)
    clear CS d6 B6
    go_wp2_with fail
    refine (unhide E1).mono ?_
    rintro e w7 ⟨rfl, d7⟩
    have E2 := hide (ends_yes (msg 0 Y) (some ⟨w'.heap.size, 0, none⟩) 0 0 18 Y w7 (by omega) (msg_size _ _) (by omega) (FB6.out.below (d7.below _)) (msg_at HZ.out.2))
    have BL7 := hide (BL6.out.trans (d7.below _))
    clear E1 d7
    go_wp2_with fail
    refine (unhide E2).mono ?_
    rintro e w8 ⟨rfl, d8⟩
    go_wp2_with fail
    go_ret
    exact ⟨rfl, BL7.out.trans (d8.below _)⟩
  · have hq := msg_beq_no hsame
    have CS := hide (same_no none (some ⟨w'.heap.size, 0, none⟩) 0 m 0 m Z Y w5 (by unfold maxLen; omega) (by unfold maxLen; omega) FA5.out FB5.out (fun h => hsame ((msg_eq HZ.out.1 HZ.out.2).2 h)))
    clear hsame
    go_wp2_with fail
    refine (unhide CS).mono ?_
    rintro e w6 ⟨rfl, d6⟩
    have B6 := d6.below w5.heap.size
    have E1 := hide (ends_yes (msg 0 Z) none 0 0 18 Z w6 (by omega) (msg_size _ _) (by omega) (FA5.out.below B6) (msg_at HZ.out.1))
    have BL6 := hide (BL5.out.trans (d6.below _))
    have FB6 := hide (FB5.out.below B6)
    clear CS d6 B6
    go_wp2_with fail
    refine (unhide E1).mono ?_
    rintro e w7 ⟨rfl, d7⟩
    have E2 := hide (ends_yes (msg m Y) (some ⟨w'.heap.size, 0, none⟩) m m 18 Y w7 (by omega) (msg_size _ _) (by omega) (FB6.out.below (d7.below _)) (msg_at HZ.out.2))
    have BL7 := hide (BL6.out.trans (d7.below _))
    clear E1 d7
    go_wp2_with fail
    refine (unhide E2).mono ?_
    rintro e w8 ⟨rfl, d8⟩
    go_wp2_with fail
    go_ret
    exact ⟨rfl, BL7.out.trans (d8.below _)⟩

set_option maxRecDepth 100000 in
set_option maxHeartbeats 1000000 in
theorem walk_nn (z1 z2 : Int)  (Z Y : Nat → Int) (w : World) (hz : ∀ j, j < 0 → 0 ≤ Z j ∧ Z j ≤ 255) (hy : ∀ j, j < 0 → 0 ≤ Y j ∧ Y j ≤ 255) :
    Calls Try.prog 3 #[.int .i64 z1, .int .i64 z2, .slice (none) 0 0, .slice (none) 0 0] w fun e w' => e = .returned (.bool true) ∧ Below w.heap.size w w' := by
  have C1 := hide (bytes5_any z1 z2 (none) (none) 0 0 0 0 w (Nat.zero_le _) (Nat.zero_le _))
  have HZ := hide (And.intro hz hy)
  clear hz hy
  go_enter Try.func3, Try.ntmps3
  go_wp2_with fail
  refine (unhide C1).mono ?_
  rintro e w' ⟨r, rfl, hr, rfl⟩
  cases r
  · go_wp2
    go_ret
    exact ⟨rfl, Below.refl _ _⟩
  have hnm := hr rfl
  clear hr C1
  have ne2 := ne22_none
  have FA : Hid (Byts w' none 0 Z) := (Or.inl rfl)
  have FB : Hid (Byts w' none 0 Y) := (Or.inl rfl)
  have BL : Hid (Below w'.heap.size w' w') := (Below.refl _ _)
  have CA := hide (show Calls Try.prog 6 #[.int .i64 z1, .slice none 0 0] w' fun e wz => e = .returned (.tuple #[.int .i64 z1, .string (msg 0 Z), .bool true]) ∧ Below w'.heap.size w' wz from zzInv_any z1 none 0 0 (str 0 Z) w' (conv_none _ _ _ Z) (by rw [str_size]; omega))
  go_wp2_with fail
  refine (unhide CA).mono ?_
  rintro e w4 ⟨rfl, b4⟩
  have CB := hide (show Calls Try.prog 6 #[.int .i64 z2, .slice none 0 0] w4 fun e wz => e = .returned (.tuple #[.int .i64 z2, .string (msg 0 Y), .bool true]) ∧ Below w4.heap.size w4 wz from zzInv_any z2 none 0 0 (str 0 Y) w4 (conv_none _ _ _ Y) (by rw [str_size]; omega))
  have B4 := hide b4
  clear b4 CA 
  go_wp2_with fail
  refine (unhide CB).mono ?_
  rintro e w5 ⟨rfl, b5⟩
  have FA5 := hide ((FA.out.below B4.out).below b5)
  have FB5 := hide ((FB.out.below B4.out).below b5)
  have BL5 := hide (BL.out.trans ((B4.out.mono BL.out.size).trans (b5.mono (Nat.le_trans BL.out.size B4.out.size))))
  clear b5 CB FA FB BL B4
  by_cases hsame : (msg 0 Z).toList = (msg 0 Y).toList
  · have hq := msg_beq_yes hsame
    obtain ⟨enm, heq⟩ := (msg_eq HZ.out.1 HZ.out.2).1 hsame
    have CS := hide (same_yes none none 0 0 0 Z Y w5 (by unfold maxLen; omega) FA5.out FB5.out heq)
    clear hsame heq
    go_wp2_with fail
    refine (unhide CS).mono ?_
    rintro e w6 ⟨rfl, d6⟩
    have B6 := d6.below w5.heap.size
    have E1 := hide (ends_yes (msg 0 Z) none 0 0 18 Z w6 (by omega) (msg_size _ _) (by omega) (FA5.out.below B6) (msg_at HZ.out.1))
    have BL6 := hide (BL5.out.trans (d6.below _))
    have FB6 := hide (FB5.out.below B6)
    clear CS d6 B6
    go_wp2_with fail
    refine (unhide E1).mono ?_
    rintro e w7 ⟨rfl, d7⟩
    have E2 := hide (ends_yes (msg 0 Y) none 0 0 18 Y w7 (by omega) (msg_size _ _) (by omega) (FB6.out.below (d7.below _)) (msg_at HZ.out.2))
    have BL7 := hide (BL6.out.trans (d7.below _))
    clear E1 d7
    go_wp2_with fail
    refine (unhide E2).mono ?_
    rintro e w8 ⟨rfl, d8⟩
    go_wp2_with fail
    go_ret
    exact ⟨rfl, BL7.out.trans (d8.below _)⟩
  · have hq := msg_beq_no hsame
    have CS := hide (same_no none none 0 0 0 0 Z Y w5 (by unfold maxLen; omega) (by unfold maxLen; omega) FA5.out FB5.out (fun h => hsame ((msg_eq HZ.out.1 HZ.out.2).2 h)))
    clear hsame
    go_wp2_with fail
    refine (unhide CS).mono ?_
    rintro e w6 ⟨rfl, d6⟩
    have B6 := d6.below w5.heap.size
    have E1 := hide (ends_yes (msg 0 Z) none 0 0 18 Z w6 (by omega) (msg_size _ _) (by omega) (FA5.out.below B6) (msg_at HZ.out.1))
    have BL6 := hide (BL5.out.trans (d6.below _))
    have FB6 := hide (FB5.out.below B6)
    clear CS d6 B6
    go_wp2_with fail
    refine (unhide E1).mono ?_
    rintro e w7 ⟨rfl, d7⟩
    have E2 := hide (ends_yes (msg 0 Y) none 0 0 18 Y w7 (by omega) (msg_size _ _) (by omega) (FB6.out.below (d7.below _)) (msg_at HZ.out.2))
    have BL7 := hide (BL6.out.trans (d7.below _))
    clear E1 d7
    go_wp2_with fail
    refine (unhide E2).mono ?_
    rintro e w8 ⟨rfl, d8⟩
    go_wp2_with fail
    go_ret
    exact ⟨rfl, BL7.out.trans (d8.below _)⟩

end Go.Proofs.Qxb6615896a
