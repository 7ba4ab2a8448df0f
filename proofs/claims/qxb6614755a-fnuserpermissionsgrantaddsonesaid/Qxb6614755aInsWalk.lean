/- FnNameSetSortedInsertOne: the walk. -/
import Derived.Test.Qxb6614755aCutWalk
import Derived.Test.Qxb6614755aInsPlain
namespace Go.Proofs.Qxb6614755a
open Go.RowKit Go.Maps Go.Sort Go.WideMaps

theorem SortedRow.cellAt {w w' : World} {g m : Nat} {S : Nat → ByteArray} {mem : Bs → Bool} (h : SortedRow w (some ⟨g, 0, none⟩) m S mem) (hd : Drew w w') {k : Nat} (hk : k < m) : w'.cell? ⟨g, k, none⟩ = some (.string (S k)) := by
  obtain ⟨b, off, e1, hc⟩ := h.strs.at hk
  cases e1
  have := (hd.cell _).trans (hc k hk)
  rwa [Nat.zero_add] at this

theorem SortedRow.grown {w w' : World} {g m b : Nat} {S : Nat → ByteArray} {mem : Bs → Bool} (h : SortedRow w (some ⟨g, 0, none⟩) m S mem) (hg : w.grownBy w' (some b)) (hne : g ≠ b) : SortedRow w' (some ⟨g, 0, none⟩) m S mem := by
  refine ⟨?_, h.inc, h.has⟩
  rcases h.strs with h1 | ⟨b', off, h1, h2, h3⟩
  · exact .inl h1
  · cases h1
    exact .inr ⟨_, _, rfl, Nat.lt_of_lt_of_le h2 hg.size, fun j hj => hg.cell (h3 j hj) (by simp [hne])⟩

/-- One round's set. -/
def One (wr : World) (S : Nat → ByteArray) (B k : Nat) : Prop := ∃ D, wr.ownsMap Try.prog 9 (unitElem (H := Unit)) B k D ∧ HasIn D S 0 k

theorem bytes_beq {a b : ByteArray} (h : a.toList = b.toList) : (a.toList == b.toList) = true := by rw [beq_iff_eq]; exact h

set_option maxRecDepth 100000 in
set_option maxHeartbeats 2000000 in
theorem ins_walk (a : Option Addr) (n cap : Nat) (S : Nat → ByteArray) (x : ByteArray) (w : World) (hn : n ≤ maxLen) (h : Strs w a n S) (hsz : ∀ j, j < n → (S j).size ≤ maxLen) :
    Calls Try.prog 6 #[.slice a n cap, .string x] w fun e w' => e = .returned (.bool true) ∧ Below w.heap.size w w' := by
  have hmm := @run_makeMap Try.prog
  have C1 := hide (bytes27_any a n cap S x w hn h)
  have H : Hid (Strs w a n S) := h
  have HZ : Hid (∀ j, j < n → (S j).size ≤ maxLen) := hsz
  clear h hsz
  go_enter Try.func6, Try.ntmps6
  go_wp2_with fail
  refine C1.out.mono ?_
  rintro e w' ⟨r, rfl, hr, rfl⟩
  cases r
  · go_wp2
    go_ret
    exact ⟨rfl, Below.refl _ _⟩
  obtain ⟨hn1, hx1⟩ := hr rfl
  have t0 : decide (1048576 < (x.size : Int)) = false := decide_eq_false (by omega)
  clear hr C1
  go_wp2_with fail
  refine (stringsBytes_any a n cap S (x.size : Int) _ hn H.out (by omega)).mono ?_
  rintro e w1 ⟨t, rfl, ht, hd⟩
  by_cases hbig : 1048576 < t
  · go_wp2
    go_ret
    exact ⟨rfl, hd.below _⟩
  have t1 : decide (1048576 < t) = false := decide_eq_false hbig
  clear hbig
  have HC : Hid (∀ k, k < n → ∃ b off, a = some ⟨b, off, none⟩ ∧ b < w1.heap.size ∧ w1.cell? ⟨b, off + k, none⟩ = some (.string (S k))) := fun k hk => by
    rcases hd.strs H.out with h1 | ⟨b, off, h1, h2, h3⟩
    · omega
    · exact ⟨b, off, h1, h2, h3 k hk⟩
  go_wp2
  clear hmm
  go_loopw [6] (fun i wr => ∃ k : Nat, k ≤ n ∧ i = .int .i64 k ∧ Hid (One wr S w1.heap.size k) ∧ Hid (Below w1.heap.size w1 wr)) (fun i _ => n - (intOf i).toNat)
  case atStart =>
    exact ⟨0, Nat.zero_le _, rfl, ⟨.map [], World.ownsMap_made _ _ _ _, hasIn_empty S 0⟩, (Below.refl _ _).alloc (Nat.le_refl _) _⟩
  case round =>
    obtain ⟨k, hk, rfl, hT, hB⟩ := hrel
    by_cases hlt : k < n
    · obtain ⟨b, off, rfl, hbl, hck⟩ := HC.out k hlt
      have hck := (hB.out.cell (p := ⟨b, off + k, none⟩) hbl).trans hck
      obtain ⟨D, how, hw1⟩ := hT.out
      have HW := hide hw1
      have hkey : keyOf Try.prog 9 (.string (S k)) = some (.string (tl S k)) := by rw [← tl_data]; exact keyOf_string_mk Try.underlying9 (HZ.out k hlt)
      clear hw1 hT
      go_wp2_with (at_mapUpdate; refine wpList_mapUpdate_own _ rfl _ _ _ 36 rfl 9 37 law9 Try.underlying36 (unitElem (H := Unit)) w1.heap.size k _ rfl how (by unfold maxLen; omega) _ _ _ rfl rfl hkey _ [] unitElem_mk ?_; intro w2 how2 hg2)
      go_roundw
      case rel =>
        exact ⟨k + 1, by omega, by go_num, ⟨_, how2, hasIn_put HW.out (Nat.zero_le _) how.isMap⟩, hB.out.grown hg2 hB.out.size (fun j hj => by cases hj; exact Nat.le_refl _)⟩
      case measure => simp [intOf]; omega
    · have hkn : k = n := by omega
      subst hkn
      obtain ⟨D, how, hw1⟩ := hT.out
      have HW := hide hw1
      have HO := hide how
      have hkey : keyOf Try.prog 9 (.string x) = some (.string x.toList) := by rw [ByteArray.toList_eq]; exact keyOf_string_mk Try.underlying9 (by unfold maxLen; omega)
      have hIM := hide how.isMap
      clear hw1 hT how
      go_wp2_with fail
      refine (nameSetSorted_any _ k D _ HO.out (by omega)).mono ?_
      rintro e w2 ⟨g1, cap1, m1, S1, rfl, hm1, hS1, hb1, hge1⟩
      have how2 := HO.out.kept (grown_of_below hb1) (by simp)
      go_wp2_with (first
        | (at_mapUpdate; refine wpList_mapUpdate_own _ rfl _ _ _ 36 rfl 9 37 law9 Try.underlying36 (unitElem (H := Unit)) w1.heap.size k _ rfl how2 (by unfold maxLen; omega) _ _ _ rfl rfl hkey _ [] unitElem_mk ?_; intro w3 how3 hg3))
      refine (nameSetSorted_any _ (k + 1) _ _ how3 (by omega)).mono ?_
      rintro e w4 ⟨g2, cap2, m2, S2, rfl, hm2, hS2, hb2, _⟩
      have hs1 := hB.out.size
      have hlt0 : w1.heap.size < wr.heap.size := HO.out.lt
      have hS1' := (hS1.grown hg3 (by omega)).below hb2
      have hBB := ((hB.out.trans (hb1.mono hs1)).grown hg3 (Nat.le_trans hs1 hb1.size) (fun j hj => by cases hj; exact Nat.le_refl _)).trans (hb2.mono (Nat.le_trans (Nat.le_trans hs1 hb1.size) hg3.size))
      have hN := strs_below hBB (hd.strs H.out)
      have hmem : ∀ y : Bs, Maps.has (D.put (.string x.toList) (.agg [])) (.string y) = true ↔ Maps.has D (.string y) = true ∨ y = x.toList := fun y => by
        by_cases e : y = x.toList
        · subst e
          rw [Maps.has_put_same hIM.out (by trivial)]
          simp
        · rw [Maps.has_put_other (fun h => e (by injection h))]
          simp [e]
      have Z : Hid (SortedRow w4 (some ⟨g1, 0, none⟩) m1 S1 (fun x => Maps.has D (.string x)) ∧ SortedRow w4 (some ⟨g2, 0, none⟩) m2 S2 (fun y => Maps.has (D.put (.string x.toList) (.agg [])) (.string y)) ∧ Strs w4 a k S ∧ Below w1.heap.size w1 w4) := ⟨hS1', hS2, hN, hBB⟩
      have HM := hide hmem
      clear hS1 hS2 hS1' hBB hN HO hb1 hb2 hB HC H hg3 how2 how3 hs1 hlt0 hge1 hkey hmem hIM
      have hnil := nil22
      unfold maxLen at hn
      have hM : m1 ≤ maxLen ∧ m2 ≤ maxLen := by unfold maxLen; omega
      go_wp2_with fail
      refine (Z.out.1.increasing hM.1 _).mono ?_
      rintro e w5 ⟨rfl, d5⟩
      clear hnil
      go_wp2_with fail
      go_loopw [9] (fun i wr' => ∃ j : Nat, j ≤ k ∧ i = .int .i64 j ∧ Hid (Drew w4 wr')) (fun i _ => k - (intOf i).toNat)
      case atStart => exact ⟨0, Nat.zero_le _, rfl, d5⟩
      case round =>
        obtain ⟨j, hj, rfl, hw⟩ := hrel
        by_cases hlt2 : j < k
        · obtain ⟨b, off, rfl, hc⟩ := Z.out.2.2.1.at hlt2
          have hcj := (hw.out.cell _).trans (hc j hlt2)
          clear hc
          go_wp2_with fail
          refine ((Z.out.1.drew hw.out).sortedHas hM.1 _ (S j) ((HW.out (tl S j)).2 ⟨j, Nat.zero_le _, hlt2, rfl⟩)).mono ?_
          rintro e w8 ⟨rfl, d8⟩
          go_wp2_with fail
          go_roundw
          case rel => exact ⟨j + 1, by omega, by go_num, hw.out.trans d8⟩
          case measure => simp [intOf]; omega
        · clear d5
          go_wp2_with fail
          go_loopw [10] (fun i wr' => ∃ j : Nat, j ≤ m1 ∧ i = .int .i64 j ∧ Hid (Drew w4 wr')) (fun i _ => m1 - (intOf i).toNat)
          case atStart => exact ⟨0, Nat.zero_le _, rfl, hw⟩
          case round =>
            obtain ⟨j', hj', rfl, hw'⟩ := hrel
            by_cases hlt3 : j' < m1
            · have hcj := Z.out.1.cellAt hw'.out hlt3
              have hin : hasB k S (S1 j') = true := by
                obtain ⟨p, _, hp, e⟩ := (HW.out _).1 ((Z.out.1.has (tl S1 j')).1 ⟨j', hlt3, rfl⟩)
                exact hasB_true hp (by rw [beq_iff_eq]; exact e)
              have hcon := contains_any a k cap S (S1 j') _ (by unfold maxLen; omega) (hw'.out.strs Z.out.2.2.1)
              rw [hin] at hcon
              have HCON := hide hcon
              clear hin hcon
              go_wp2_with fail
              refine (unhide HCON).mono ?_
              rintro e w8 ⟨rfl, rfl⟩
              go_wp2_with fail
              go_roundw
              case rel => exact ⟨j' + 1, by omega, by go_num, hw'⟩
              case measure => simp [intOf]; omega
            · clear hw
              have HCON := hide (contains_any a k cap S x _ (by unfold maxLen; omega) (hw'.out.strs Z.out.2.2.1))
              go_wp2_with fail
              refine (unhide HCON).mono ?_
              rintro e w8 ⟨rfl, rfl⟩
              clear HCON
              have fin : ∀ w9, Drew w8 w9 → Below w'.heap.size w' w9 := fun w9 d9 => (hd.below _).trans ((Z.out.2.2.2.mono (by rw [hd.heap]; exact Nat.le_refl _)).trans ((hw'.out.trans d9).below _))
              have FIN := hide fin
              clear fin
              by_cases hxin : hasB k S x = true
              · have hsame := rows_same (lt := fun a b : Bs => a < b) bs_irrefl (fun _ _ _ h1 h2 => bs_trans h1 h2) Z.out.1.inc Z.out.2.1.inc (fun y => by
                  rw [Z.out.1.has, Z.out.2.1.has, HM.out y]
                  constructor
                  · intro h; exact .inl h
                  · rintro (h | h)
                    · exact h
                    · subst h
                      unfold hasB at hxin
                      obtain ⟨p, hp, e⟩ := List.any_eq_true.1 hxin
                      exact (HW.out _).2 ⟨p, Nat.zero_le _, by simpa using hp, beq_iff_eq.1 e⟩)
                obtain ⟨e12, hsame⟩ := hsame
                subst e12
                have HE := hide (stringsEqual_yes (some ⟨g1, 0, none⟩) (some ⟨g2, 0, none⟩) m1 cap1 cap2 S1 S2 _ hM.1 (hw'.out.strs Z.out.1.strs) (hw'.out.strs Z.out.2.1.strs) (fun j hj => bytes_beq (hsame j hj)))
                clear hsame
                rw [hxin]
                clear hxin
                go_wp2_with fail
                refine (unhide HE).mono ?_
                rintro e w9 ⟨rfl, d9⟩
                go_wp2_with fail
                go_ret
                exact ⟨rfl, FIN.out _ d9⟩
              · have hxf : hasB k S x = false := by simpa using hxin
                rw [hxf]
                have hins := rows_insert (lt := fun a b : Bs => a < b) (x := x.toList) bs_irrefl (fun _ _ _ h1 h2 => bs_trans h1 h2) Z.out.1.inc Z.out.2.1.inc (fun y => by rw [Z.out.1.has, Z.out.2.1.has, HM.out y]) (fun j hj => by
                  rcases bs_tri (tl S1 j) x.toList with h | h | h
                  · exact .inl h
                  · exfalso
                    obtain ⟨p, _, hp, e⟩ := (HW.out _).1 ((Z.out.1.has (tl S1 j)).1 ⟨j, hj, rfl⟩)
                    exact hxin (hasB_true hp (by rw [beq_iff_eq]; exact e.trans h))
                  · exact .inr h)
                obtain ⟨e12, p, hp, q1, q2, q3, q4, q5⟩ := hins
                have HQ := hide (And.intro q1 (And.intro q2 (And.intro q3 (And.intro q4 q5))))
                subst e12
                clear hxin hxf q1 q2 q3 q4 q5 HM HW
                go_wp2_with fail
                go_loopw [11] (fun i wr' => ∃ j : Nat, j ≤ p ∧ i = .int .i64 j ∧ Hid (Drew w8 wr')) (fun i _ => p - (intOf i).toNat)
                case atStart => exact ⟨0, Nat.zero_le _, rfl, Drew.refl _⟩
                case round =>
                  obtain ⟨j2, hj2, rfl, hw2⟩ := hrel
                  have W2 := hide (hw'.out.trans hw2.out)
                  by_cases hjp : j2 < p
                  · have hcj := Z.out.1.cellAt W2.out (show j2 < m1 by omega)
                    have tb : Op.bytesLess (S1 j2).toList x.toList = true := less_yes (HQ.out.1 j2 hjp)
                    have g1' : decide (j2 < m1) = true := decide_eq_true (by omega)
                    go_wp2_with fail
                    go_roundw
                    case rel => exact ⟨j2 + 1, by omega, by go_num, hw2⟩
                    case measure => simp [intOf]; omega
                  · have ejp : j2 = p := by omega
                    subst ejp
                    have hcp := Z.out.2.1.cellAt W2.out (show j2 < m1 + 1 by omega)
                    have tp : ((S2 j2).toList == x.toList) = true := bytes_beq HQ.out.2.2.2.1
                    by_cases hjm : j2 < m1
                    · have hcj := Z.out.1.cellAt W2.out hjm
                      have tb : Op.bytesLess (S1 j2).toList x.toList = false := less_no (HQ.out.2.1 j2 (Nat.le_refl _) hjm)
                      have g1' : decide (j2 < m1) = true := decide_eq_true hjm
                      go_wp2_with fail
                      go_loopw [12] (fun i wr' => ∃ j : Nat, j ≤ j2 ∧ i = .int .i64 j ∧ Hid (Drew w8 wr')) (fun i _ => j2 - (intOf i).toNat)
                      case atStart => exact ⟨0, Nat.zero_le _, rfl, hw2⟩
                      case round =>
                        obtain ⟨j3, hj3, rfl, hw3⟩ := hrel
                        have W3 := hide (hw'.out.trans hw3.out)
                        by_cases hj3p : j3 < j2
                        · have hc1 := Z.out.1.cellAt W3.out (show j3 < m1 by omega)
                          have hc2 := Z.out.2.1.cellAt W3.out (show j3 < m1 + 1 by omega)
                          have te : ((S2 j3).toList == (S1 j3).toList) = true := bytes_beq (HQ.out.2.2.1 j3 hj3p)
                          go_wp2_with fail
                          go_quiet (fail)
                          go_wp2_with fail
                          go_roundw
                          case rel => exact ⟨j3 + 1, by omega, by go_num, hw3.out.drewN _⟩
                          case measure => simp [intOf]; omega
                        · have hcp := Z.out.2.1.cellAt W3.out (show j2 < m1 + 1 by omega)
                          go_wp2_with fail
                          go_loopw [13] (fun i wr' => ∃ j : Nat, j2 ≤ j ∧ j ≤ m1 ∧ i = .int .i64 j ∧ Hid (Drew w8 wr')) (fun i _ => m1 - (intOf i).toNat)
                          case atStart => exact ⟨j2, Nat.le_refl _, by omega, rfl, hw3⟩
                          case round =>
                            obtain ⟨j4, hj4, hj4', rfl, hw4⟩ := hrel
                            have W4 := hide (hw'.out.trans hw4.out)
                            by_cases hj4m : j4 < m1
                            · have hc1 := Z.out.1.cellAt W4.out hj4m
                              have hc2 := Z.out.2.1.cellAt W4.out (show j4 + 1 < m1 + 1 by omega)
                              have te : ((S2 (j4 + 1)).toList == (S1 j4).toList) = true := bytes_beq (HQ.out.2.2.2.2 j4 hj4 hj4m)
                              go_wp2_with fail
                              go_quiet (fail)
                              go_wp2_with fail
                              go_roundw
                              case rel => exact ⟨j4 + 1, by omega, by omega, by go_num, hw4.out.drewN _⟩
                              case measure => simp [intOf]; omega
                            · go_wp2_with fail
                              go_ret
                              exact ⟨rfl, FIN.out _ hw4.out⟩
                    · have g1' : decide (j2 < m1) = false := decide_eq_false hjm
                      go_wp2_with fail
                      go_loopw [12] (fun i wr' => ∃ j : Nat, j ≤ j2 ∧ i = .int .i64 j ∧ Hid (Drew w8 wr')) (fun i _ => j2 - (intOf i).toNat)
                      case atStart => exact ⟨0, Nat.zero_le _, rfl, hw2⟩
                      case round =>
                        obtain ⟨j3, hj3, rfl, hw3⟩ := hrel
                        have W3 := hide (hw'.out.trans hw3.out)
                        by_cases hj3p : j3 < j2
                        · have hc1 := Z.out.1.cellAt W3.out (show j3 < m1 by omega)
                          have hc2 := Z.out.2.1.cellAt W3.out (show j3 < m1 + 1 by omega)
                          have te : ((S2 j3).toList == (S1 j3).toList) = true := bytes_beq (HQ.out.2.2.1 j3 hj3p)
                          go_wp2_with fail
                          go_quiet (fail)
                          go_wp2_with fail
                          go_roundw
                          case rel => exact ⟨j3 + 1, by omega, by go_num, hw3.out.drewN _⟩
                          case measure => simp [intOf]; omega
                        · have hcp := Z.out.2.1.cellAt W3.out (show j2 < m1 + 1 by omega)
                          go_wp2_with fail
                          go_loopw [13] (fun i wr' => ∃ j : Nat, j2 ≤ j ∧ j ≤ m1 ∧ i = .int .i64 j ∧ Hid (Drew w8 wr')) (fun i _ => m1 - (intOf i).toNat)
                          case atStart => exact ⟨j2, Nat.le_refl _, by omega, rfl, hw3⟩
                          case round =>
                            obtain ⟨j4, hj4, hj4', rfl, hw4⟩ := hrel
                            have W4 := hide (hw'.out.trans hw4.out)
                            by_cases hj4m : j4 < m1
                            · have hc1 := Z.out.1.cellAt W4.out hj4m
                              have hc2 := Z.out.2.1.cellAt W4.out (show j4 + 1 < m1 + 1 by omega)
                              have te : ((S2 (j4 + 1)).toList == (S1 j4).toList) = true := bytes_beq (HQ.out.2.2.2.2 j4 hj4 hj4m)
                              go_wp2_with fail
                              go_quiet (fail)
                              go_wp2_with fail
                              go_roundw
                              case rel => exact ⟨j4 + 1, by omega, by omega, by go_num, hw4.out.drewN _⟩
                              case measure => simp [intOf]; omega
                            · go_wp2_with fail
                              go_ret
                              exact ⟨rfl, FIN.out _ hw4.out⟩
end Go.Proofs.Qxb6614755a
