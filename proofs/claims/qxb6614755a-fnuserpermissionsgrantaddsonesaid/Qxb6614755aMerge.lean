/- The walk of zzIsMergeUnionStr. -/
import Derived.Test.Qxb6614755aBase
import Derived.Test.Qxb6614755aPlain
import Derived.Deep.Light
import Derived.Sort.Walk0
namespace Go.Proofs.Qxb6614755a
open Go.RowKit

/-- A row of strings as a row of byte lists. -/
def tl (S : Nat → ByteArray) (i : Nat) : Bs := (S i).toList

theorem less_yes {x y : Bs} (h : x < y) : Op.bytesLess x y = true := by rw [bytesLess_eq]; simpa using h
theorem less_no {x y : Bs} (h : ¬ x < y) : Op.bytesLess x y = false := by rw [bytesLess_eq]; simpa using h

set_option maxRecDepth 100000 in
set_option maxHeartbeats 1000000 in
theorem mergeUnion_yes (c a b : Option Addr) (nc na nb capc capa capb : Nat) (C A B : Nat → ByteArray) (w : World) (hnc : nc ≤ maxLen) (hna : na ≤ maxLen) (hnb : nb ≤ maxLen)
    (hC : Strs w c nc C) (hA : Strs w a na A) (hB : Strs w b nb B) (hu : Un (lst nc (tl C)) (lst na (tl A)) (lst nb (tl B))) :
    Calls Try.prog 26 #[.slice c nc capc, .slice a na capa, .slice b nb capb] w fun e w' => e = .returned (.bool true) ∧ Drew w w' := by
  unfold maxLen at hnc hna hnb
  have HC : Hid (Strs w c nc C) := hC
  have HA : Hid (Strs w a na A) := hA
  have HB : Hid (Strs w b nb B) := hB
  have HU : Hid (Un (lst nc (tl C)) (lst na (tl A)) (lst nb (tl B))) := hu
  clear hC hA hB hu
  go_enter Try.func26, Try.ntmps26
  go_wp2
  go_loopw [7, 8, 9, 10] (fun iv jv kv _ wr => ∃ i j k : Nat, i ≤ na ∧ j ≤ nb ∧ k ≤ nc ∧ iv = .int .i64 i ∧ jv = .int .i64 j ∧ kv = .int .i64 k ∧ Hid (Drew w wr) ∧
      Hid (Un ((lst nc (tl C)).drop k) ((lst na (tl A)).drop i) ((lst nb (tl B)).drop j))) (fun iv jv _ _ _ => na + nb - (intOf iv).toNat - (intOf jv).toNat)
  case atStart => exact ⟨0, 0, 0, Nat.zero_le _, Nat.zero_le _, Nat.zero_le _, rfl, rfl, rfl, Drew.refl _, HU.out⟩
  case round =>
    obtain ⟨i, j, k, hi, hj, hk, rfl, rfl, rfl, hw, hv⟩ := hrel
    clear HU
    by_cases hin : i < na
    · by_cases hjn : j < nb
      · have g1 : decide (nb ≤ j) = false := decide_eq_false (by omega)
        have g2 : decide (na ≤ i) = false := decide_eq_false (by omega)
        obtain ⟨ba, offa, rfl, hca⟩ := HA.out.at hin
        obtain ⟨bb, offb, rfl, hcb⟩ := HB.out.at hjn
        have hai := (hw.out.cell _).trans (hca i hin)
        have hbj := (hw.out.cell _).trans (hcb j hjn)
        clear hca hcb
        rcases bs_tri (tl A i) (tl B j) with ht | ht | ht
        · obtain ⟨hkn, he, hv'⟩ := un_stepL hv.out hin (.inr ⟨hjn, ht⟩)
          obtain ⟨bc, offc, rfl, hcc⟩ := HC.out.at hkn
          have hck := (hw.out.cell _).trans (hcc k hkn)
          have t1 : Op.bytesLess (A i).toList (B j).toList = true := less_yes ht
          have t2 : ((C k).toList == (A i).toList) = true := by rw [beq_iff_eq]; exact he
          have V : Hid (Un ((lst nc (tl C)).drop (k + 1)) ((lst na (tl A)).drop (i + 1)) ((lst nb (tl B)).drop j)) := hv'
          clear hcc ht he hv' hv
          go_wp2
          go_quiet (fail)
          go_wp2
          go_roundw
          case rel => exact ⟨i + 1, j, k + 1, by omega, by omega, by omega, by go_num, rfl, by go_num, hw.out.drewN _, V⟩
          case measure => simp [intOf]; omega
        · obtain ⟨hkn, he, hv'⟩ := un_stepB hv.out hin hjn ht
          obtain ⟨bc, offc, rfl, hcc⟩ := HC.out.at hkn
          have hck := (hw.out.cell _).trans (hcc k hkn)
          have t1 : Op.bytesLess (A i).toList (B j).toList = false := less_no (by show ¬ tl A i < tl B j; rw [ht]; exact bs_irrefl _)
          have t3 : Op.bytesLess (B j).toList (A i).toList = false := less_no (by show ¬ tl B j < tl A i; rw [ht]; exact bs_irrefl _)
          have t2 : ((C k).toList == (A i).toList) = true := by rw [beq_iff_eq]; exact he
          have V : Hid (Un ((lst nc (tl C)).drop (k + 1)) ((lst na (tl A)).drop (i + 1)) ((lst nb (tl B)).drop (j + 1))) := hv'
          clear hcc ht he hv' hv
          go_wp2
          go_quiet (fail)
          go_wp2
          go_quiet (fail)
          go_wp2
          go_roundw
          case rel => exact ⟨i + 1, j + 1, k + 1, by omega, by omega, by omega, by go_num, by go_num, by go_num, hw.out.drewN _, V⟩
          case measure => simp [intOf]; omega
        · obtain ⟨hkn, he, hv'⟩ := un_stepR hv.out hjn (.inr ⟨hin, ht⟩)
          obtain ⟨bc, offc, rfl, hcc⟩ := HC.out.at hkn
          have hck := (hw.out.cell _).trans (hcc k hkn)
          have t1 : Op.bytesLess (A i).toList (B j).toList = false := less_no (bs_asymm ht)
          have t3 : Op.bytesLess (B j).toList (A i).toList = true := less_yes ht
          have t2 : ((C k).toList == (B j).toList) = true := by rw [beq_iff_eq]; exact he
          have V : Hid (Un ((lst nc (tl C)).drop (k + 1)) ((lst na (tl A)).drop i) ((lst nb (tl B)).drop (j + 1))) := hv'
          clear hcc ht he hv' hv
          go_wp2
          go_quiet (fail)
          go_wp2
          go_quiet (fail)
          go_wp2
          go_roundw
          case rel => exact ⟨i, j + 1, k + 1, by omega, by omega, by omega, rfl, by go_num, by go_num, hw.out.drewN _, V⟩
          case measure => simp [intOf]; omega
      · have g1 : decide (nb ≤ j) = true := decide_eq_true (by omega)
        obtain ⟨ba, offa, rfl, hca⟩ := HA.out.at hin
        have hai := (hw.out.cell _).trans (hca i hin)
        obtain ⟨hkn, he, hv'⟩ := un_stepL hv.out hin (.inl (by omega))
        obtain ⟨bc, offc, rfl, hcc⟩ := HC.out.at hkn
        have hck := (hw.out.cell _).trans (hcc k hkn)
        have t2 : ((C k).toList == (A i).toList) = true := by rw [beq_iff_eq]; exact he
        have V : Hid (Un ((lst nc (tl C)).drop (k + 1)) ((lst na (tl A)).drop (i + 1)) ((lst nb (tl B)).drop j)) := hv'
        clear hcc hca he hv' hv
        go_wp2
        go_quiet (fail)
        go_wp2
        go_roundw
        case rel => exact ⟨i + 1, j, k + 1, by omega, by omega, by omega, by go_num, rfl, by go_num, hw.out.drewN _, V⟩
        case measure => simp [intOf]; omega
    · by_cases hjn : j < nb
      · have g1 : decide (nb ≤ j) = false := decide_eq_false (by omega)
        have g2 : decide (na ≤ i) = true := decide_eq_true (by omega)
        have g3 : decide (i < na) = false := decide_eq_false (by omega)
        obtain ⟨bb, offb, rfl, hcb⟩ := HB.out.at hjn
        have hbj := (hw.out.cell _).trans (hcb j hjn)
        obtain ⟨hkn, he, hv'⟩ := un_stepR hv.out hjn (.inl (by omega))
        obtain ⟨bc, offc, rfl, hcc⟩ := HC.out.at hkn
        have hck := (hw.out.cell _).trans (hcc k hkn)
        have t2 : ((C k).toList == (B j).toList) = true := by rw [beq_iff_eq]; exact he
        have V : Hid (Un ((lst nc (tl C)).drop (k + 1)) ((lst na (tl A)).drop i) ((lst nb (tl B)).drop (j + 1))) := hv'
        clear hcc hcb he hv' hv
        go_wp2
        go_quiet (fail)
        go_wp2
        go_quiet (fail)
        go_wp2
        go_roundw
        case rel => exact ⟨i, j + 1, k + 1, by omega, by omega, by omega, rfl, by go_num, by go_num, hw.out.drewN _, V⟩
        case measure => simp [intOf]; omega
      · have hkn : k = nc := un_end hv.out (by omega) (by omega) hk
        subst hkn
        clear hv
        go_wp2
        go_ret
        exact ⟨rfl, hw.out⟩
end Go.Proofs.Qxb6614755a
