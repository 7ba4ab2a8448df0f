/- zzNamesAreSetMinus (20); the guards on length 9 and 21. -/
import Derived.Test.Qxb6614755aInsWalk
namespace Go.Proofs.Qxb6614755a
open Go.RowKit Go.Maps Go.Sort Go.WideMaps

theorem hasB_iff {n : Nat} {S : Nat → ByteArray} {x : ByteArray} : hasB n S x = true ↔ ∃ j, j < n ∧ tl S j = x.toList := by
  unfold hasB
  rw [List.any_eq_true]
  constructor
  · rintro ⟨j, hj, e⟩; exact ⟨j, by simpa using hj, beq_iff_eq.1 e⟩
  · rintro ⟨j, hj, e⟩; exact ⟨j, by simpa using hj, beq_iff_eq.2 e⟩

theorem contains_yes {a : Option Addr} {n : Nat} (cap : Nat) {S : Nat → ByteArray} {x : ByteArray} {w : World} (hn : n ≤ maxLen) (h : Strs w a n S) (hb : hasB n S x = true) :
    Calls Try.prog 19 #[.slice a n cap, .string x] w fun e w' => e = .returned (.bool true) ∧ w' = w := by
  have := contains_any a n cap S x w hn h
  rwa [hb] at this
theorem contains_no {a : Option Addr} {n : Nat} (cap : Nat) {S : Nat → ByteArray} {x : ByteArray} {w : World} (hn : n ≤ maxLen) (h : Strs w a n S) (hb : hasB n S x = false) :
    Calls Try.prog 19 #[.slice a n cap, .string x] w fun e w' => e = .returned (.bool false) ∧ w' = w := by
  have := contains_any a n cap S x w hn h
  rwa [hb] at this

set_option maxRecDepth 100000 in
set_option maxHeartbeats 1000000 in
theorem setMinus_yes (g m capg : Nat) (G : Nat → ByteArray) (mem : Bs → Bool) (a a2 : Option Addr) (n n2 cap cap2 : Nat) (S S2 : Nat → ByteArray) (w : World) (hm : m ≤ maxLen) (hn : n ≤ maxLen) (hn2 : n2 ≤ maxLen)
    (hG : SortedRow w (some ⟨g, 0, none⟩) m G mem) (hS : Strs w a n S) (hS2 : Strs w a2 n2 S2)
    (hmem : ∀ x : Bs, mem x = true ↔ (∃ j, j < n ∧ tl S j = x) ∧ ¬ ∃ j, j < n2 ∧ tl S2 j = x) :
    Calls Try.prog 20 #[.slice (some ⟨g, 0, none⟩) m capg, .slice a n cap, .slice a2 n2 cap2] w fun e w' => e = .returned (.bool true) ∧ Drew w w' := by
  have M := hide (And.intro hm (And.intro hn hn2))
  unfold maxLen at hm hn hn2
  have Z := hide (And.intro hG (And.intro hS hS2))
  have HM := hide hmem
  have hnil := nil22
  clear hG hS hS2 hmem
  go_enter Try.func20, Try.ntmps20
  go_wp2_with fail
  refine (Z.out.1.increasing M.out.1 _).mono ?_
  rintro e w1 ⟨rfl, d1⟩
  clear hnil
  have D1 := hide d1
  clear d1
  go_wp2_with fail
  go_loopw [7] (fun i wr => ∃ k : Nat, k ≤ m ∧ i = .int .i64 k ∧ Hid (Drew w wr)) (fun i _ => m - (intOf i).toNat)
  case atStart => exact ⟨0, Nat.zero_le _, rfl, D1⟩
  case round =>
    obtain ⟨k, hk, rfl, hw⟩ := hrel
    by_cases hlt : k < m
    · have hck := Z.out.1.cellAt hw.out hlt
      have hx := (HM.out _).1 ((Z.out.1.has (tl G k)).1 ⟨k, hlt, rfl⟩)
      have C1 := hide (contains_yes cap M.out.2.1 (hw.out.strs Z.out.2.1) (hasB_iff.2 hx.1))
      have C2 := hide (contains_no cap2 M.out.2.2 (hw.out.strs Z.out.2.2) (by rw [← Bool.not_eq_true]; exact fun h => hx.2 (hasB_iff.1 h)))
      clear hx
      go_wp2_with fail
      refine (unhide C1).mono ?_
      rintro e w2 ⟨rfl, rfl⟩
      go_wp2_with fail
      refine (unhide C2).mono ?_
      rintro e w2 ⟨rfl, rfl⟩
      go_wp2_with fail
      go_roundw
      case rel => exact ⟨k + 1, by omega, by go_num, hw⟩
      case measure => simp [intOf]; omega
    · clear D1
      go_wp2_with fail
      go_loopw [8] (fun i wr => ∃ k : Nat, k ≤ n ∧ i = .int .i64 k ∧ Hid (Drew w wr)) (fun i _ => n - (intOf i).toNat)
      case atStart => exact ⟨0, Nat.zero_le _, rfl, hw⟩
      case round =>
        obtain ⟨k2, hk2, rfl, hw2⟩ := hrel
        by_cases hlt2 : k2 < n
        · obtain ⟨b, off, rfl, hc⟩ := Z.out.2.1.at hlt2
          have hck := (hw2.out.cell _).trans (hc k2 hlt2)
          clear hc
          by_cases hin : hasB n2 S2 (S k2) = true
          · have C1 := hide (contains_yes cap2 M.out.2.2 (hw2.out.strs Z.out.2.2) hin)
            clear hin
            go_wp2_with fail
            refine (unhide C1).mono ?_
            rintro e w2 ⟨rfl, rfl⟩
            go_wp2_with fail
            go_roundw
            case rel => exact ⟨k2 + 1, by omega, by go_num, hw2⟩
            case measure => simp [intOf]; omega
          · have hout : hasB n2 S2 (S k2) = false := by simpa using hin
            have C1 := hide (contains_no cap2 M.out.2.2 (hw2.out.strs Z.out.2.2) hout)
            have C2 := hide ((Z.out.1.drew hw2.out).sortedHas M.out.1 capg (S k2) ((HM.out _).2 ⟨⟨k2, hlt2, rfl⟩, fun h => hin (hasB_iff.2 h)⟩))
            clear hin hout
            go_wp2_with fail
            refine (unhide C1).mono ?_
            rintro e w2 ⟨rfl, rfl⟩
            go_wp2_with fail
            refine (unhide C2).mono ?_
            rintro e w3 ⟨rfl, d3⟩
            go_wp2_with fail
            go_roundw
            case rel => exact ⟨k2 + 1, by omega, by go_num, hw2.out.trans d3⟩
            case measure => simp [intOf]; omega
        · go_wp2_with fail
          go_ret
          exact ⟨rfl, hw2.out⟩
end Go.Proofs.Qxb6614755a
