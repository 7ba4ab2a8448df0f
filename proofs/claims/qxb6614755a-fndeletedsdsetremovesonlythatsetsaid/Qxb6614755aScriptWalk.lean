/- FnDeleteDsdSetScript: the walk. -/
import Derived.Test.Qxb6614755aPol
namespace Go.Proofs.Qxb6614755a
open Go.RowKit Go.Maps Go.Sort Go.WideMaps

def sRa : ByteArray := ⟨#[114, 97]⟩
def sRb : ByteArray := ⟨#[114, 98]⟩

/-- The policy behind k sets laid into its DSD map. -/
def Laid (w1 wr : World) (S : Nat → ByteArray) (k : Nat) : Prop := ∃ D, DInv w1 wr k D ∧ HasP D S k
/-- .. and behind i deletions. -/
def Struck (w1 wr : World) (S : Nat → ByteArray) (n : Nat) (S2 : Nat → ByteArray) (i : Nat) : Prop := ∃ D, DInv w1 wr n D ∧ HasM D S n S2 i

theorem bytes_eq {a b : ByteArray} (h : a.toList = b.toList) : a = b := by
  rw [ByteArray.toList_eq, ByteArray.toList_eq] at h
  exact Go.WideShapes.bytes_inj h

theorem strs_prefix {w : World} {a : Option Addr} {n q : Nat} {S : Nat → ByteArray} (h : Strs w a n S) (hq : q ≤ n) : Strs w a q S := by
  rcases h with h | ⟨b, off, h1, h2, h3⟩
  · exact .inl (by omega)
  · exact .inr ⟨b, off, h1, h2, fun j hj => h3 j (by omega)⟩

/-- A name that is no valid one is none of valid names. -/
theorem bad_not_in {D : DataW (Option Addr)} {S S2 : Nat → ByteArray} {n i : Nat} (h : HasM D S n S2 i) (hv : ∀ j, j < n → Valid (S j)) {x : ByteArray} (hx : ¬ Valid x) : Maps.has D (.string x.toList) = false := by
  rw [← Bool.not_eq_true]
  intro hh
  obtain ⟨⟨j, hj, e⟩, _⟩ := (h _).1 hh
  have e' : S j = x := bytes_eq e
  exact hx (e' ▸ hv j hj)

set_option maxRecDepth 100000 in
set_option maxHeartbeats 2000000 in
theorem script_walk (a a2 : Option Addr) (n n2 cap cap2 : Nat) (S S2 : Nat → ByteArray) (w : World) (hn : n ≤ maxLen) (hn2 : n2 ≤ maxLen) (hcap2 : n2 ≤ cap2) (h : Strs w a n S) (h2 : Strs w a2 n2 S2) (hsz : ∀ j, j < n → (S j).size ≤ maxLen) (hsz2 : ∀ j, j < n2 → (S2 j).size ≤ maxLen) :
    Calls Try.prog 4 #[.slice a n cap, .slice a2 n2 cap2] w fun e w' => e = .returned (.bool true) ∧ Below w.heap.size w w' := by
  have C1 := hide (bytes21_any a a2 n n2 cap cap2 S S2 w hn hn2 h h2)
  have M := hide (And.intro hn hn2)
  have H := hide (And.intro h h2)
  have HZ := hide (And.intro hsz hsz2)
  clear h h2 hsz hsz2 hn hn2
  go_enter Try.func4, Try.ntmps4
  go_wp2_with fail
  refine C1.out.mono ?_
  rintro e w' ⟨r, rfl, hr, rfl⟩
  cases r
  · go_wp2
    go_ret
    exact ⟨rfl, Below.refl _ _⟩
  obtain ⟨hn, hn2⟩ := hr rfl
  clear hr C1
  go_wp2_with fail
  refine (stringsBytes_any a n cap S 0 _ M.out.1 H.out.1 (by omega)).mono ?_
  rintro e w0 ⟨t, rfl, ht, hd0⟩
  by_cases hbig : 1048576 < t
  · go_wp2
    go_ret
    exact ⟨rfl, hd0.below _⟩
  have t1 : decide (1048576 < t) = false := decide_eq_false hbig
  clear hbig
  go_wp2_with fail
  refine (stringsBytes_any a2 n2 cap2 S2 t _ M.out.2 (hd0.strs H.out.2) ht).mono ?_
  rintro e w1 ⟨t2, rfl, ht2, hd1⟩
  have hd := hide (hd0.trans hd1)
  clear hd0 hd1
  by_cases hbig : 1048576 < t2
  · go_wp2
    go_ret
    exact ⟨rfl, hd.out.below _⟩
  have t1' : decide (1048576 < t2) = false := decide_eq_false hbig
  clear hbig
  have HS := hide (And.intro (hd.out.strs H.out.1) (hd.out.strs H.out.2))
  go_wp2_with fail
  go_loop [6] (fun i => ∃ k : Nat, k ≤ n ∧ i = .int .i64 k ∧ Hid (∀ j, j < k → Valid (S j))) (fun i => n - (intOf i).toNat)
  case atStart => exact ⟨0, Nat.zero_le _, rfl, fun j hj => by omega⟩
  case round =>
    obtain ⟨k, hk, rfl, hval⟩ := hrel
    by_cases hlt : k < n
    · obtain ⟨b, off, rfl, hc⟩ := HS.out.1.at hlt
      have hck := hc k hlt
      clear hc
      by_cases hv : Valid (S k)
      · have C := hide (zzValid_yes (S k) w1 (HZ.out.1 k hlt) hv)
        have HV := hide hv
        clear hv
        go_wp2_with fail
        refine (unhide C).mono ?_
        rintro e w2 ⟨rfl, rfl⟩
        go_wp2_with fail
        go_round
        case rel => exact ⟨k + 1, by omega, by go_num, fun j hj => by
          by_cases e : j = k
          · subst e; exact HV.out
          · exact hval.out j (by omega)⟩
        case measure => simp [intOf]; omega
      · have C := hide (zzValid_no (S k) w1 (HZ.out.1 k hlt) hv)
        clear hv
        go_wp2_with fail
        refine (unhide C).mono ?_
        rintro e w2 ⟨rfl, rfl⟩
        go_wp2_with fail
        go_ret
        exact ⟨rfl, hd.out.below _⟩
    · have hkn : k = n := by omega
      subst hkn
      go_wp2_with fail
      refine (newPolicy_new w1).mono ?_
      rintro e w2 ⟨rfl, np⟩
      have NP := hide np
      clear np
      go_wp2_with fail
      refine (addRole_any (w1.heap.size + 7) (w1.heap.size + 3) 0 (.map []) sRa w2 (NP.out.cells 3 (by omega)) (ownsMap_empty (NP.out.maps 3 (by omega)) _ _ _) (by omega) (by decide)).mono ?_
      rintro e w3 ⟨rfl, a3, ho3, hg3⟩
      have I3 := hide (NP.out.dInv.other hg3 (by omega) (by omega) (by omega))
      have hc3 := hg3.cell (NP.out.cells 3 (by omega)) (by simp)
      have HO3 := hide (And.intro ho3 hc3)
      clear ho3 hc3 hg3
      go_wp2_with fail
      refine (addRole_any (w1.heap.size + 7) (w1.heap.size + 3) 1 _ sRb w3 HO3.out.2 HO3.out.1 (by omega) (by decide)).mono ?_
      rintro e w4 ⟨rfl, a4, ho4, hg4⟩
      have I4 := hide (I3.out.other hg4 (by omega) (by omega) (by omega))
      clear ho4 hg4 HO3 I3 NP
      go_wp2_with fail
      go_loopw [8] (fun i wr => ∃ j : Nat, j ≤ k ∧ i = .int .i64 j ∧ Hid (Laid w1 wr S j)) (fun i _ => k - (intOf i).toNat)
      case atStart => exact ⟨0, Nat.zero_le _, rfl, ⟨_, I4.out, hasP_empty S⟩⟩
      case round =>
        obtain ⟨j, hj, rfl, hL⟩ := hrel
        by_cases hlt2 : j < k
        · obtain ⟨D, hI, hP⟩ := hL.out
          rcases HS.out.1 with h0 | ⟨b, off, e1, hbl, hc⟩
          · omega
          subst e1
          have hck := (hI.below.cell (p := ⟨b, off + j, none⟩) hbl).trans (hc j hlt2)
          have C := hide (addDsd_any (w1.heap.size + 7) (w1.heap.size + 6) j D (S j) sRa sRb wr hI.dsd hI.own (by omega) (HZ.out.1 j hlt2) (by decide) (by decide))
          have HI := hide (And.intro hI hP)
          clear hI hP hc hL
          go_wp2_with fail
          refine (unhide C).mono ?_
          rintro e w5 ⟨rfl, a5, ho5, hg5⟩
          have HL := hide (show Laid w1 w5 S (j + 1) from ⟨_, HI.out.1.turn hg5 ho5, hasP_put HI.out.2 HI.out.1.own.isMap⟩)
          clear ho5 hg5 HI C
          go_wp2_with fail
          go_roundw
          case rel => exact ⟨j + 1, by omega, by go_num, HL⟩
          case measure => simp [intOf]; omega
        · have hjk : j = k := by omega
          subst hjk
          have HL : Hid (Struck w1 wr S j S2 0) := by
            obtain ⟨D, hI, hP⟩ := hL.out
            exact ⟨D, hI, hasM_start S2 hP⟩
          clear hL
          go_wp2_with fail
          go_loopw [9, 10, 11, 12] (fun i _ _ _ wr => ∃ q : Nat, q ≤ n2 ∧ i = .int .i64 q ∧ Hid (Struck w1 wr S j S2 q)) (fun i _ _ _ _ => n2 - (intOf i).toNat)
          case atStart => exact ⟨0, Nat.zero_le _, rfl, HL⟩
          case round =>
            obtain ⟨q, hq, rfl, hL⟩ := hrel
            clear HL
            by_cases hlt3 : q < n2
            · obtain ⟨D, hI, hP⟩ := hL.out
              have HI := hide (And.intro hI hP)
              have hN2 := strs_below hI.below HS.out.2
              rcases hN2 with h0 | ⟨b, off, e1, hbl, hc⟩
              · omega
              subst e1
              have hck := hc q hlt3
              have hcq : q ≤ cap2 := by omega
              clear hI hP hc hL
              by_cases hv : Valid (S2 q)
              · have CV := hide (fun W => zzValid_yes (S2 q) W (HZ.out.2 q hlt3) hv)
                by_cases hh : Maps.has D (.string (S2 q).toList) = true
                · have C := hide (delete_yes (w1.heap.size + 7) (w1.heap.size + 6) j D (S2 q) wr HI.out.1.dsd HI.out.1.own (HZ.out.2 q hlt3) hv hh)
                  have hh' := (HI.out.2 _).1 hh
                  have K1 := hide (hasB_iff.2 hh'.1)
                  have K2 : Hid (hasB q S2 (S2 q) = false) := by
                    rw [← Bool.not_eq_true]
                    exact fun h => hh'.2 (hasB_iff.1 h)
                  clear hv hh hh'
                  go_wp2_with fail
                  refine (unhide C).mono ?_
                  rintro e w5 ⟨rfl, ho5, hg5⟩
                  have I5 := HI.out.1.turn hg5 ho5
                  have C1 := hide (contains_yes cap M.out.1 (strs_below I5.below HS.out.1) K1.out)
                  have C2 := hide (contains_no (n := q) cap2 (by unfold maxLen; omega) (strs_prefix (strs_below I5.below HS.out.2) (by omega)) K2.out)
                  have HL := hide (show Struck w1 w5 S j S2 (q + 1) from ⟨_, I5, hasM_gone HI.out.2⟩)
                  clear I5 K1 K2 ho5 hg5 C HI
                  go_wp2_with fail
                  refine (CV.out _).mono ?_
                  rintro e w6 ⟨rfl, rfl⟩
                  go_wp2_with fail
                  refine (unhide C1).mono ?_
                  rintro e w7 ⟨rfl, rfl⟩
                  go_wp2_with fail
                  refine (unhide C2).mono ?_
                  rintro e w8 ⟨rfl, rfl⟩
                  go_wp2_with fail
                  go_roundw
                  case rel => exact ⟨q + 1, by omega, by go_num, HL⟩
                  case measure => simp [intOf]; omega
                · have hno : Maps.has D (.string (S2 q).toList) = false := by simpa using hh
                  have C := hide (show Calls Try.prog 16 #[.pointer (some ⟨w1.heap.size + 7, 0, none⟩), .string (S2 q)] wr (SaysNo ⟨#[110, 111, 45, 115, 117, 99, 104, 45, 115, 101, 116]⟩ wr) from delete_none (w1.heap.size + 7) (w1.heap.size + 6) j D (S2 q) wr HI.out.1.dsd HI.out.1.own (HZ.out.2 q hlt3) hv hno)
                  have K : Hid (hasB j S (S2 q) = true → hasB q S2 (S2 q) = true) := fun h => by
                    by_cases h' : hasB q S2 (S2 q) = true
                    · exact h'
                    · exact absurd ((HI.out.2 _).2 ⟨hasB_iff.1 h, fun h'' => h' (hasB_iff.2 h'')⟩) hh
                  have HK := hide (hasM_kept HI.out.2 hno)
                  clear hv hh hno
                  go_wp2_with fail
                  refine (unhide C).mono ?_
                  rintro e w5 ⟨rfl, hg5⟩
                  have I5 := HI.out.1.stays hg5
                  have T1 := hide (strs_below I5.below HS.out.1)
                  have T2 := hide (strs_prefix (strs_below I5.below HS.out.2) (show q ≤ n2 by omega))
                  have HL := hide (show Struck w1 w5 S j S2 (q + 1) from ⟨_, I5, HK.out⟩)
                  clear I5 hg5 C HI HK
                  go_wp2_with fail
                  refine (CV.out _).mono ?_
                  rintro e w6 ⟨rfl, rfl⟩
                  by_cases hin : hasB j S (S2 q) = true
                  · have C1 := hide (contains_yes cap M.out.1 T1.out hin)
                    have C2 := hide (contains_yes (n := q) cap2 (by unfold maxLen; omega) T2.out (K.out hin))
                    clear hin K T1 T2
                    go_wp2_with fail
                    refine (unhide C1).mono ?_
                    rintro e w7 ⟨rfl, rfl⟩
                    go_wp2_with fail
                    refine (unhide C2).mono ?_
                    rintro e w8 ⟨rfl, rfl⟩
                    go_wp2_with fail
                    go_roundw
                    case rel => exact ⟨q + 1, by omega, by go_num, HL⟩
                    case measure => simp [intOf]; omega
                  · have hout : hasB j S (S2 q) = false := by simpa using hin
                    have C1 := hide (contains_no cap M.out.1 T1.out hout)
                    clear hin K T1 T2 hout
                    go_wp2_with fail
                    refine (unhide C1).mono ?_
                    rintro e w7 ⟨rfl, rfl⟩
                    go_wp2_with fail
                    go_roundw
                    case rel => exact ⟨q + 1, by omega, by go_num, HL⟩
                    case measure => simp [intOf]; omega
              · have CV := hide (fun W => zzValid_no (S2 q) W (HZ.out.2 q hlt3) hv)
                have C := hide (show Calls Try.prog 16 #[.pointer (some ⟨w1.heap.size + 7, 0, none⟩), .string (S2 q)] wr (SaysNo ⟨#[98, 97, 100, 45, 97, 114, 103, 117, 109, 101, 110, 116, 115]⟩ wr) from delete_bad (w1.heap.size + 7) (w1.heap.size + 6) (S2 q) wr HI.out.1.dsd (HZ.out.2 q hlt3) hv)
                have HK := hide (hasM_kept HI.out.2 (bad_not_in HI.out.2 hval.out hv))
                clear hv
                go_wp2_with fail
                refine (unhide C).mono ?_
                rintro e w5 ⟨rfl, hg5⟩
                have HL := hide (show Struck w1 w5 S j S2 (q + 1) from ⟨_, HI.out.1.stays hg5, HK.out⟩)
                clear hg5 C HI HK
                go_wp2_with fail
                refine (CV.out _).mono ?_
                rintro e w6 ⟨rfl, rfl⟩
                go_wp2_with fail
                go_roundw
                case rel => exact ⟨q + 1, by omega, by go_num, HL⟩
                case measure => simp [intOf]; omega
            · have hqn : q = n2 := by omega
              subst hqn
              obtain ⟨D, hI, hP⟩ := hL.out
              have HI := hide (And.intro hI hP)
              clear hI hP hL
              go_wp2_with fail
              refine (dsdNames_any (w1.heap.size + 7) (w1.heap.size + 6) j D wr HI.out.1.dsd HI.out.1.own (by omega)).mono ?_
              rintro e w5 ⟨g, capg, m, G, rfl, hm, hG, hb, _⟩
              have hB := HI.out.1.below.trans (hb.mono HI.out.1.below.size)
              have C := hide (setMinus_yes g m capg G _ a a2 j q cap cap2 S S2 w5 (by unfold maxLen; omega) M.out.1 M.out.2 hG (strs_below hB HS.out.1) (strs_below hB HS.out.2) HI.out.2)
              have HB := hide hB
              clear hG hb hB HI
              go_wp2_with fail
              refine (unhide C).mono ?_
              rintro e w6 ⟨rfl, d6⟩
              go_wp2_with fail
              go_ret
              exact ⟨rfl, (hd.out.below _).trans ((HB.out.mono (by rw [hd.out.heap]; exact Nat.le_refl _)).trans (d6.below _))⟩
end Go.Proofs.Qxb6614755a
