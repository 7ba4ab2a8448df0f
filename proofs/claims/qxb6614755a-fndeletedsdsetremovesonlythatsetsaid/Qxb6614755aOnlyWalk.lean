/- FnDeleteDsdSetRemovesOnlyThatSet: the walk. -/
import Derived.Test.Qxb6614755aScriptWalk
namespace Go.Proofs.Qxb6614755a
open Go.RowKit Go.Maps Go.Sort Go.WideMaps

/-- Both maps of sets are filled. -/
structure EInv (w1 wr : World) (k k' : Nat) (D E : DataW (Option Addr)) : Prop where
  d : DInv w1 wr k D
  cell : wr.cell? ⟨w1.heap.size + 7, 5, none⟩ = some (.map (some (w1.heap.size + 5)))
  own : wr.ownsMap Try.prog 9 ptrElem (w1.heap.size + 5) k' E

theorem EInv.turnD {w1 wr w' : World} {k k' q : Nat} {D E D' : DataW (Option Addr)} (h : EInv w1 wr k k' D E) (hg : wr.grownBy w' (some (w1.heap.size + 6))) (ho : w'.ownsMap Try.prog 9 ptrElem (w1.heap.size + 6) q D') : EInv w1 w' q k' D' E :=
  ⟨h.d.turn hg ho, hg.cell h.cell (by simp), h.own.kept hg (by simp)⟩
theorem EInv.turnE {w1 wr w' : World} {k k' q : Nat} {D E E' : DataW (Option Addr)} (h : EInv w1 wr k k' D E) (hg : wr.grownBy w' (some (w1.heap.size + 5))) (ho : w'.ownsMap Try.prog 9 ptrElem (w1.heap.size + 5) q E') : EInv w1 w' k q D E' :=
  ⟨h.d.other hg (by omega) (by omega) (by omega), hg.cell h.cell (by simp), ho⟩
theorem EInv.stays {w1 wr w' : World} {k k' : Nat} {D E : DataW (Option Addr)} (h : EInv w1 wr k k' D E) (hg : wr.grownBy w' none) : EInv w1 w' k k' D E :=
  ⟨h.d.stays hg, hg.cell h.cell (by simp), h.own.kept hg (by simp)⟩
theorem EInv.other {w1 wr w' : World} {k k' b : Nat} {D E : DataW (Option Addr)} (h : EInv w1 wr k k' D E) (hg : wr.grownBy w' (some b)) (hb : w1.heap.size ≤ b) (h5 : b ≠ w1.heap.size + 5) (h6 : b ≠ w1.heap.size + 6) (h7 : b ≠ w1.heap.size + 7) : EInv w1 w' k k' D E :=
  ⟨h.d.other hg hb h6 h7, hg.cell h.cell (by simp; omega), h.own.kept hg (by simp; omega)⟩
theorem NewPol.eInv {w1 w' : World} (h : NewPol w1 w') : EInv w1 w' 0 0 (.map []) (.map []) := ⟨h.dInv, h.cells 5 (by omega), ownsMap_empty (h.maps 5 (by omega)) _ _ _⟩

/-- Behind k sets laid into both maps. -/
def Laid2 (w1 wr : World) (S : Nat → ByteArray) (k : Nat) : Prop := ∃ D E, EInv w1 wr k k D E ∧ HasP D S k ∧ HasP E S k

theorem minus_none {D : DataW (Option Addr)} {S : Nat → ByteArray} {n : Nat} (S2 : Nat → ByteArray) (h : HasP D S n) : ∀ x : Bs, Maps.has D (.string x) = true ↔ (∃ j, j < n ∧ tl S j = x) ∧ ¬ ∃ j, j < 0 ∧ tl S2 j = x := hasM_start S2 h
theorem minus_one {D : DataW (Option Addr)} {S : Nat → ByteArray} {n : Nat} (x : ByteArray) (h : HasP D S n) : ∀ y : Bs, Maps.has (D.del (.string x.toList)) (.string y) = true ↔ (∃ j, j < n ∧ tl S j = y) ∧ ¬ ∃ j, j < 1 ∧ tl (fun _ => x) j = y :=
  hasM_gone (S2 := fun _ => x) (hasM_start (fun _ => x) h)

theorem strs_one (w : World) (x : ByteArray) (t : TypeId) : Strs (w.alloc (.cells #[.string x] t)) (some ⟨w.heap.size, 0, none⟩) 1 (fun _ => x) := by
  refine .inr ⟨_, _, rfl, by simp, fun p hp => ?_⟩
  have : p = 0 := by omega
  subst this
  simp
theorem strs_none (w : World) (S : Nat → ByteArray) : Strs w none 0 S := .inl rfl

set_option maxRecDepth 100000 in
set_option maxHeartbeats 2000000 in
theorem only_walk (a : Option Addr) (n cap : Nat) (S : Nat → ByteArray) (x : ByteArray) (w : World) (hn : n ≤ maxLen) (h : Strs w a n S) (hsz : ∀ j, j < n → (S j).size ≤ maxLen) :
    Calls Try.prog 3 #[.slice a n cap, .string x] w fun e w' => e = .returned (.bool true) ∧ Below w.heap.size w w' := by
  have C1 := hide (bytes9_any a n cap S x w hn h)
  have M := hide hn
  have H := hide h
  have HZ := hide hsz
  clear h hsz hn
  go_enter Try.func3, Try.ntmps3
  go_wp2_with fail
  refine C1.out.mono ?_
  rintro e w' ⟨r, rfl, hr, rfl⟩
  cases r
  · go_wp2
    go_ret
    exact ⟨rfl, Below.refl _ _⟩
  obtain ⟨hn, hx1⟩ := hr rfl
  have hxs := hide (show x.size ≤ maxLen by unfold maxLen; omega)
  have t0 : decide (1048576 < (x.size : Int)) = false := decide_eq_false (by omega)
  clear hr C1
  go_wp2_with fail
  refine (stringsBytes_any a n cap S (x.size : Int) _ M.out H.out (by omega)).mono ?_
  rintro e w1 ⟨t, rfl, ht, hd0⟩
  have hd := hide hd0
  clear hd0
  by_cases hbig : 1048576 < t
  · go_wp2
    go_ret
    exact ⟨rfl, hd.out.below _⟩
  have t1 : decide (1048576 < t) = false := decide_eq_false hbig
  clear hbig
  have HS := hide (hd.out.strs H.out)
  go_wp2_with fail
  go_loop [5] (fun i => ∃ k : Nat, k ≤ n ∧ i = .int .i64 k ∧ Hid (∀ j, j < k → Valid (S j))) (fun i => n - (intOf i).toNat)
  case atStart => exact ⟨0, Nat.zero_le _, rfl, fun j hj => by omega⟩
  case round =>
    obtain ⟨k, hk, rfl, hval⟩ := hrel
    by_cases hlt : k < n
    · obtain ⟨b, off, rfl, hc⟩ := HS.out.at hlt
      have hck := hc k hlt
      clear hc
      by_cases hv : Valid (S k)
      · have C := hide (zzValid_yes (S k) w1 (HZ.out k hlt) hv)
        have HV := hide hv
        clear hv
        go_wp2_with fail
        refine (unhide C).mono ?_
        rintro e w2 ⟨rfl, rfl⟩
        go_wp2_with fail
        go_round
        case rel => exact ⟨k + 1, by omega, by go_num, fun j hj => by
          by_cases e : j = k
          · subst e; exact HV.out
          · exact hval.out j (by omega)⟩
        case measure => simp [intOf]; omega
      · have C := hide (zzValid_no (S k) w1 (HZ.out k hlt) hv)
        clear hv
        go_wp2_with fail
        refine (unhide C).mono ?_
        rintro e w2 ⟨rfl, rfl⟩
        go_wp2_with fail
        go_ret
        exact ⟨rfl, hd.out.below _⟩
    · have hkn : k = n := by omega
      subst hkn
      go_wp2_with fail
      refine (newPolicy_new w1).mono ?_
      rintro e w2 ⟨rfl, np⟩
      have NP := hide np
      clear np
      go_wp2_with fail
      refine (addRole_any (w1.heap.size + 7) (w1.heap.size + 3) 0 (.map []) sRa w2 (NP.out.cells 3 (by omega)) (ownsMap_empty (NP.out.maps 3 (by omega)) _ _ _) (by omega) (by decide)).mono ?_
      rintro e w3 ⟨rfl, a3, ho3, hg3⟩
      have I3 := hide (NP.out.eInv.other hg3 (by omega) (by omega) (by omega) (by omega))
      have hc3 := hg3.cell (NP.out.cells 3 (by omega)) (by simp)
      have HO3 := hide (And.intro ho3 hc3)
      clear ho3 hc3 hg3
      go_wp2_with fail
      refine (addRole_any (w1.heap.size + 7) (w1.heap.size + 3) 1 _ sRb w3 HO3.out.2 HO3.out.1 (by omega) (by decide)).mono ?_
      rintro e w4 ⟨rfl, a4, ho4, hg4⟩
      have I4 := hide (I3.out.other hg4 (by omega) (by omega) (by omega) (by omega))
      clear ho4 hg4 HO3 I3 NP
      go_wp2_with fail
      go_loopw [7] (fun i wr => ∃ j : Nat, j ≤ k ∧ i = .int .i64 j ∧ Hid (Laid2 w1 wr S j)) (fun i _ => k - (intOf i).toNat)
      case atStart => exact ⟨0, Nat.zero_le _, rfl, ⟨_, _, I4.out, hasP_empty S, hasP_empty S⟩⟩
      case round =>
        obtain ⟨j, hj, rfl, hL⟩ := hrel
        by_cases hlt2 : j < k
        · obtain ⟨D, E, hI, hP, hE⟩ := hL.out
          rcases HS.out with h0 | ⟨b, off, e1, hbl, hc⟩
          · omega
          subst e1
          have hck := (hI.d.below.cell (p := ⟨b, off + j, none⟩) hbl).trans (hc j hlt2)
          have C := hide (addDsd_any (w1.heap.size + 7) (w1.heap.size + 6) j D (S j) sRa sRb wr hI.d.dsd hI.d.own (by omega) (HZ.out j hlt2) (by decide) (by decide))
          have HI := hide (And.intro hI (And.intro hP hE))
          have HC := hide hc
          clear hI hP hE hc hL
          go_wp2_with fail
          refine (unhide C).mono ?_
          rintro e w5 ⟨rfl, a5, ho5, hg5⟩
          have I5 := hide (HI.out.1.turnD hg5 ho5)
          have hck5 := (I5.out.d.below.cell (p := ⟨b, off + j, none⟩) hbl).trans (HC.out j hlt2)
          have C5 := hide (addSsd_any (w1.heap.size + 7) (w1.heap.size + 5) j E (S j) sRa sRb w5 I5.out.cell I5.out.own (by omega) (HZ.out j hlt2) (by decide) (by decide))
          clear ho5 hg5 C
          go_wp2_with fail
          refine (unhide C5).mono ?_
          rintro e w6 ⟨rfl, a6, ho6, hg6⟩
          have HL := hide (show Laid2 w1 w6 S (j + 1) from ⟨_, _, I5.out.turnE hg6 ho6, hasP_put HI.out.2.1 HI.out.1.d.own.isMap, hasP_put HI.out.2.2 HI.out.1.own.isMap⟩)
          clear ho6 hg6 C5 I5 HI
          go_wp2_with fail
          go_roundw
          case rel => exact ⟨j + 1, by omega, by go_num, HL⟩
          case measure => simp [intOf]; omega
        · have hjk : j = k := by omega
          subst hjk
          obtain ⟨D, E, hI, hP, hE⟩ := hL.out
          have HI := hide (And.intro hI (And.intro hP hE))
          clear hI hP hE hL I4
          by_cases hv : Valid x
          · have CV := hide (fun W => zzValid_yes x W hxs.out hv)
            by_cases hh : Maps.has D (.string x.toList) = true
            · have C := hide (delete_yes (w1.heap.size + 7) (w1.heap.size + 6) j D x wr HI.out.1.d.dsd HI.out.1.d.own hxs.out hv hh)
              have K := hide (hasB_iff.2 ((HI.out.2.1 _).1 hh))
              clear hv hh
              go_wp2_with fail
              refine (unhide C).mono ?_
              rintro e w5 ⟨rfl, ho5, hg5⟩
              have I5 := hide (HI.out.1.turnD hg5 ho5)
              clear ho5 hg5 C
              go_wp2_with fail
              refine (dsdNames_any (w1.heap.size + 7) (w1.heap.size + 6) j _ w5 I5.out.d.dsd I5.out.d.own (by omega)).mono ?_
              rintro e w6 ⟨g, capg, m, G, rfl, hm, hG, hb, _⟩
              have I6 := hide (I5.out.stays (grown_of_below hb))
              have HG := hide hG
              clear hG hb
              go_wp2_with fail
              refine (ssdNames_any (w1.heap.size + 7) (w1.heap.size + 5) j E w6 I6.out.cell I6.out.own (by omega)).mono ?_
              rintro e w7 ⟨g2, capg2, m2, G2, rfl, hm2, hG2, hb2, _⟩
              have I7 := hide (I6.out.stays (grown_of_below hb2))
              have HG7 := hide (And.intro (HG.out.below hb2) hG2)
              clear hG2 hb2 HG I6 I5
              go_wp2_with fail
              refine (CV.out _).mono ?_
              rintro e w8 ⟨rfl, rfl⟩
              have C1 := hide (contains_yes cap M.out (strs_below I7.out.d.below HS.out) K.out)
              go_wp2_with fail
              refine (unhide C1).mono ?_
              rintro e w9 ⟨rfl, rfl⟩
              clear C1 K CV
              go_wp2_with fail
              have B9 := (Below.refl w9.heap.size w9).alloc (Nat.le_refl _) (.cells #[.string x] 9)
              have C2 := hide (setMinus_yes g m capg G _ a (some ⟨w9.heap.size, 0, none⟩) j 1 cap 1 S (fun _ => x) (w9.alloc (.cells #[.string x] 9)) (by unfold maxLen; omega) M.out (by unfold maxLen; omega) (HG7.out.1.below B9) (strs_below B9 (strs_below I7.out.d.below HS.out)) (strs_one _ _ _) (minus_one x HI.out.2.1))
              refine (unhide C2).mono ?_
              rintro e w10 ⟨rfl, d10⟩
              have B10 := B9.trans (d10.below _)
              have C3 := hide (setMinus_yes g2 m2 capg2 G2 _ a none j 0 cap 0 S S w10 (by unfold maxLen; omega) M.out (by unfold maxLen; omega) (HG7.out.2.below B10) (strs_below B10 (strs_below I7.out.d.below HS.out)) (strs_none _ _) (minus_none S HI.out.2.2))
              have FB := hide (I7.out.d.below.trans (B10.mono I7.out.d.below.size))
              clear C2 B9 d10 B10
              go_wp2_with fail
              refine (unhide C3).mono ?_
              rintro e w11 ⟨rfl, d11⟩
              go_wp2_with fail
              go_ret
              exact ⟨rfl, (hd.out.below _).trans ((FB.out.mono (by rw [hd.out.heap]; exact Nat.le_refl _)).trans (d11.below _))⟩
            · have hno : Maps.has D (.string x.toList) = false := by simpa using hh
              have C := hide (show Calls Try.prog 16 #[.pointer (some ⟨w1.heap.size + 7, 0, none⟩), .string x] wr (SaysNo ⟨#[110, 111, 45, 115, 117, 99, 104, 45, 115, 101, 116]⟩ wr) from delete_none (w1.heap.size + 7) (w1.heap.size + 6) j D x wr HI.out.1.d.dsd HI.out.1.d.own hxs.out hv hno)
              have K : Hid (hasB j S x = false) := by
                show hasB j S x = false
                rw [← Bool.not_eq_true]
                exact fun h => hh ((HI.out.2.1 _).2 (hasB_iff.1 h))
              clear hv hh hno
              go_wp2_with fail
              refine (unhide C).mono ?_
              rintro e w5 ⟨rfl, hg5⟩
              have I5 := hide (HI.out.1.stays hg5)
              clear hg5 C
              go_wp2_with fail
              refine (dsdNames_any (w1.heap.size + 7) (w1.heap.size + 6) j _ w5 I5.out.d.dsd I5.out.d.own (by omega)).mono ?_
              rintro e w6 ⟨g, capg, m, G, rfl, hm, hG, hb, _⟩
              have I6 := hide (I5.out.stays (grown_of_below hb))
              have HG := hide hG
              clear hG hb
              go_wp2_with fail
              refine (ssdNames_any (w1.heap.size + 7) (w1.heap.size + 5) j E w6 I6.out.cell I6.out.own (by omega)).mono ?_
              rintro e w7 ⟨g2, capg2, m2, G2, rfl, hm2, hG2, hb2, _⟩
              have I7 := hide (I6.out.stays (grown_of_below hb2))
              have HG7 := hide (And.intro (HG.out.below hb2) hG2)
              clear hG2 hb2 HG I6 I5
              go_wp2_with fail
              refine (CV.out _).mono ?_
              rintro e w8 ⟨rfl, rfl⟩
              have C1 := hide (contains_no cap M.out (strs_below I7.out.d.below HS.out) K.out)
              go_wp2_with fail
              refine (unhide C1).mono ?_
              rintro e w9 ⟨rfl, rfl⟩
              clear C1 K CV
              go_wp2_with fail
              have C2 := hide (setMinus_yes g m capg G _ a none j 0 cap 0 S S w9 (by unfold maxLen; omega) M.out (by unfold maxLen; omega) HG7.out.1 (strs_below I7.out.d.below HS.out) (strs_none _ _) (minus_none S HI.out.2.1))
              refine (unhide C2).mono ?_
              rintro e w10 ⟨rfl, d10⟩
              have C3 := hide (setMinus_yes g2 m2 capg2 G2 _ a none j 0 cap 0 S S w10 (by unfold maxLen; omega) M.out (by unfold maxLen; omega) (HG7.out.2.drew d10) (d10.strs (strs_below I7.out.d.below HS.out)) (strs_none _ _) (minus_none S HI.out.2.2))
              have FB := hide (I7.out.d.below.trans (d10.below _))
              clear C2 d10
              go_wp2_with fail
              refine (unhide C3).mono ?_
              rintro e w11 ⟨rfl, d11⟩
              go_wp2_with fail
              go_ret
              exact ⟨rfl, (hd.out.below _).trans ((FB.out.mono (by rw [hd.out.heap]; exact Nat.le_refl _)).trans (d11.below _))⟩
          · have CV := hide (fun W => zzValid_no x W hxs.out hv)
            have C := hide (show Calls Try.prog 16 #[.pointer (some ⟨w1.heap.size + 7, 0, none⟩), .string x] wr (SaysNo ⟨#[98, 97, 100, 45, 97, 114, 103, 117, 109, 101, 110, 116, 115]⟩ wr) from delete_bad (w1.heap.size + 7) (w1.heap.size + 6) x wr HI.out.1.d.dsd hxs.out hv)
            clear hv
            go_wp2_with fail
            refine (unhide C).mono ?_
            rintro e w5 ⟨rfl, hg5⟩
            have I5 := hide (HI.out.1.stays hg5)
            clear hg5 C
            go_wp2_with fail
            refine (dsdNames_any (w1.heap.size + 7) (w1.heap.size + 6) j _ w5 I5.out.d.dsd I5.out.d.own (by omega)).mono ?_
            rintro e w6 ⟨g, capg, m, G, rfl, hm, hG, hb, _⟩
            have I6 := hide (I5.out.stays (grown_of_below hb))
            have HG := hide hG
            clear hG hb
            go_wp2_with fail
            refine (ssdNames_any (w1.heap.size + 7) (w1.heap.size + 5) j E w6 I6.out.cell I6.out.own (by omega)).mono ?_
            rintro e w7 ⟨g2, capg2, m2, G2, rfl, hm2, hG2, hb2, _⟩
            have I7 := hide (I6.out.stays (grown_of_below hb2))
            have HG7 := hide (And.intro (HG.out.below hb2) hG2)
            clear hG2 hb2 HG I6 I5
            go_wp2_with fail
            refine (CV.out _).mono ?_
            rintro e w8 ⟨rfl, rfl⟩
            clear CV
            go_wp2_with fail
            have C2 := hide (setMinus_yes g m capg G _ a none j 0 cap 0 S S w8 (by unfold maxLen; omega) M.out (by unfold maxLen; omega) HG7.out.1 (strs_below I7.out.d.below HS.out) (strs_none _ _) (minus_none S HI.out.2.1))
            refine (unhide C2).mono ?_
            rintro e w10 ⟨rfl, d10⟩
            have C3 := hide (setMinus_yes g2 m2 capg2 G2 _ a none j 0 cap 0 S S w10 (by unfold maxLen; omega) M.out (by unfold maxLen; omega) (HG7.out.2.drew d10) (d10.strs (strs_below I7.out.d.below HS.out)) (strs_none _ _) (minus_none S HI.out.2.2))
            have FB := hide (I7.out.d.below.trans (d10.below _))
            clear C2 d10
            go_wp2_with fail
            refine (unhide C3).mono ?_
            rintro e w11 ⟨rfl, d11⟩
            go_wp2_with fail
            go_ret
            exact ⟨rfl, (hd.out.below _).trans ((FB.out.mono (by rw [hd.out.heap]; exact Nat.le_refl _)).trans (d11.below _))⟩
end Go.Proofs.Qxb6614755a
