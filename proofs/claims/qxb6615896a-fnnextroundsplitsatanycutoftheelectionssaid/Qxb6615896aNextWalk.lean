/- NextRound (13): the walk. -/
import Derived.Test.Qxb6615896aNextAt
import Derived.Deep.RegionLaw
namespace Go.Proofs.Qxb6615896a
open Go.RowKit Go.Maps Go.WideMaps

set_option maxRecDepth 100000 in
set_option maxHeartbeats 1000000 in
theorem next_try (w0 : World) (bM bB : Nat) (nm : ByteArray) (z1 z2 z3 z4 : Int) (n m : Nat) (E : Nat → Elec) (B : Nat → Bod) (w : World) (hB : Built w0 bM bB (metRow nm z1 z2 z3 z4) n E m B w) (hb : Bounded n E m) (hk : Keys n E m B) :
    Calls Try.prog 13 #[.pointer (some ⟨bM + 1, 0, none⟩)] w (NextPost w z1 n E) := by
  obtain ⟨hn, hcl, hm⟩ := hb
  have lt0 := hB.half.lt
  have r0 := hB.half.res 0 _ rfl
  have r1 := hB.half.res 1 _ rfl
  have r2 := hB.half.res 2 _ rfl
  rw [Nat.zero_add] at r0 r1 r2
  have HB := hide hB
  have HL := hide hcl
  have HK := hide hk
  clear hB hcl hk
  have R0 := hide (And.intro r0 (And.intro r1 r2))
  have r1' : ∀ o, (w.alloc o).cell? ⟨bM + 1, 1, none⟩ = some (.slice (some ⟨bM + 1 + 1, 0, none⟩) n n) := fun o => (World.grownBy_alloc w o none).cell r1 (by simp)
  clear r0 r1 r2
  have hmm := @run_makeMap Try.prog
  go_enter Try.func13, Try.ntmps13
  go_wp2
  clear hmm r1'
  go_loopw [3, 22] (fun v i wr => ∃ k : Nat, k ≤ n ∧ i = .int .i64 k ∧ Hid (NR w E k v wr)) (fun _ i _ => n - (intOf i).toNat)
  case atStart => exact ⟨0, Nat.zero_le _, rfl, NR.start w E⟩
  case round =>
    obtain ⟨k, hk, rfl, hN⟩ := hrel
    rename World => wo
    by_cases hlt : k < n
    · obtain ⟨pe, pc, h1, h2, h3, h4, h5, h6, h7⟩ := HB.out.half.elecs k hlt
      have BL := hide hN.out.below
      have HE := hide (And.intro h2 (And.intro h4 (And.intro h6 h7)))
      have c0 : wo.cell? ⟨bM + 1 + 1, k * 10, none⟩ = some (.pointer (some ⟨pe, 0, none⟩)) := range_below BL.out (by omega) h5 0 _ rfl
      have c1 := range_below BL.out (by omega) h5 1 _ rfl
      have c2 := range_below BL.out (by omega) h5 2 _ rfl
      have c3 := range_below BL.out (by omega) h5 3 _ rfl
      have c4 := range_below BL.out (by omega) h5 4 _ rfl
      have c5 := range_below BL.out (by omega) h5 5 _ rfl
      have c6 := range_below BL.out (by omega) h5 6 _ rfl
      have c7 := range_below BL.out (by omega) h5 7 _ rfl
      have c8 := range_below BL.out (by omega) h5 8 _ rfl
      have c9 := range_below BL.out (by omega) h5 9 _ rfl
      clear h1 h2 h3 h4 h5 h6 h7
      cases hv : isVa (E k) with
      | false =>
        have hv' : ((E k).next.toList == [118, 111, 116, 101, 45, 97, 103, 97, 105, 110]) = false := hv
        have hNs := hide ((hN.out.down ((Below.refl _ _).alloc (Nat.le_refl _) (.cells (elecRes pe pc (E k)).toArray 81))).skip hv)
        clear hv
        go_wp2
        go_roundw
        case rel => exact ⟨k + 1, by omega, by go_num, hNs.out⟩
        case measure => simp [intOf]; omega
      | true =>
        have hv' : ((E k).next.toList == [118, 111, 116, 101, 45, 97, 103, 97, 105, 110]) = true := hv
        have HV := hide hv
        clear hv
        go_wp2
        clear c0 c1 c2 c3 c4 c5 c6 c7 c8 c9 hv'
        generalize hw1 : wo.alloc (.cells #[.pointer (some ⟨pe, 0, none⟩), .int .u64 0, .int .u64 0, .int .i64 0, .int .i64 0, .int .i64 0, .slice (some ⟨pc, 0, none⟩) (E k).cl (E k).cl, .slice none 0 0, .int .i64 (E k).unf, .string (E k).next] 81) = w1 at *
        have hs1 : w1.heap.size = wo.heap.size + 1 := by rw [← hw1]; simp
        have hb1 : Below wo.heap.size wo w1 := by rw [← hw1]; exact (Below.refl _ _).alloc (Nat.le_refl _) _
        have hr1 : w1.rangeAt wo.heap.size 0 (elecRes pe pc (E k)) := by rw [← hw1]; exact range_made wo (elecRes pe pc (E k)) 81
        have F1 := hide (And.intro hs1 (And.intro hb1 hr1))
        clear hs1 hb1 hr1 hw1
        have hcl := HL.out k hlt
        go_loopw [7, 8, 32] (fun v7 v8 i wr2 => ∃ q : Nat, q ≤ (E k).cl ∧ i = .int .i64 q ∧ Hid (CI w1 (E k) q v7 v8 wr2)) (fun _ _ i _ => (E k).cl - (intOf i).toNat)
        case atStart => exact ⟨0, Nat.zero_le _, rfl, CI.start w1 (E k)⟩
        case round =>
          obtain ⟨q, hq, rfl, hC⟩ := hrel
          rename World => wi
          by_cases hlq : q < (E k).cl
          · have hr := HE.out.2.2.2 q hlq
            have BLi := hide ((BL.out.trans ((F1.out.2.1).mono BL.out.size)).trans (hC.out.below.mono (by have := F1.out.1; have := BL.out.size; omega)))
            have d0 : wi.cell? ⟨pc, q * 5, none⟩ = some (.string ((E k).C q).id) := range_below BLi.out HE.out.2.1 hr 0 _ rfl
            have d1 := range_below BLi.out HE.out.2.1 hr 1 _ rfl
            have d2 := range_below BLi.out HE.out.2.1 hr 2 _ rfl
            have d3 := range_below BLi.out HE.out.2.1 hr 3 _ rfl
            have d4 := range_below BLi.out HE.out.2.1 hr 4 _ rfl
            clear hr
            cases ht : ((E k).C q).status.toList == tiedB with
            | true =>
              have ht' : (((E k).C q).status.toList == [116, 105, 101, 100]) = true := ht
              have HT := hide ht
              clear ht
              have hl := Nat.le_trans (pick_le tiedB (E k) q) (Nat.le_trans hq hcl)
              have hCa := hide ((hC.out.alloc (.cells (candRes ((E k).C q)).toArray 76)).alloc (.cells #[.string ((E k).C q).id, .string ((E k).C q).name] 73))
              go_wp2_with (first
                | (at_builtin; refine append_pair _ rfl _ _ rfl w1.heap.size u7 _ _ rfl hCa.out.tied hl (wi.heap.size + 1) _ ((E k).C q).id ((E k).C q).name rfl (top2 _ _ _) (by simpa using hCa.out.below.size) (wi.heap.size + 1 + 1) (by simp) ?_; intro g cap w3 ho hg hgg hlg)
                | go_in)
              go_roundw
              case rel => exact ⟨q + 1, by omega, by go_num, hCa.out.tie HT.out ho hg (by simpa using hgg)⟩
              case measure => simp [intOf]; omega
            | false =>
              have ht' : (((E k).C q).status.toList == [116, 105, 101, 100]) = false := ht
              have HT := hide ht
              clear ht
              cases hu : ((E k).C q).status.toList == notB with
              | true =>
                have hu' : (((E k).C q).status.toList == [110, 111, 116, 45, 101, 108, 101, 99, 116, 101, 100]) = true := hu
                have HU := hide hu
                clear hu
                have hl := Nat.le_trans (pick_le notB (E k) q) (Nat.le_trans hq hcl)
                have hCa := hide ((hC.out.alloc (.cells (candRes ((E k).C q)).toArray 76)).alloc (.cells #[.string ((E k).C q).id, .string ((E k).C q).name] 73))
                go_wp2_with (first
                  | (at_builtin; refine append_pair _ rfl _ _ rfl w1.heap.size u8 _ _ rfl hCa.out.rest hl (wi.heap.size + 1) _ ((E k).C q).id ((E k).C q).name rfl (top2 _ _ _) (by simpa using hCa.out.below.size) (wi.heap.size + 1 + 1) (by simp) ?_; intro g cap w3 ho hg hgg hlg)
                  | go_in)
                go_roundw
                case rel => exact ⟨q + 1, by omega, by go_num, hCa.out.lose HU.out ho hg (by simpa using hgg)⟩
                case measure => simp [intOf]; omega
              | false =>
                have hu' : (((E k).C q).status.toList == [110, 111, 116, 45, 101, 108, 101, 99, 116, 101, 100]) = false := hu
                have HU := hide hu
                clear hu
                have hCa := hide ((hC.out.alloc (.cells (candRes ((E k).C q)).toArray 76)).pass HT.out HU.out)
                go_wp2
                go_roundw
                case rel => exact ⟨q + 1, by omega, by go_num, hCa.out⟩
                case measure => simp [intOf]; omega
          · have hqe : q = (E k).cl := by omega
            subst hqe
            obtain ⟨a7, L7, c7, hL7, e7⟩ := ownsRow_slice hC.out.tied
            obtain ⟨a8, L8, c8, hL8, e8⟩ := ownsRow_slice hC.out.rest
            subst e7 e8
            have HL7 := hide hL7
            clear hL7 hL8
            have BLi := hide ((BL.out.trans ((F1.out.2.1).mono BL.out.size)).trans (hC.out.below.mono (by have := F1.out.1; have := BL.out.size; omega)))
            have f0 : wi.cell? ⟨wo.heap.size, 0, none⟩ = some (.pointer (some ⟨pe, 0, none⟩)) := range_below hC.out.below (by have := F1.out.1; omega) F1.out.2.2 0 _ rfl
            have f8 : wi.cell? ⟨wo.heap.size, 8, none⟩ = some (.int .i64 (E k).unf) := range_below hC.out.below (by have := F1.out.1; omega) F1.out.2.2 8 _ rfl
            have g0 : wi.cell? ⟨pe, 0, none⟩ = some (.string (E k).id) := range_below BLi.out HE.out.1 HE.out.2.2.1 0 _ rfl
            have g1 : wi.cell? ⟨pe, 1, none⟩ = some (.string (E k).title) := range_below BLi.out HE.out.1 HE.out.2.2.1 1 _ rfl
            have g4 : wi.cell? ⟨pe, 4, none⟩ = some (.string (E k).body) := range_below BLi.out HE.out.1 HE.out.2.2.1 4 _ rfl
            have S0 := hide (And.intro f0 (And.intro f8 (And.intro g0 (And.intro g1 g4))))
            have SA := hide (show ∀ o, (wi.alloc o).cell? ⟨wo.heap.size, 0, none⟩ = some (.pointer (some ⟨pe, 0, none⟩)) ∧ (wi.alloc o).cell? ⟨wo.heap.size, 8, none⟩ = some (.int .i64 (E k).unf) ∧ (wi.alloc o).cell? ⟨pe, 0, none⟩ = some (.string (E k).id) ∧ (wi.alloc o).cell? ⟨pe, 1, none⟩ = some (.string (E k).title) ∧ (wi.alloc o).cell? ⟨pe, 4, none⟩ = some (.string (E k).body) from fun o => ⟨(World.grownBy_alloc wi o none).cell f0 (by simp), (World.grownBy_alloc wi o none).cell f8 (by simp), (World.grownBy_alloc wi o none).cell g0 (by simp), (World.grownBy_alloc wi o none).cell g1 (by simp), (World.grownBy_alloc wi o none).cell g4 (by simp)⟩)
            clear f0 f8 g0 g1 g4
            have HNi := hide ((hN.out.down F1.out.2.1).down hC.out.below)
            obtain ⟨D, hmap⟩ := HNi.out.map
            obtain ⟨xs, hown, houts⟩ := HNi.out.row
            have hlen : (sel E k).length ≤ 1048576 := by rw [sel_len]; have := cnt_le E k; omega
            have x1 : some wo.heap.size ≠ u3.ownBlock := fun e => by have := ownsRow_lo hN.out e.symm; omega
            have x2 : some pe ≠ u3.ownBlock := fun e => by have := (hown.lt _ e.symm).1; have := HE.out.1; omega
            have hsz : w.heap.size + 1 ≤ wi.heap.size := HNi.out.lt
            have n1 : wi.heap.size ≠ wo.heap.size := by have := F1.out.1; have := hC.out.below.size; omega
            have n2 : wi.heap.size ≠ pe := by have := HE.out.1; omega
            have x3 : some w.heap.size ≠ u3.ownBlock := fun e => by have := (hown.lt _ e.symm).1; omega
            have hkey := keyOf_string_mk Try.underlying9 (HK.out.1 k hlt)
            have HM := hide hmap
            have HO := hide (And.intro hown houts)
            clear hmap hown houts
            by_cases hz : L7 = 0
            · subst hz
              have HCV : Value.slice a8 L8 c8 = if (pick tiedB (E k) (E k).cl).length = 0 then .slice a8 L8 c8 else .slice a7 0 c7 := by rw [if_pos HL7.out]
              have hrow : wi.ownsRow (w.heap.size + 1) 73 2 (.slice a8 L8 c8) (outOf (E k)).cands.length (pairs (outOf (E k)).cands) := ownsRow_mono (hC.out.taken HCV) (by have := F1.out.1; have := hN.out.lt; omega)
              have hap : (Value.slice a8 L8 c8).ownBlock = none ∨ (Value.slice a8 L8 c8).ownBlock ≠ u3.ownBlock := by
                cases hq : (Value.slice a8 L8 c8).ownBlock with
                | none => exact .inl rfl
                | some j => exact .inr fun e => by have := ((hC.out.taken HCV).lt j hq).1; have := ownsRow_lo hN.out e.symm; have := F1.out.1; omega
              have HR := hide (And.intro hrow hap)
              clear hrow hap HCV
              go_wp2_with fail
              go_region_held3 (fun w' => w'.cell? ⟨wo.heap.size, 0, none⟩ = some (.pointer (some ⟨pe, 0, none⟩)) ∧ w'.cell? ⟨wo.heap.size, 8, none⟩ = some (.int .i64 (E k).unf) ∧ w'.cell? ⟨pe, 0, none⟩ = some (.string (E k).id) ∧ w'.cell? ⟨pe, 1, none⟩ = some (.string (E k).title) ∧ w'.cell? ⟨pe, 4, none⟩ = some (.string (E k).body))
                (first | exact S0.out | exact SA.out _ | (exact ⟨hg.cell (SA.out _).1 x1, hg.cell (SA.out _).2.1 x1, hg.cell (SA.out _).2.2.1 x2, hg.cell (SA.out _).2.2.2.1 x2, hg.cell (SA.out _).2.2.2.2 x2⟩))
                ((refine step_append_elec _ rfl _ _ rfl (w.heap.size + 1) u3 _ xs rfl (HO.out.1.alloc _) hlen wi.heap.size _ (outOf (E k)) (.slice a8 L8 c8) rfl rfl (heap_alloc_new wi _) (by simp; omega) (wi.heap.size + 1) (by simp) ?_; intro g cap w3 ho hg hgg hlg))
              have f0 := hg.cell (SA.out _).1 x1
              have g4 := hg.cell (SA.out _).2.2.2.2 x2
              have hmap3 := map_kept HM.out hg x3
              have HG := hide (And.intro ho (And.intro hg hgg))
              clear ho hg hgg
              go_wp2_with (first
                | (at_mapUpdate; refine wpList_mapUpdate_own _ rfl _ _ _ 88 rfl 9 4 law9 under88 (plainElem (H := Unit) Try.prog 4) w.heap.size k D rfl hmap3 (by unfold maxLen; omega) _ _ _ rfl rfl hkey _ [] (plainElem_bool Try.underlying4 true) ?_; intro w4 hm4 hg4)
                | go_in)
              go_roundw
              case rel => exact ⟨k + 1, by omega, by go_num, HNi.out.push2 HO.out HR.out HV.out HG.out.1 HG.out.2.1 HG.out.2.2 hm4 hg4⟩
              case measure => simp [intOf]; omega
            · have hz' : 0 < L7 := by omega
              have HCV : Value.slice a7 L7 c7 = if (pick tiedB (E k) (E k).cl).length = 0 then .slice a8 L8 c8 else .slice a7 L7 c7 := by rw [if_neg (by have := HL7.out; omega)]
              clear hz
              have hrow : wi.ownsRow (w.heap.size + 1) 73 2 (.slice a7 L7 c7) (outOf (E k)).cands.length (pairs (outOf (E k)).cands) := ownsRow_mono (hC.out.taken HCV) (by have := F1.out.1; have := hN.out.lt; omega)
              have hap : (Value.slice a7 L7 c7).ownBlock = none ∨ (Value.slice a7 L7 c7).ownBlock ≠ u3.ownBlock := by
                cases hq : (Value.slice a7 L7 c7).ownBlock with
                | none => exact .inl rfl
                | some j => exact .inr fun e => by have := ((hC.out.taken HCV).lt j hq).1; have := ownsRow_lo hN.out e.symm; have := F1.out.1; omega
              have HR := hide (And.intro hrow hap)
              clear hrow hap HCV
              go_wp2_with fail
              go_region_held3 (fun w' => w'.cell? ⟨wo.heap.size, 0, none⟩ = some (.pointer (some ⟨pe, 0, none⟩)) ∧ w'.cell? ⟨wo.heap.size, 8, none⟩ = some (.int .i64 (E k).unf) ∧ w'.cell? ⟨pe, 0, none⟩ = some (.string (E k).id) ∧ w'.cell? ⟨pe, 1, none⟩ = some (.string (E k).title) ∧ w'.cell? ⟨pe, 4, none⟩ = some (.string (E k).body))
                (first | exact S0.out | exact SA.out _ | (exact ⟨hg.cell (SA.out _).1 x1, hg.cell (SA.out _).2.1 x1, hg.cell (SA.out _).2.2.1 x2, hg.cell (SA.out _).2.2.2.1 x2, hg.cell (SA.out _).2.2.2.2 x2⟩))
                ((refine step_append_elec _ rfl _ _ rfl (w.heap.size + 1) u3 _ xs rfl (HO.out.1.alloc _) hlen wi.heap.size _ (outOf (E k)) (.slice a7 L7 c7) rfl rfl (heap_alloc_new wi _) (by simp; omega) (wi.heap.size + 1) (by simp) ?_; intro g cap w3 ho hg hgg hlg))
              have f0 := hg.cell (SA.out _).1 x1
              have g4 := hg.cell (SA.out _).2.2.2.2 x2
              have hmap3 := map_kept HM.out hg x3
              have HG := hide (And.intro ho (And.intro hg hgg))
              clear ho hg hgg
              go_wp2_with (first
                | (at_mapUpdate; refine wpList_mapUpdate_own _ rfl _ _ _ 88 rfl 9 4 law9 under88 (plainElem (H := Unit) Try.prog 4) w.heap.size k D rfl hmap3 (by unfold maxLen; omega) _ _ _ rfl rfl hkey _ [] (plainElem_bool Try.underlying4 true) ?_; intro w4 hm4 hg4)
                | go_in)
              go_roundw
              case rel => exact ⟨k + 1, by omega, by go_num, HNi.out.push2 HO.out HR.out HV.out HG.out.1 HG.out.2.1 HG.out.2.2 hm4 hg4⟩
              case measure => simp [intOf]; omega
    · have hkn : k = n := by omega
      subst hkn
      obtain ⟨xs, hown, houts⟩ := hN.out.row
      obtain ⟨a3, L3, c3, hL3, e3⟩ := ownsRow_slice hown
      subst e3
      have HL3 := hide hL3
      have HO := hide (And.intro hown houts)
      clear hown houts hL3
      by_cases hz : L3 = 0
      · subst hz
        go_wp2
        go_ret
        exact ⟨hN.out.below, .inl ⟨by rw [← sel_len]; exact HL3.out, rfl⟩⟩
      · have hz' : 0 < L3 := by omega
        clear hz
        have BL := hide hN.out.below
        have f0 : wo.cell? ⟨bM + 1, 0, none⟩ = some (.pointer (some ⟨bM, 0, none⟩)) := (BL.out.cell (p := ⟨bM + 1, 0, none⟩) (by show bM + 1 < _; omega)).trans R0.out.1
        have f2 : wo.cell? ⟨bM + 1, 2, none⟩ = some (.slice (some ⟨bB, 0, none⟩) m m) := (BL.out.cell (p := ⟨bM + 1, 2, none⟩) (by show bM + 1 < _; omega)).trans R0.out.2.2
        have g0 : wo.cell? ⟨bM, 0, none⟩ = some (.string nm) := range_below BL.out (by omega) HB.out.half.met 0 _ rfl
        have g1 : wo.cell? ⟨bM, 1, none⟩ = some (.int .i64 z1) := range_below BL.out (by omega) HB.out.half.met 1 _ rfl
        have g2 : wo.cell? ⟨bM, 2, none⟩ = some (.int .i64 z2) := range_below BL.out (by omega) HB.out.half.met 2 _ rfl
        have g3 : wo.cell? ⟨bM, 3, none⟩ = some (.int .i64 z3) := range_below BL.out (by omega) HB.out.half.met 3 _ rfl
        have g4 : wo.cell? ⟨bM, 4, none⟩ = some (.int .i64 z4) := range_below BL.out (by omega) HB.out.half.met 4 _ rfl
        have S0 := hide (And.intro f0 (And.intro g0 (And.intro g1 (And.intro g2 (And.intro g3 g4)))))
        have SA := hide (show ∀ o, (wo.alloc o).cell? ⟨bM + 1, 0, none⟩ = some (.pointer (some ⟨bM, 0, none⟩)) ∧ (wo.alloc o).cell? ⟨bM, 0, none⟩ = some (.string nm) ∧ (wo.alloc o).cell? ⟨bM, 1, none⟩ = some (.int .i64 z1) ∧ (wo.alloc o).cell? ⟨bM, 2, none⟩ = some (.int .i64 z2) ∧ (wo.alloc o).cell? ⟨bM, 3, none⟩ = some (.int .i64 z3) ∧ (wo.alloc o).cell? ⟨bM, 4, none⟩ = some (.int .i64 z4) from fun o => ⟨(World.grownBy_alloc wo o none).cell f0 (by simp), (World.grownBy_alloc wo o none).cell g0 (by simp), (World.grownBy_alloc wo o none).cell g1 (by simp), (World.grownBy_alloc wo o none).cell g2 (by simp), (World.grownBy_alloc wo o none).cell g3 (by simp), (World.grownBy_alloc wo o none).cell g4 (by simp)⟩)
        have f2' : ∀ o, (wo.alloc o).cell? ⟨bM + 1, 2, none⟩ = some (.slice (some ⟨bB, 0, none⟩) m m) := fun o => (World.grownBy_alloc wo o none).cell f2 (by simp)
        clear f0 f2 g0 g1 g2 g3 g4
        go_wp2_with fail
        go_region_held3 (fun w' => w'.cell? ⟨bM + 1, 0, none⟩ = some (.pointer (some ⟨bM, 0, none⟩)) ∧ w'.cell? ⟨bM, 0, none⟩ = some (.string nm) ∧ w'.cell? ⟨bM, 1, none⟩ = some (.int .i64 z1) ∧ w'.cell? ⟨bM, 2, none⟩ = some (.int .i64 z2) ∧ w'.cell? ⟨bM, 3, none⟩ = some (.int .i64 z3) ∧ w'.cell? ⟨bM, 4, none⟩ = some (.int .i64 z4))
          (first | exact S0.out | exact SA.out _)
          (fail)
        go_wp2_with fail
        clear f2'
        generalize hwN : (wo.alloc (.cells #[.string nm, .int .i64 (wrap64 (z1 + 1)), .int .i64 z2, .int .i64 z3, .int .i64 z4, .slice none 0 0, .slice a3 L3 c3] 45)).drew = wN at *
        have hBN : BS wo (wrap64 (z1 + 1)) (.slice a3 L3 c3) 0 wN := by rw [← hwN]; exact BS.start wo _ _ _ _ _ _
        have HBN := hide hBN
        clear hBN hwN S0 SA
        go_loopw [120] (fun i wr => ∃ q : Nat, q ≤ m ∧ i = .int .i64 q ∧ Hid (BS wo (wrap64 (z1 + 1)) (.slice a3 L3 c3) q wr)) (fun i _ => m - (intOf i).toNat)
        case atStart => exact ⟨0, Nat.zero_le _, rfl, HBN.out⟩
        case round =>
          obtain ⟨q, hq, rfl, hS⟩ := hrel
          rename World => wi
          by_cases hlq : q < m
          · obtain ⟨pb, h1, h2, h3, h4⟩ := HB.out.bods q hlq
            have BLi := hide (BL.out.trans (hS.out.below.mono BL.out.size))
            have hbB : bB < w.heap.size := by omega
            have d0 : wi.cell? ⟨bB, q * 3, none⟩ = some (.pointer (some ⟨pb, 0, none⟩)) := range_below BLi.out hbB h3 0 _ rfl
            have d1 := range_below BLi.out hbB h3 1 _ rfl
            have d2 := range_below BLi.out hbB h3 2 _ rfl
            have p0 : ∀ o, (wi.alloc o).cell? ⟨pb, 0, none⟩ = some (.string (B q).id) := fun o => (World.grownBy_alloc wi o none).cell (range_below BLi.out h2 h4 0 _ rfl) (by simp)
            have p1 : ∀ o, (wi.alloc o).cell? ⟨pb, 1, none⟩ = some (.int .i64 (B q).size) := fun o => (World.grownBy_alloc wi o none).cell (range_below BLi.out h2 h4 1 _ rfl) (by simp)
            have p2 : ∀ o, (wi.alloc o).cell? ⟨pb, 2, none⟩ = some (.int .i64 (B q).office) := fun o => (World.grownBy_alloc wi o none).cell (range_below BLi.out h2 h4 2 _ rfl) (by simp)
            have p3 : ∀ o, (wi.alloc o).cell? ⟨pb, 3, none⟩ = some (.int .i64 (B q).legal) := fun o => (World.grownBy_alloc wi o none).cell (range_below BLi.out h2 h4 3 _ rfl) (by simp)
            have p4 : ∀ o, (wi.alloc o).cell? ⟨pb, 4, none⟩ = some (.int .i64 (B q).sf) := fun o => (World.grownBy_alloc wi o none).cell (range_below BLi.out h2 h4 4 _ rfl) (by simp)
            have p5 : ∀ o, (wi.alloc o).cell? ⟨pb, 5, none⟩ = some (.int .i64 (B q).rounds) := fun o => (World.grownBy_alloc wi o none).cell (range_below BLi.out h2 h4 5 _ rfl) (by simp)
            obtain ⟨D, hmap⟩ := hN.out.map
            have hlb := hN.out.lt
            have hmi : wi.ownsMap Try.prog 9 (plainElem (H := Unit) Try.prog 4) w.heap.size k D := hmap.kept (below_grown hS.out.below) (by simp)
            obtain ⟨x, hlook⟩ := look88 (wi.alloc (.cells #[.pointer (some ⟨pb, 0, none⟩), .int .i64 (B q).members, .bool (B q).short] 87)) w.heap.size k D (hmi.alloc _) (B q).id (HK.out.2 q hlq)
            clear h1 h2 h3 h4 hmap hmi
            cases x with
            | false =>
              have hSn := hide ((hS.out.down ((Below.refl _ _).alloc (Nat.le_refl _) (.cells #[.pointer (some ⟨pb, 0, none⟩), .int .i64 (B q).members, .bool (B q).short] 87))).le (Nat.le_succ q))
              go_wp2
              go_roundw
              case rel => exact ⟨q + 1, by omega, by go_num, hSn.out⟩
              case measure => simp [intOf]; omega
            | true =>
              obtain ⟨v, j, xs, c5, hj, hown⟩ := hS.out.row
              have hfr := hS.out.fr
              have x1 : some wo.heap.size ≠ v.ownBlock := fun e => by have := (hown.lt _ e.symm).1; omega
              have x2 : some (wi.heap.size + 1) ≠ v.ownBlock := fun e => by have := (hown.lt _ e.symm).2; omega
              have hlS := hS.out.lt
              have HC := hide (And.intro c5 (And.intro hfr hown))
              clear c5 hfr hown
              go_wp2
              clear hlook p0 p1 p2 p3 p4 p5 d0 d1 d2
              generalize hW2 : (wi.alloc (.cells #[.pointer (some ⟨pb, 0, none⟩), .int .i64 (B q).members, .bool (B q).short] 87)).alloc (.cells #[.string (B q).id, .int .i64 (B q).size, .int .i64 (B q).members, .int .i64 (B q).legal, .int .i64 (B q).sf, .int .i64 (B q).rounds] 85) = W2 at *
              have hsz2 : W2.heap.size = wi.heap.size + 1 + 1 := by rw [← hW2]; simp
              have hb2 : Below wi.heap.size wi W2 := by rw [← hW2]; exact ((Below.refl _ _).alloc (Nat.le_refl _) _).alloc (by simp) _
              have hS2 := hide (hS.out.down hb2)
              have hown2 : W2.ownsRow (wo.heap.size + 1) 85 6 v j xs := by rw [← hW2]; exact (HC.out.2.2.alloc _).alloc _
              have hc5 : W2.cell? ⟨wo.heap.size, 5, none⟩ = some v := (hb2.cell (p := ⟨wo.heap.size, 5, none⟩) hlS).trans HC.out.1
              have hf5 : W2.frozen? ⟨wo.heap.size, 5, none⟩ = false := (hb2.frozen (p := ⟨wo.heap.size, 5, none⟩) hlS).trans HC.out.2.1
              have hr2 : W2.rangeAt (wi.heap.size + 1) 0 [.string (B q).id, .int .i64 (B q).size, .int .i64 (B q).members, .int .i64 (B q).legal, .int .i64 (B q).sf, .int .i64 (B q).rounds] := by
                rw [← hW2]
                have := range_made (wi.alloc (.cells #[.pointer (some ⟨pb, 0, none⟩), .int .i64 (B q).members, .bool (B q).short] 87)) [.string (B q).id, .int .i64 (B q).size, .int .i64 (B q).members, .int .i64 (B q).legal, .int .i64 (B q).sf, .int .i64 (B q).rounds] 85
                rwa [show (wi.alloc (.cells #[.pointer (some ⟨pb, 0, none⟩), .int .i64 (B q).members, .bool (B q).short] 87)).heap.size = wi.heap.size + 1 by simp] at this
              have l0 : W2.cell? ⟨wi.heap.size + 1, 0, none⟩ = some (.string (B q).id) := hr2 0 _ rfl
              have l1 : W2.cell? ⟨wi.heap.size + 1, 1, none⟩ = some (.int .i64 (B q).size) := hr2 1 _ rfl
              have l2 : W2.cell? ⟨wi.heap.size + 1, 2, none⟩ = some (.int .i64 (B q).members) := hr2 2 _ rfl
              have l3 : W2.cell? ⟨wi.heap.size + 1, 3, none⟩ = some (.int .i64 (B q).legal) := hr2 3 _ rfl
              have l4 : W2.cell? ⟨wi.heap.size + 1, 4, none⟩ = some (.int .i64 (B q).sf) := hr2 4 _ rfl
              have l5 : W2.cell? ⟨wi.heap.size + 1, 5, none⟩ = some (.int .i64 (B q).rounds) := hr2 5 _ rfl
              have T0 := hide (And.intro hc5 (And.intro hf5 (And.intro l0 (And.intro l1 (And.intro l2 (And.intro l3 (And.intro l4 l5)))))))
              have TA := hide (show ∀ o, (W2.alloc o).cell? ⟨wo.heap.size, 5, none⟩ = some v ∧ (W2.alloc o).frozen? ⟨wo.heap.size, 5, none⟩ = false ∧ (W2.alloc o).cell? ⟨wi.heap.size + 1, 0, none⟩ = some (.string (B q).id) ∧ (W2.alloc o).cell? ⟨wi.heap.size + 1, 1, none⟩ = some (.int .i64 (B q).size) ∧ (W2.alloc o).cell? ⟨wi.heap.size + 1, 2, none⟩ = some (.int .i64 (B q).members) ∧ (W2.alloc o).cell? ⟨wi.heap.size + 1, 3, none⟩ = some (.int .i64 (B q).legal) ∧ (W2.alloc o).cell? ⟨wi.heap.size + 1, 4, none⟩ = some (.int .i64 (B q).sf) ∧ (W2.alloc o).cell? ⟨wi.heap.size + 1, 5, none⟩ = some (.int .i64 (B q).rounds) from fun o => ⟨(World.grownBy_alloc W2 o none).cell hc5 (by simp), (World.frozen?_of_block (a := ⟨wo.heap.size, 5, none⟩) (Below.heap_alloc W2 o _ (by show wo.heap.size < _; omega))).trans hf5, (World.grownBy_alloc W2 o none).cell l0 (by simp), (World.grownBy_alloc W2 o none).cell l1 (by simp), (World.grownBy_alloc W2 o none).cell l2 (by simp), (World.grownBy_alloc W2 o none).cell l3 (by simp), (World.grownBy_alloc W2 o none).cell l4 (by simp), (World.grownBy_alloc W2 o none).cell l5 (by simp)⟩)
              have hle2 : wo.heap.size < W2.heap.size := by omega
              clear hsz2
              have HC5 := hide hc5
              have HW := hide hown2
              clear hc5 hf5 l0 l1 l2 l3 l4 l5 hr2 hown2 hW2 hb2
              go_wp2_with fail
              have hc5 : W2.cell? ⟨wo.heap.size, 5, none⟩ = some v := HC5.out
              have hc5' : ∀ o, (W2.alloc o).cell? ⟨wo.heap.size, 5, none⟩ = some v := fun o => (TA.out o).1
              have hne5 : wo.heap.size ≠ wi.heap.size + 1 := by omega
              have l0 := T0.out.2.2.1
              have l1 := T0.out.2.2.2.1
              have l2 := T0.out.2.2.2.2.1
              have l3 := T0.out.2.2.2.2.2.1
              have l4 := T0.out.2.2.2.2.2.2.1
              have l5 := T0.out.2.2.2.2.2.2.2
              refine wp_region_noPanic ?_
              go_region_law (refine step_append_bod _ rfl _ _ rfl (wo.heap.size + 1) v j xs rfl (HW.out.alloc _) (by omega) W2.heap.size _ [.string (B q).id, .int .i64 (B q).size, .int .i64 (B q).members, .int .i64 (B q).legal, .int .i64 (B q).sf, .int .i64 (B q).rounds] rfl (by simp [Value.oneCell']) rfl (heap_alloc_new W2 _) (by simp; omega) (W2.heap.size + 1) (by simp) ?_; intro g cap w3 ho hg hgg hlg; have q1 := hg.cell (TA.out _).1 x1; have q2 := (World.frozen?_of_block (a := ⟨wo.heap.size, 5, none⟩) (hg.block _ (by show wo.heap.size < (W2.heap.push _).size; simp; omega) x1)).trans (TA.out _).2.1)
              all_goals refine NoPanic.normal ?_
              all_goals
                go_wp2
                go_roundw
                case rel => exact ⟨q + 1, by omega, by go_num, hS2.out.put hj HW.out HC5.out hg ho⟩
                case measure => simp [intOf]; omega
          · have hqe : q = m := by omega
            subst hqe
            go_wp2
            go_ret
            exact ⟨BL.out.trans (hS.out.below.mono BL.out.size), .inr ⟨by rw [← sel_len]; have := HL3.out; omega, wo.heap.size, rfl, next_at HO.out HL3.out hz' hS.out⟩⟩
end Go.Proofs.Qxb6615896a
