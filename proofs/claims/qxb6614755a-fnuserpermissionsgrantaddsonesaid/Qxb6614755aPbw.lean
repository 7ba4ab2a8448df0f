/- zzBuild (34): the walk. -/
import Derived.Test.Qxb6614755aPbd
namespace Go.Proofs.Qxb6614755a
open Go.RowKit

/-- The input is such as the law's guards let by. -/
structure InOk (nu nr : Nat) (U : Nat → UIn) (R : Nat → RIn) : Prop where
  lu : nu ≤ 1048576
  lr : nr ≤ 1048576
  sum : su U nu + sg R nr ≤ 1048576
  uname : ∀ i, i < nu → (U i).name.size ≤ maxLen
  rname : ∀ k, k < nr → (R k).name.size ≤ maxLen
  roles : ∀ i, i < nu → ∀ j, j < (U i).rl → ((U i).R j).size ≤ maxLen ∧ ∃ k, k < nr ∧ (R k).name = (U i).R j
  perms : ∀ k, k < nr → ∀ q, q < (R k).gl → ((R k).G q).1.size ≤ maxLen ∧ ((R k).G q).2.size ≤ maxLen

theorem InOk.rl {nu nr : Nat} {U : Nat → UIn} {R : Nat → RIn} (h : InOk nu nr U R) {i : Nat} (hi : i < nu) : (U i).rl ≤ 1048576 := by have := su_le U hi; have := h.sum; omega
theorem InOk.gl {nu nr : Nat} {U : Nat → UIn} {R : Nat → RIn} (h : InOk nu nr U R) {i : Nat} (hi : i < nr) : (R i).gl ≤ 1048576 := by have := sg_le R hi; have := h.sum; omega

def BuiltAs (nu nr : Nat) (U : Nat → UIn) (R : Nat → RIn) (w : World) (e : Ending) (w' : World) : Prop :=
  e = .returned (.pointer (some ⟨w.heap.size + 7, 0, none⟩)) ∧ Built w (w.heap.size + 7) (nr + nu + 2 * su U nu + 4 * sg R nr) (puI U nu) (paI U nu) (prK R nr) (pgK R nr) w'

set_option maxRecDepth 100000 in
set_option maxHeartbeats 2000000 in
theorem build_any (a a2 : Option Addr) (nu nr cap cap2 : Nat) (U : Nat → UIn) (R : Nat → RIn) (w : World) (h : UsAt w a nu U) (h2 : RsAt w a2 nr R) (hok : InOk nu nr U R) :
    Calls Try.prog 34 #[.slice a nu cap, .slice a2 nr cap2] w (BuiltAs nu nr U R w) := by
  have H := hide h
  have H2 := hide h2
  have HO := hide hok
  have hnu := hok.lu
  have hnr := hok.lr
  clear h h2 hok
  go_enter Try.func34, Try.ntmps34
  go_wp2_with fail
  refine (newPolicy_new w).mono ?_
  rintro e w1 ⟨rfl, hN⟩
  have B1 := hide (built_new hN)
  clear hN
  go_wp2
  go_loopw [6] (fun v wr => ∃ k : Nat, k ≤ nr ∧ v = .int .i64 k ∧ Hid (Built w (w.heap.size + 7) k (fun _ => False) (fun _ _ => False) (prK R k) (fun _ _ => False) wr)) (fun v _ => nr - (intOf v).toNat)
  case atStart => exact ⟨0, Nat.zero_le _, rfl, B1.out.iff (fun _ => Iff.rfl) (fun _ _ => Iff.rfl) (fun _ => hit_zero.symm) (fun _ _ => Iff.rfl)⟩
  case round =>
    clear B1
    obtain ⟨k, hk, rfl, hB⟩ := hrel
    rename World => wr
    by_cases hlt : k < nr
    · obtain ⟨b, off, rfl, ⟨c0, _⟩, _⟩ := (H2.out.below hB.out.bel).at hlt
      have CL := hide (hB.out.addRole (by omega) (R k).name (HO.out.rname k hlt))
      have kk : ((k : Nat) : Int) < ((nr : Nat) : Int) := by omega
      go_wp2_with fail
      refine Calls.mono CL.out ?_
      rintro e w2 ⟨rfl, hb2⟩
      have B2 := hide hb2
      clear hb2 CL c0
      go_wp2
      go_roundw
      case rel => exact ⟨k + 1, by omega, by go_num, B2.out.iff (fun _ => Iff.rfl) (fun _ _ => Iff.rfl) (fun y => Iff.trans (or_congr_right eq_comm) hit_succ.symm) (fun _ _ => ⟨fun z => z.2, False.elim⟩)⟩
      case measure => simp [intOf]; omega
    · obtain rfl : k = nr := by omega
      clear hlt hk
      go_wp2
      go_loopw [7] (fun v wr => ∃ i : Nat, i ≤ nu ∧ v = .int .i64 i ∧ Hid (Built w (w.heap.size + 7) (k + i) (puI U i) (fun _ _ => False) (prK R k) (fun _ _ => False) wr)) (fun v _ => nu - (intOf v).toNat)
      case atStart => exact ⟨0, Nat.zero_le _, rfl, hB.out.iff (fun _ => hit_zero.symm) (fun _ _ => Iff.rfl) (fun _ => Iff.rfl) (fun _ _ => Iff.rfl)⟩
      case round =>
        clear hB
        obtain ⟨i, hi, rfl, hB⟩ := hrel
        rename World => wr
        by_cases hlt : i < nu
        · obtain ⟨b, off, rfl, ⟨c0, _⟩, _⟩ := (H.out.below hB.out.bel).at hlt
          have CL := hide (hB.out.addUser (by omega) (U i).name (HO.out.uname i hlt))
          have kk : ((i : Nat) : Int) < ((nu : Nat) : Int) := by omega
          go_wp2_with fail
          refine Calls.mono CL.out ?_
          rintro e w2 ⟨rfl, hb2⟩
          have B2 := hide hb2
          clear hb2 CL c0
          go_wp2
          go_roundw
          case rel => exact ⟨i + 1, by omega, by go_num, B2.out.iff (fun y => Iff.trans (or_congr_right eq_comm) hit_succ.symm) (fun _ _ => ⟨fun z => z.2, False.elim⟩) (fun _ => Iff.rfl) (fun _ _ => Iff.rfl)⟩
          case measure => simp [intOf]; omega
        · obtain rfl : i = nu := by omega
          clear hlt hi
          go_wp2
          go_loopw [8] (fun v wr => ∃ t : Nat, t ≤ i ∧ v = .int .i64 t ∧ Hid (Built w (w.heap.size + 7) (k + i + 2 * su U t) (puI U i) (paI U t) (prK R k) (fun _ _ => False) wr)) (fun v _ => i - (intOf v).toNat)
          case atStart => exact ⟨0, Nat.zero_le _, rfl, hB.out.iff (fun _ => Iff.rfl) (fun _ _ => hit_zero.symm) (fun _ => Iff.rfl) (fun _ _ => Iff.rfl)⟩
          case round =>
            clear hB
            obtain ⟨t, ht, rfl, hB⟩ := hrel
            rename World => wr
            by_cases hlt : t < i
            · have hrl := HO.out.rl hlt
              have hsu := su_le U hlt
              have hsum := HO.out.sum
              obtain ⟨b, off, ea, ⟨c0, c1⟩, hS⟩ := H.out.at hlt
              subst ea
              have C := hide (And.intro c0 (And.intro c1 hS))
              have tt : ((t : Nat) : Int) < ((i : Nat) : Int) := by omega
              clear c0 c1 hS
              go_wp2
              go_loopw [9] (fun v wr => ∃ j : Nat, j ≤ (U t).rl ∧ v = .int .i64 j ∧ Hid (Built w (w.heap.size + 7) (k + i + 2 * (su U t + j)) (puI U i) (paJ U t j) (prK R k) (fun _ _ => False) wr)) (fun v _ => (U t).rl - (intOf v).toNat)
              case atStart => exact ⟨0, Nat.zero_le _, rfl, hB.out.iff (fun _ => Iff.rfl) (fun x y => ⟨Or.inl, fun z => z.elim id (fun z => (hit_zero.1 z.2).elim)⟩) (fun _ => Iff.rfl) (fun _ _ => Iff.rfl)⟩
              case round =>
                clear hB
                obtain ⟨j, hj, rfl, hB⟩ := hrel
                rename World => wr
                have lb : b < w.heap.size := cell_in' C.out.1
                have k1 := (hB.out.bel.cell (p := ⟨b, off + t * 2 + 1, none⟩) lb).trans C.out.2.1
                by_cases hltj : j < (U t).rl
                · obtain ⟨rb, ro, era, cj⟩ := C.out.2.2.at hltj
                  have cj' := cj j hltj
                  have lr : rb < w.heap.size := cell_in' cj'
                  obtain ⟨hrs, z, hz, hnz⟩ := HO.out.roles t hlt j hltj
                  have CL := hide (fun V hV => (hB.out.stays (w' := V) hV).assign (by omega) (U t).name ((U t).R j) (HO.out.uname t hlt) hrs ⟨t, hlt, rfl⟩ ⟨z, hz, by rw [hnz]⟩)
                  have c1 := C.out.2.1
                  rw [era] at c1 k1
                  have SB := hide (show ∀ V, Below w.heap.size w V → V.cell? ⟨b, off + t * 2, none⟩ = some (.string (U t).name) ∧ V.cell? ⟨b, off + t * 2 + 1, none⟩ = some (.slice (some ⟨rb, ro, none⟩) (U t).rl (U t).rc) ∧ V.cell? ⟨rb, ro + j, none⟩ = some (.string ((U t).R j)) from fun V hV => ⟨(hV.cell (p := ⟨b, _, none⟩) lb).trans C.out.1, (hV.cell (p := ⟨b, _, none⟩) lb).trans c1, (hV.cell (p := ⟨rb, _, none⟩) lr).trans cj'⟩)
                  have jj : ((j : Nat) : Int) < (((U t).rl : Nat) : Int) := by omega
                  clear cj cj' c1 lb lr era hrs hnz hz
                  go_wp2_with fail
                  go_region_held3 (fun V => V.cell? ⟨b, off + t * 2, none⟩ = some (.string (U t).name) ∧ V.cell? ⟨b, off + t * 2 + 1, none⟩ = some (.slice (some ⟨rb, ro, none⟩) (U t).rl (U t).rc) ∧ V.cell? ⟨rb, ro + j, none⟩ = some (.string ((U t).R j)))
                    (first | exact SB.out _ (below_drew hB.out.bel) | exact SB.out _ hb2.bel)
                    ((go_at_call 45; refine Calls.mono (CL.out _ (grown_drew _)) ?_; rintro e w2 ⟨rfl, hb2⟩))
                  go_wp2
                  go_roundw
                  case rel =>
                    refine ⟨j + 1, by omega, by go_num, hide ?_⟩
                    have hb3 := hb2.iff (fun _ => Iff.rfl) (pa' := paJ U t (j + 1)) (fun x y => ?_) (fun _ => Iff.rfl) (fun _ _ => Iff.rfl)
                    · rw [show k + i + 2 * (su U t + (j + 1)) = k + i + 2 * (su U t + j) + 2 by omega]; exact hb3
                    · unfold paJ
                      rw [hit_succ]
                      constructor
                      · rintro ((z | ⟨z1, z2⟩) | ⟨rfl, rfl⟩)
                        · exact .inl z
                        · exact .inr ⟨z1, .inl z2⟩
                        · exact .inr ⟨rfl, .inr rfl⟩
                      · rintro (z | ⟨z1, z2 | z2⟩)
                        · exact .inl (.inl z)
                        · exact .inl (.inr ⟨z1, z2⟩)
                        · exact .inr ⟨z1.symm, z2.symm⟩
                  case measure => simp [intOf]; omega
                · clear lb
                  go_wp2
                  go_roundw
                  case rel =>
                    obtain rfl : j = (U t).rl := by omega
                    exact ⟨t + 1, by omega, by go_num, hB.out.iff (fun _ => Iff.rfl) (fun x y => hit_succ.symm) (fun _ => Iff.rfl) (fun _ _ => Iff.rfl)⟩
                  case measure => simp [intOf]; omega
            · obtain rfl : t = i := by omega
              clear hlt ht
              go_wp2
              go_loopw [10] (fun v wr => ∃ z : Nat, z ≤ k ∧ v = .int .i64 z ∧ Hid (Built w (w.heap.size + 7) (k + t + 2 * su U t + 4 * sg R z) (puI U t) (paI U t) (prK R k) (pgK R z) wr)) (fun v _ => k - (intOf v).toNat)
              case atStart => exact ⟨0, Nat.zero_le _, rfl, hB.out.iff (fun _ => Iff.rfl) (fun _ _ => Iff.rfl) (fun _ => Iff.rfl) (fun _ _ => hit_zero.symm)⟩
              case round =>
                clear hB
                obtain ⟨z, hz, rfl, hB⟩ := hrel
                rename World => wr
                by_cases hlt : z < k
                · have hgl := HO.out.gl hlt
                  have hsg := sg_le R hlt
                  have hsum := HO.out.sum
                  obtain ⟨b, off, ea, ⟨c0, c1⟩, hS⟩ := H2.out.at hlt
                  subst ea
                  have C := hide (And.intro c0 (And.intro c1 hS))
                  have tt : ((z : Nat) : Int) < ((k : Nat) : Int) := by omega
                  clear c0 c1 hS
                  go_wp2
                  go_loopw [11] (fun v wr => ∃ q : Nat, q ≤ (R z).gl ∧ v = .int .i64 q ∧ Hid (Built w (w.heap.size + 7) (k + t + 2 * su U t + 4 * (sg R z + q)) (puI U t) (paI U t) (prK R k) (pgQ R z q) wr)) (fun v _ => (R z).gl - (intOf v).toNat)
                  case atStart => exact ⟨0, Nat.zero_le _, rfl, hB.out.iff (fun _ => Iff.rfl) (fun _ _ => Iff.rfl) (fun _ => Iff.rfl) (fun x y => ⟨Or.inl, fun z => z.elim id (fun z => (hit_zero.1 z.2).elim)⟩)⟩
                  case round =>
                    clear hB
                    obtain ⟨q, hq, rfl, hB⟩ := hrel
                    rename World => wr
                    have lb : b < w.heap.size := cell_in' C.out.1
                    have k1 := (hB.out.bel.cell (p := ⟨b, off + z * 2 + 1, none⟩) lb).trans C.out.2.1
                    by_cases hltq : q < (R z).gl
                    · obtain ⟨gb, go, ega, g0, g1⟩ := C.out.2.2.at hltq
                      obtain ⟨p1, p2, hp⟩ : ∃ p1 p2, (R z).G q = (p1, p2) := ⟨_, _, rfl⟩
                      obtain ⟨hs1, hs2⟩ := HO.out.perms z hlt q hltq
                      rw [hp] at g0 g1 hs1 hs2
                      dsimp only at g0 g1 hs1 hs2
                      have lr : gb < w.heap.size := cell_in' g0
                      have CL := hide (fun V hV => (hB.out.stays (w' := V) hV).grant (by omega) (R z).name p1 p2 (HO.out.rname z hlt) hs1 hs2 ⟨z, hlt, rfl⟩)
                      have c1 := C.out.2.1
                      rw [ega] at c1 k1
                      have SB := hide (show ∀ V, Below w.heap.size w V → V.cell? ⟨b, off + z * 2, none⟩ = some (.string (R z).name) ∧ V.cell? ⟨b, off + z * 2 + 1, none⟩ = some (.slice (some ⟨gb, go, none⟩) (R z).gl (R z).gc) ∧ V.cell? ⟨gb, go + q * 2, none⟩ = some (.string p1) ∧ V.cell? ⟨gb, go + q * 2 + 1, none⟩ = some (.string p2) from fun V hV => ⟨(hV.cell (p := ⟨b, _, none⟩) lb).trans C.out.1, (hV.cell (p := ⟨b, _, none⟩) lb).trans c1, (hV.cell (p := ⟨gb, _, none⟩) lr).trans g0, (hV.cell (p := ⟨gb, _, none⟩) lr).trans g1⟩)
                      have jj : ((q : Nat) : Int) < (((R z).gl : Nat) : Int) := by omega
                      have HP := hide hp
                      clear g0 g1 c1 lb lr ega hs1 hs2 hp
                      go_wp2_with fail
                      go_region_held3 (fun V => V.cell? ⟨b, off + z * 2, none⟩ = some (.string (R z).name) ∧ V.cell? ⟨b, off + z * 2 + 1, none⟩ = some (.slice (some ⟨gb, go, none⟩) (R z).gl (R z).gc) ∧ V.cell? ⟨gb, go + q * 2, none⟩ = some (.string p1) ∧ V.cell? ⟨gb, go + q * 2 + 1, none⟩ = some (.string p2))
                        (first | exact SB.out _ (below_drew hB.out.bel) | exact SB.out _ hb2.bel)
                        ((go_at_call 36; refine Calls.mono (CL.out _ (grown_drew _)) ?_; rintro e w2 ⟨rfl, hb2⟩))
                      go_wp2
                      go_roundw
                      case rel =>
                        refine ⟨q + 1, by omega, by go_num, hide ?_⟩
                        have hb3 := hb2.iff (fun _ => Iff.rfl) (fun _ _ => Iff.rfl) (fun _ => Iff.rfl) (pg' := pgQ R z (q + 1)) (fun x y => ?_)
                        · rw [show k + t + 2 * su U t + 4 * (sg R z + (q + 1)) = k + t + 2 * su U t + 4 * (sg R z + q) + 4 by omega]; exact hb3
                        · unfold pgQ
                          rw [hit_succ, HP.out]
                          constructor
                          · rintro ((z | ⟨z1, z2⟩) | ⟨rfl, rfl⟩)
                            · exact .inl z
                            · exact .inr ⟨z1, .inl z2⟩
                            · exact .inr ⟨rfl, .inr rfl⟩
                          · rintro (z | ⟨z1, z2 | z2⟩)
                            · exact .inl (.inl z)
                            · exact .inl (.inr ⟨z1, z2⟩)
                            · exact .inr ⟨z1.symm, z2.symm⟩
                      case measure => simp [intOf]; omega
                    · clear lb
                      go_wp2
                      go_roundw
                      case rel =>
                        obtain rfl : q = (R z).gl := by omega
                        exact ⟨z + 1, by omega, by go_num, hB.out.iff (fun _ => Iff.rfl) (fun _ _ => Iff.rfl) (fun _ => Iff.rfl) (fun x y => hit_succ.symm)⟩
                      case measure => simp [intOf]; omega
                · obtain rfl : z = k := by omega
                  go_wp2
                  go_ret
                  exact ⟨rfl, hB.out⟩
end Go.Proofs.Qxb6614755a
