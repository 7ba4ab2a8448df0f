/- FnNameSetSortedCutIsMergeUnion: the walk. -/
import Derived.Test.Qxb6614755aRead
import Derived.Test.Qxb6614755aKeys
import Derived.Test.Qxb6614755aBytes
import Derived.Deep.DeepFit
namespace Go.Proofs.Qxb6614755a
open Go.RowKit Go.Maps Go.Sort Go.WideMaps

theorem Drew.below {w w' : World} (h : Drew w w') (B : Nat) : Below B w w' := by
  obtain ⟨q, rfl⟩ := h
  exact ⟨rfl, rfl, rfl, Nat.le_refl _, fun k hk => rfl⟩

theorem tl_data (S : Nat → ByteArray) (k : Nat) : (S k).data.toList = tl S k := (ByteArray.toList_eq (S k)).symm

/-- The set D holds just the strings S lo .. S (hi - 1). -/
def HasIn (D : DataW Unit) (S : Nat → ByteArray) (lo hi : Nat) : Prop := ∀ x : Bs, Maps.has D (.string x) = true ↔ ∃ j, lo ≤ j ∧ j < hi ∧ tl S j = x

theorem hasIn_empty (S : Nat → ByteArray) (k : Nat) : HasIn (.map []) S k k := fun x => by
  constructor
  · intro h; simp [Maps.has] at h
  · rintro ⟨j, h1, h2, _⟩; omega

theorem hasIn_put {D : DataW Unit} {S : Nat → ByteArray} {lo k : Nat} (h : HasIn D S lo k) (hlo : lo ≤ k) (hm : Maps.IsMap D) : HasIn (D.put (.string (tl S k)) (.agg [])) S lo (k + 1) := fun x => by
  by_cases e : x = tl S k
  · subst e
    rw [Maps.has_put_same hm (by trivial)]
    exact ⟨fun _ => ⟨k, hlo, by omega, rfl⟩, fun _ => rfl⟩
  · rw [Maps.has_put_other (fun h => e (by injection h)), h x]
    constructor
    · rintro ⟨j, h1, h2, h3⟩; exact ⟨j, h1, by omega, h3⟩
    · rintro ⟨j, h1, h2, h3⟩
      by_cases ej : j = k
      · subst ej; exact absurd h3.symm e
      · exact ⟨j, h1, by omega, h3⟩

theorem SortedRow.below {w w' : World} {a : Option Addr} {m : Nat} {S : Nat → ByteArray} {mem : Bs → Bool} (h : SortedRow w a m S mem) (hb : Below w.heap.size w w') : SortedRow w' a m S mem := ⟨strs_below hb h.strs, h.inc, h.has⟩
theorem SortedRow.drew {w w' : World} {a : Option Addr} {m : Nat} {S : Nat → ByteArray} {mem : Bs → Bool} (h : SortedRow w a m S mem) (hb : Drew w w') : SortedRow w' a m S mem := ⟨hb.strs h.strs, h.inc, h.has⟩

theorem SortedRow.increasing {w : World} {a : Option Addr} {m : Nat} {S : Nat → ByteArray} {mem : Bs → Bool} (h : SortedRow w a m S mem) (hm : m ≤ maxLen) (cap : Nat) :
    Calls Try.prog 24 #[.slice a m cap] w fun e w' => e = .returned (.bool true) ∧ Drew w w' :=
  increasing_yes a m cap S w hm h.strs (fun j hj => less_yes (h.inc j (j + 1) (Nat.lt_succ_self _) hj))

theorem SortedRow.sortedHas {w : World} {a : Option Addr} {m : Nat} {S : Nat → ByteArray} {mem : Bs → Bool} (h : SortedRow w a m S mem) (hm : m ≤ maxLen) (cap : Nat) (x : ByteArray) (hx : mem x.toList = true) :
    Calls Try.prog 25 #[.slice a m cap, .string x] w fun e w' => e = .returned (.bool true) ∧ Drew w w' := by
  obtain ⟨p, hp, e⟩ := (h.has _).2 hx
  refine sortedHas_yes a m cap S x p w hm h.strs hp (fun j hj => ?_) (by rw [beq_iff_eq]; exact e)
  rw [bytesLess_eq]
  rw [← e]
  by_cases hjp : j < p
  · rw [decide_eq_true hjp]; exact decide_eq_true (h.inc j p hjp hp)
  · rw [decide_eq_false hjp]
    refine decide_eq_false (fun hlt => ?_)
    by_cases ejp : j = p
    · subst ejp; exact bs_irrefl _ hlt
    · exact bs_asymm (h.inc p j (by omega) hj) hlt

/-- Behind k rounds: three sets, of the names so far, of those below the cut, of those from it on. -/
def Three (wr : World) (S : Nat → ByteArray) (B zk k : Nat) : Prop := ∃ Dw Dl Dr, wr.ownsMap Try.prog 9 (unitElem (H := Unit)) B k Dw ∧ wr.ownsMap Try.prog 9 (unitElem (H := Unit)) (B + 1) k Dl ∧ wr.ownsMap Try.prog 9 (unitElem (H := Unit)) (B + 1 + 1) k Dr ∧
  HasIn Dw S 0 k ∧ HasIn Dl S 0 (min k zk) ∧ HasIn Dr S zk (max k zk)

set_option maxRecDepth 100000 in
set_option maxHeartbeats 1000000 in
theorem cut_walk (a : Option Addr) (n cap : Nat) (S : Nat → ByteArray) (z : Int) (w : World) (hn : n ≤ maxLen) (h : Strs w a n S) (hsz : ∀ j, j < n → (S j).size ≤ maxLen) :
    Calls Try.prog 5 #[.slice a n cap, .int .i64 z] w fun e w' => e = .returned (.bool true) ∧ Below w.heap.size w w' := by
  have hmm := @run_makeMap Try.prog
  have c1 := bytes22_any a n cap S z w hn h
  have C1 : Hid (Calls Try.prog 22 #[.slice a n cap, .int .i64 z] w (Guards (n ≤ 1048576) w)) := c1
  have H : Hid (Strs w a n S) := h
  have HZ : Hid (∀ j, j < n → (S j).size ≤ maxLen) := hsz
  clear c1 h hsz
  go_enter Try.func5, Try.ntmps5
  go_wp2_with fail
  refine C1.out.mono ?_
  rintro e w' ⟨r, rfl, hr, rfl⟩
  cases r
  · go_wp2
    go_ret
    exact ⟨rfl, Below.refl _ _⟩
  have hn1 := hr rfl
  clear hr C1
  go_wp2_with fail
  refine (stringsBytes_any a n cap S 0 _ hn H.out (by omega)).mono ?_
  rintro e w1 ⟨t, rfl, ht, hd⟩
  by_cases hbig : 1048576 < t
  · go_wp2
    go_ret
    exact ⟨rfl, hd.below _⟩
  by_cases hz0 : z < 0
  · go_wp2
    go_ret
    exact ⟨rfl, hd.below _⟩
  by_cases hz1 : (n : Int) < z
  · go_wp2
    go_ret
    exact ⟨rfl, hd.below _⟩
  obtain ⟨zk, rfl⟩ := Int.eq_ofNat_of_zero_le (show 0 ≤ z by omega)
  have hzk : zk ≤ n := by omega
  have t1 : decide (1048576 < t) = false := decide_eq_false hbig
  have t2 : decide ((zk : Int) < 0) = false := decide_eq_false hz0
  have t3 : decide (n < zk) = false := decide_eq_false (by omega)
  clear hbig hz0 hz1
  have hcell : ∀ k, k < n → ∃ b off, a = some ⟨b, off, none⟩ ∧ b < w1.heap.size ∧ w1.cell? ⟨b, off + k, none⟩ = some (.string (S k)) := fun k hk => by
    rcases hd.strs H.out with h1 | ⟨b, off, h1, h2, h3⟩
    · omega
    · exact ⟨b, off, h1, h2, h3 k hk⟩
  have HC : Hid (∀ k, k < n → ∃ b off, a = some ⟨b, off, none⟩ ∧ b < w1.heap.size ∧ w1.cell? ⟨b, off + k, none⟩ = some (.string (S k))) := hcell
  clear hcell
  go_wp2
  clear hmm
  go_loopw [8] (fun i wr => ∃ k : Nat, k ≤ n ∧ i = .int .i64 k ∧ Hid (Three wr S w1.heap.size zk k) ∧ Hid (Below w1.heap.size w1 wr)) (fun i _ => n - (intOf i).toNat)
  case atStart =>
    refine ⟨0, Nat.zero_le _, rfl, ⟨.map [], .map [], .map [], ?_, ?_, ?_, hasIn_empty S 0, by rw [Nat.zero_min]; exact hasIn_empty S 0, by rw [Nat.zero_max]; exact hasIn_empty S zk⟩, ?_⟩
    · exact ((World.ownsMap_made _ _ _ _).alloc _).alloc _
    · have := ((World.ownsMap_made (w1.alloc (.map #[] 0)) Try.prog 9 (unitElem (H := Unit))).alloc (.map #[] 0))
      simpa using this
    · have := World.ownsMap_made ((w1.alloc (.map #[] 0)).alloc (.map #[] 0)) Try.prog 9 (unitElem (H := Unit))
      simpa using this
    · exact (((Below.refl _ _).alloc (Nat.le_refl _) _).alloc (by simp) _).alloc (by simp; omega) _
  case round =>
    obtain ⟨k, hk, rfl, hT, hB⟩ := hrel
    by_cases hlt : k < n
    · obtain ⟨b, off, rfl, hbl, hck⟩ := HC.out k hlt
      have hck := (hB.out.cell (p := ⟨b, off + k, none⟩) hbl).trans hck
      obtain ⟨Dw, Dl, Dr, how, hol, hor, hw1, hw2, hw3⟩ := hT.out
      have HW : Hid (HasIn Dw S 0 k ∧ HasIn Dl S 0 (min k zk) ∧ HasIn Dr S zk (max k zk)) := ⟨hw1, hw2, hw3⟩
      have hkey : keyOf Try.prog 9 (.string (S k)) = some (.string (tl S k)) := by rw [← tl_data]; exact keyOf_string_mk Try.underlying9 (HZ.out k hlt)
      clear hw1 hw2 hw3 hT
      by_cases hkz : k < zk
      · go_wp2_with (first
          | (at_mapUpdate; refine wpList_mapUpdate_own _ rfl _ _ _ 36 rfl 9 37 law9 Try.underlying36 (unitElem (H := Unit)) w1.heap.size k _ rfl how (by unfold maxLen; omega) _ _ _ rfl rfl hkey _ [] unitElem_mk ?_; intro w2 how2 hg2; have hck2 := hg2.cell hck (by simp; omega))
          | (at_mapUpdate; refine wpList_mapUpdate_own _ rfl _ _ _ 36 rfl 9 37 law9 Try.underlying36 (unitElem (H := Unit)) (w1.heap.size + 1) k _ rfl (hol.kept hg2 (by simp)) (by unfold maxLen; omega) _ _ _ rfl rfl hkey _ [] unitElem_mk ?_; intro w3 hol3 hg3))
        go_roundw
        case rel =>
          refine ⟨k + 1, by omega, by go_num, ⟨_, _, Dr, how2.kept hg3 (by simp), hol3, ((hor.kept hg2 (by simp; omega)).kept hg3 (by simp)).mono (Nat.le_succ _), hasIn_put HW.out.1 (Nat.zero_le _) how.isMap, ?_, ?_⟩, ?_⟩
          · have e1 : min k zk = k := by omega
            have e2 : min (k + 1) zk = k + 1 := by omega
            rw [e2]
            exact hasIn_put (by have := HW.out.2.1; rwa [e1] at this) (Nat.zero_le _) hol.isMap
          · have e1 : max k zk = zk := by omega
            have e2 : max (k + 1) zk = zk := by omega
            rw [e2]
            have := HW.out.2.2
            rwa [e1] at this
          · exact (hB.out.grown hg2 hB.out.size (fun j hj => by cases hj; exact Nat.le_refl _)).grown hg3 (Nat.le_trans hB.out.size hg2.size) (fun j hj => by cases hj; omega)
        case measure => simp [intOf]; omega
      · go_wp2_with (first
          | (at_mapUpdate; refine wpList_mapUpdate_own _ rfl _ _ _ 36 rfl 9 37 law9 Try.underlying36 (unitElem (H := Unit)) w1.heap.size k _ rfl how (by unfold maxLen; omega) _ _ _ rfl rfl hkey _ [] unitElem_mk ?_; intro w2 how2 hg2; have hck2 := hg2.cell hck (by simp; omega))
          | (at_mapUpdate; refine wpList_mapUpdate_own _ rfl _ _ _ 36 rfl 9 37 law9 Try.underlying36 (unitElem (H := Unit)) (w1.heap.size + 1 + 1) k _ rfl (hor.kept hg2 (by simp; omega)) (by unfold maxLen; omega) _ _ _ rfl rfl hkey _ [] unitElem_mk ?_; intro w3 hor3 hg3))
        go_roundw
        case rel =>
          refine ⟨k + 1, by omega, by go_num, ⟨_, Dl, _, how2.kept hg3 (by simp; omega), ((hol.kept hg2 (by simp)).kept hg3 (by simp)).mono (Nat.le_succ _), hor3, hasIn_put HW.out.1 (Nat.zero_le _) how.isMap, ?_, ?_⟩, ?_⟩
          · have e1 : min k zk = zk := by omega
            have e2 : min (k + 1) zk = zk := by omega
            rw [e2]
            have := HW.out.2.1
            rwa [e1] at this
          · have e1 : max k zk = k := by omega
            have e2 : max (k + 1) zk = k + 1 := by omega
            rw [e2]
            exact hasIn_put (by have := HW.out.2.2; rwa [e1] at this) (by omega) hor.isMap
          · exact (hB.out.grown hg2 hB.out.size (fun j hj => by cases hj; exact Nat.le_refl _)).grown hg3 (Nat.le_trans hB.out.size hg2.size) (fun j hj => by cases hj; omega)
        case measure => simp [intOf]; omega
    · have hkn : k = n := by omega
      subst hkn
      obtain ⟨Dw, Dl, Dr, how, hol, hor, hw1, hw2, hw3⟩ := hT.out
      have e1 : min k zk = zk := by omega
      have e2 : max k zk = k := by omega
      rw [e1] at hw2
      rw [e2] at hw3
      have HW : Hid (HasIn Dw S 0 k ∧ HasIn Dl S 0 zk ∧ HasIn Dr S zk k) := ⟨hw1, hw2, hw3⟩
      have HO : Hid (wr.ownsMap Try.prog 9 (unitElem (H := Unit)) w1.heap.size k Dw ∧ wr.ownsMap Try.prog 9 (unitElem (H := Unit)) (w1.heap.size + 1) k Dl ∧ wr.ownsMap Try.prog 9 (unitElem (H := Unit)) (w1.heap.size + 1 + 1) k Dr) := ⟨how, hol, hor⟩
      clear hw1 hw2 hw3 hT e1 e2 how hol hor
      go_wp2_with fail
      refine (nameSetSorted_any _ k Dw _ HO.out.1 (by omega)).mono ?_
      rintro e w2 ⟨g1, cap1, m1, S1, rfl, hm1, hS1, hb1, _⟩
      go_wp2_with fail
      refine (nameSetSorted_any _ k Dl _ (HO.out.2.1.kept (grown_of_below hb1) (by simp)) (by omega)).mono ?_
      rintro e w3 ⟨g2, cap2, m2, S2, rfl, hm2, hS2, hb2, _⟩
      go_wp2_with fail
      refine (nameSetSorted_any _ k Dr _ ((HO.out.2.2.kept (grown_of_below hb1) (by simp)).kept (grown_of_below hb2) (by simp)) (by omega)).mono ?_
      rintro e w4 ⟨g3, cap3, m3, S3, rfl, hm3, hS3, hb3, _⟩
      have hS1' := (hS1.below hb2).below hb3
      have hS2' := hS2.below hb3
      have hBB := ((hB.out.trans (hb1.mono hB.out.size)).trans (hb2.mono (Nat.le_trans hB.out.size hb1.size))).trans (hb3.mono (Nat.le_trans (Nat.le_trans hB.out.size hb1.size) hb2.size))
      have hN := strs_below hBB (hd.strs H.out)
      have Z : Hid (SortedRow w4 (some ⟨g1, 0, none⟩) m1 S1 (fun x => Maps.has Dw (.string x)) ∧ SortedRow w4 (some ⟨g2, 0, none⟩) m2 S2 (fun x => Maps.has Dl (.string x)) ∧ SortedRow w4 (some ⟨g3, 0, none⟩) m3 S3 (fun x => Maps.has Dr (.string x)) ∧ Strs w4 a k S ∧ Below w1.heap.size w1 w4) := ⟨hS1', hS2', hS3, hN, hBB⟩
      clear hS1 hS2 hS3 hS1' hS2' hBB hN HO hb1 hb2 hb3 hB HC H
      have hnil := nil22
      unfold maxLen at hn
      have hM : m1 ≤ maxLen ∧ m2 ≤ maxLen ∧ m3 ≤ maxLen := by unfold maxLen; omega
      go_wp2_with fail
      refine (Z.out.1.increasing hM.1 _).mono ?_
      rintro e w5 ⟨rfl, d5⟩
      go_wp2_with fail
      refine ((Z.out.2.1.drew d5).increasing hM.2.1 _).mono ?_
      rintro e w6 ⟨rfl, d6⟩
      have d6' := d5.trans d6
      go_wp2_with fail
      refine ((Z.out.2.2.1.drew d6').increasing hM.2.2 _).mono ?_
      rintro e w7 ⟨rfl, d7⟩
      have d7' := d6'.trans d7
      clear d5 d6 d6' d7 hnil
      go_wp2_with fail
      go_loopw [12] (fun i wr' => ∃ j : Nat, j ≤ k ∧ i = .int .i64 j ∧ Hid (Drew w4 wr')) (fun i _ => k - (intOf i).toNat)
      case atStart => exact ⟨0, Nat.zero_le _, rfl, d7'⟩
      case round =>
        obtain ⟨j, hj, rfl, hw⟩ := hrel
        by_cases hlt2 : j < k
        · obtain ⟨b, off, rfl, hc⟩ := Z.out.2.2.2.1.at hlt2
          have hcj := (hw.out.cell _).trans (hc j hlt2)
          clear hc
          go_wp2_with fail
          refine ((Z.out.1.drew hw.out).sortedHas hM.1 _ (S j) ((HW.out.1 (tl S j)).2 ⟨j, Nat.zero_le _, hlt2, rfl⟩)).mono ?_
          rintro e w8 ⟨rfl, d8⟩
          go_wp2_with fail
          go_roundw
          case rel => exact ⟨j + 1, by omega, by go_num, hw.out.trans d8⟩
          case measure => simp [intOf]; omega
        · clear d7'
          go_wp2_with fail
          go_loopw [13] (fun i wr' => ∃ j : Nat, j ≤ m1 ∧ i = .int .i64 j ∧ Hid (Drew w4 wr')) (fun i _ => m1 - (intOf i).toNat)
          case atStart => exact ⟨0, Nat.zero_le _, rfl, hw⟩
          case round =>
            obtain ⟨j', hj', rfl, hw'⟩ := hrel
            by_cases hlt3 : j' < m1
            · obtain ⟨b, off, e1, hc⟩ := Z.out.1.strs.at hlt3
              cases e1
              have hcj := (hw'.out.cell _).trans (hc j' hlt3)
              rw [Nat.zero_add] at hcj
              have hin : hasB k S (S1 j') = true := by
                obtain ⟨p, _, hp, e⟩ := (HW.out.1 _).1 ((Z.out.1.has (tl S1 j')).1 ⟨j', hlt3, rfl⟩)
                exact hasB_true hp (by rw [beq_iff_eq]; exact e)
              have hcon := contains_any a k cap S (S1 j') _ (by unfold maxLen; omega) (hw'.out.strs Z.out.2.2.2.1)
              rw [hin] at hcon
              have HCON := hide hcon
              clear hc hin hcon
              go_wp2_with fail
              refine (unhide HCON).mono ?_
              rintro e w8 ⟨rfl, rfl⟩
              go_wp2_with fail
              go_roundw
              case rel => exact ⟨j' + 1, by omega, by go_num, hw'⟩
              case measure => simp [intOf]; omega
            · have hu : Un (lst m1 (tl S1)) (lst m2 (tl S2)) (lst m3 (tl S3)) := by
                refine ⟨lst_sorted Z.out.1.inc, lst_sorted Z.out.2.1.inc, lst_sorted Z.out.2.2.1.inc, fun x => ?_⟩
                rw [mem_lst, mem_lst, mem_lst, Z.out.1.has, Z.out.2.1.has, Z.out.2.2.1.has, HW.out.1 x, HW.out.2.1 x, HW.out.2.2 x]
                constructor
                · rintro ⟨p, _, h2, h3⟩
                  by_cases hp : p < zk
                  · exact .inl ⟨p, Nat.zero_le _, hp, h3⟩
                  · exact .inr ⟨p, by omega, h2, h3⟩
                · rintro (⟨p, _, h2, h3⟩ | ⟨p, _, h2, h3⟩)
                  · exact ⟨p, Nat.zero_le _, by omega, h3⟩
                  · exact ⟨p, Nat.zero_le _, h2, h3⟩
              have HM := hide (mergeUnion_yes (some ⟨g1, 0, none⟩) (some ⟨g2, 0, none⟩) (some ⟨g3, 0, none⟩) m1 m2 m3 cap1 cap2 cap3 S1 S2 S3 _ hM.1 hM.2.1 hM.2.2 (hw'.out.strs Z.out.1.strs) (hw'.out.strs Z.out.2.1.strs) (hw'.out.strs Z.out.2.2.1.strs) hu)
              clear hu
              go_wp2_with fail
              refine (unhide HM).mono ?_
              rintro e w8 ⟨rfl, d8⟩
              go_wp2_with fail
              go_ret
              exact ⟨rfl, (hd.below _).trans ((Z.out.2.2.2.2.mono (by rw [hd.heap]; exact Nat.le_refl _)).trans ((hw'.out.trans d8).below _))⟩
end Go.Proofs.Qxb6614755a
