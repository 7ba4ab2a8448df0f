/- nrBuild (12): the walk. -/
import Derived.Test.Qxb6615896aBuild
namespace Go.Proofs.Qxb6615896a
open Go.RowKit

theorem size76i : (Try.prog.info? 76).map (·.size) = some 5 := by kernel_rfl
theorem size81i : (Try.prog.info? 81).map (·.size) = some 10 := by kernel_rfl
theorem size87i : (Try.prog.info? 87).map (·.size) = some 3 := by kernel_rfl

theorem cell_of_blk {w : World} {g : Nat} {cs : Array Value} {t : TypeId} {fr : Nat × Nat} (h : w.heap[g]? = some (.cells cs t fr)) {i : Nat} : w.cell? ⟨g, i, none⟩ = cs[i]? := by simp [World.cell?, h]
theorem one_cand (c : Cand) : (candRes c).toArray.all (·.oneCell') = true := by simp [candRes, Value.oneCell']
theorem one_elec (pe pc : Nat) (e : Elec) : (elecRes pe pc e).toArray.all (·.oneCell') = true := by simp [elecRes, Value.oneCell']
theorem one_bod (pb : Nat) (x : Bod) : (bodRes pb x).toArray.all (·.oneCell') = true := by simp [bodRes, Value.oneCell']

theorem range_made (w : World) (C : List Value) (t : TypeId) : (w.alloc (.cells C.toArray t)).rangeAt w.heap.size 0 C := by
  intro j v hv
  rw [Nat.zero_add, cell_of_blk (show (w.heap.push (.cells C.toArray t))[w.heap.size]? = some (.cells C.toArray t (0, 0)) by simp)]
  simpa using hv
def metRow (nm : ByteArray) (z1 z2 z3 z4 : Int) : List Value := [.string nm, .int .i64 z1, .int .i64 z2, .int .i64 z3, .int .i64 z4, .slice none 0 0, .slice none 0 0]
def resRow (bM : Nat) (s1 s2 : Value) : List Value := [.pointer (some ⟨bM, 0, none⟩), s1, s2, .slice none 0 0, .slice none 0 0]

/-- The result on the road: meeting at bM, result at bM + 1, elections at bM + 2. -/
structure Half (w0 : World) (bM : Nat) (mr : List Value) (n : Nat) (E : Nat → Elec) (s1 s2 : Value) (w : World) : Prop where
  below : Below bM w0 w
  lt : bM + 1 + 1 < w.heap.size
  met : w.rangeAt bM 0 mr
  res : w.rangeAt (bM + 1) 0 (resRow bM s1 s2)
  room : w.there (bM + 1) 0 5
  elecs : ∀ j, j < n → ResElec w (bM + 1 + 1) (j * 10) (E j)

theorem Half.down {w0 w w' : World} {bM n : Nat} {mr : List Value} {E : Nat → Elec} {s1 s2 : Value} (h : Half w0 bM mr n E s1 s2 w) (hb : Below w.heap.size w w') : Half w0 bM mr n E s1 s2 w' :=
  ⟨h.below.trans (hb.mono (by have := h.lt; omega)), Nat.lt_of_lt_of_le h.lt hb.size, range_below hb (by have := h.lt; omega) h.met, range_below hb (by have := h.lt; omega) h.res, there_below hb (by have := h.lt; omega) h.room, fun j hj => (h.elecs j hj).below hb⟩

theorem ResElec.other {w : World} {bE o : Nat} {e : Elec} (hr : ResElec w bE o e) (b o' : Nat) (vs : List Value) (hb : b < bE) : ResElec (w.setCells b o' vs) bE o e := by
  obtain ⟨pe, pc, h1, h2, h3, h4, h5, h6, h7⟩ := hr
  exact ⟨pe, pc, h1, by rw [heap_setCells_size]; exact h2, h3, by rw [heap_setCells_size]; exact h4, World.rangeAt_setCells_apart h5 _ _ _ (.inl (by omega)), World.rangeAt_setCells_apart h6 _ _ _ (.inl (by omega)), fun j hj => World.rangeAt_setCells_apart (h7 j hj) _ _ _ (.inl (by omega))⟩
theorem ResBod.other {w : World} {bE o : Nat} {x : Bod} (hr : ResBod w bE o x) (b o' : Nat) (vs : List Value) (hb : b < bE) : ResBod (w.setCells b o' vs) bE o x := by
  obtain ⟨pe, h1, h2, h5, h6⟩ := hr
  exact ⟨pe, h1, by rw [heap_setCells_size]; exact h2, World.rangeAt_setCells_apart h5 _ _ _ (.inl (by omega)), World.rangeAt_setCells_apart h6 _ _ _ (.inl (by omega))⟩

/-- One cell of the result is written. -/
theorem Half.write {w0 w : World} {bM n : Nat} {mr : List Value} {E : Nat → Elec} {s1 s2 : Value} (h : Half w0 bM mr n E s1 s2 w) (i : Nat) (v s1' s2' : Value) (hv : resRow bM s1' s2' = (resRow bM s1 s2).set i v) (hi : i < 5) : Half w0 bM mr n E s1' s2' (w.setCells (bM + 1) i [v]) := by
  refine ⟨below_setCells (by omega) _ _ _ h.below, by rw [heap_setCells_size]; exact h.lt, World.rangeAt_setCells_apart h.met _ _ _ (.inl (by omega)), ?_, World.there_setCells h.room _ _ _, fun j hj => (h.elecs j hj).other _ _ _ (by omega)⟩
  intro j x hx
  rw [hv] at hx
  by_cases e : i = j
  · subst e
    have hs := World.rangeAt_setCells_same w (bM + 1) i [v] (there_sub h.room (by simp; omega)) 0 v rfl
    have hx' : some v = some x := by
      rw [← hx, List.getElem?_set_self (by simp [resRow]; omega)]
    rw [Nat.zero_add]
    exact hs.trans hx'
  · rw [List.getElem?_set_ne e] at hx
    have hs : (w.setCells (bM + 1) i [v]).rangeAt (bM + 1) j [x] := World.rangeAt_setCells_apart (fun q y hy => by
      cases q with
      | zero => cases hy; have := h.res j x hx; rwa [Nat.zero_add] at this
      | succ q => simp at hy) _ _ _ (by simp; omega)
    have := hs 0 x rfl
    rwa [Nat.add_zero, ← Nat.zero_add j] at this

/-- What nrBuild hands over: a pointer to block bM + 1. -/
structure Built (w0 : World) (bM bB : Nat) (mr : List Value) (n : Nat) (E : Nat → Elec) (m : Nat) (B : Nat → Bod) (w : World) : Prop where
  half : Half w0 bM mr n E (.slice (some ⟨bM + 1 + 1, 0, none⟩) n n) (.slice (some ⟨bB, 0, none⟩) m m) w
  lo : bM + 1 + 1 < bB
  bods : ∀ j, j < m → ResBod w bB (j * 3) (B j)
def BuiltPost (w0 : World) (mr : List Value) (n : Nat) (E : Nat → Elec) (m : Nat) (B : Nat → Bod) (e : Ending) (w : World) : Prop :=
  e = .returned (.pointer (some ⟨w0.heap.size + 1, 0, none⟩)) ∧ ∃ bB, Built w0 w0.heap.size bB mr n E m B w

set_option maxRecDepth 100000 in
set_option maxHeartbeats 600000 in
theorem build_try (nm : ByteArray) (z1 z2 z3 z4 : Int) (a a2 : Option Addr) (n m cap cap2 : Nat) (E : Nat → Elec) (B : Nat → Bod) (w : World) (h : ElecsAt w a n E) (h2 : BodsAt w a2 m B) (hb : Bounded n E m) :
    Calls Try.prog 12 #[.string nm, .int .i64 z1, .int .i64 z2, .int .i64 z3, .int .i64 z4, .slice a n cap, .slice a2 m cap2] w (BuiltPost w (metRow nm z1 z2 z3 z4) n E m B) := by
  obtain ⟨hn, hcl, hm⟩ := hb
  have H := hide (And.intro h h2)
  have HL := hide hcl
  clear h h2 hcl
  have mk1 := mk65 n hn
  go_enter Try.func12, Try.ntmps12
  go_wp2
  clear mk1
  generalize hw0 : (w.alloc (.cells #[.string nm, .int .i64 z1, .int .i64 z2, .int .i64 z3, .int .i64 z4, .slice none 0 0, .slice none 0 0] 45)).alloc (.cells #[.pointer (some ⟨w.heap.size, 0, none⟩), .slice none 0 0, .slice none 0 0, .slice none 0 0, .slice none 0 0] 70) = w0 at *
  have hs0 : w0.heap.size = w.heap.size + 1 + 1 := by rw [← hw0]; simp
  have hB0 : Below w.heap.size w w0 := by rw [← hw0]; exact ((Below.refl _ _).alloc (Nat.le_refl _) _).alloc (by simp) _
  have hm0 : w0.rangeAt w.heap.size 0 (metRow nm z1 z2 z3 z4) := by
    rw [← hw0]
    exact World.rangeAt_alloc (range_made w (metRow nm z1 z2 z3 z4) 45) _
  have hr0 : w0.rangeAt (w.heap.size + 1) 0 (resRow w.heap.size (.slice none 0 0) (.slice none 0 0)) := by
    rw [← hw0]
    have := range_made (w.alloc (.cells #[.string nm, .int .i64 z1, .int .i64 z2, .int .i64 z3, .int .i64 z4, .slice none 0 0, .slice none 0 0] 45)) (resRow w.heap.size (.slice none 0 0) (.slice none 0 0)) 70
    have e : (w.alloc (.cells #[.string nm, .int .i64 z1, .int .i64 z2, .int .i64 z3, .int .i64 z4, .slice none 0 0, .slice none 0 0] 45)).heap.size = w.heap.size + 1 := by simp
    rw [e] at this
    exact this
  have ht0 : w0.there (w.heap.size + 1) 0 5 := by
    rw [← hw0]
    have := there_made (w.alloc (.cells #[.string nm, .int .i64 z1, .int .i64 z2, .int .i64 z3, .int .i64 z4, .slice none 0 0, .slice none 0 0] 45)) #[.pointer (some ⟨w.heap.size, 0, none⟩), .slice none 0 0, .slice none 0 0, .slice none 0 0, .slice none 0 0] 70 5 (by simp)
    simpa using this
  have F0 := hide (And.intro hs0 hB0)
  have G0 := hide (And.intro hm0 (And.intro hr0 ht0))
  clear hs0 hB0 hm0 hr0 ht0 hw0
  go_loopw [17] (fun i wr => ∃ k : Nat, k ≤ n ∧ i = .int .i64 k ∧ Hid (EB (w.heap.size + 1 + 1) w0 n E k wr)) (fun i _ => n - (intOf i).toNat)
  case atStart => exact ⟨0, Nat.zero_le _, rfl, EB.start F0.out.1 n E⟩
  case round =>
    obtain ⟨k, hk, rfl, hE⟩ := hrel
    rename World => wo
    by_cases hlt : k < n
    · have BL := hide (F0.out.2.trans (hE.out.below.mono (by omega)))
      obtain ⟨b, off, rfl, hc, hcd⟩ := (H.out.1.below BL.out).at hlt
      have c0 := hc.id
      have c1 := hc.title
      have c2 := hc.seats
      have c3 := hc.body
      have c4 := hc.cands
      have c5 := hc.unf
      have c6 := hc.next
      have HCD := hide hcd
      have hlm := HL.out k hlt
      have mk2 := mk71 (E k).cl hlm
      clear hc hcd
      go_wp2
      clear mk2 c0 c1 c2 c3 c4 c5 c6
      have hs1 : (wo.alloc (.cells #[.string (E k).id, .string (E k).title, .int .i64 (E k).seats, .string (E k).body, .slice (E k).ca (E k).cl (E k).cc, .int .i64 (E k).unf, .string (E k).next] 48)).heap.size = wo.heap.size + 1 := by simp
      have hb1 := (Below.refl wo.heap.size wo).alloc (Nat.le_refl _) (.cells #[.string (E k).id, .string (E k).title, .int .i64 (E k).seats, .string (E k).body, .slice (E k).ca (E k).cl (E k).cc, .int .i64 (E k).unf, .string (E k).next] 48)
      have hr1 : ElecCells (wo.alloc (.cells #[.string (E k).id, .string (E k).title, .int .i64 (E k).seats, .string (E k).body, .slice (E k).ca (E k).cl (E k).cc, .int .i64 (E k).unf, .string (E k).next] 48)) wo.heap.size 0 (E k) := by constructor <;> simp
      generalize hw1 : wo.alloc (.cells #[.string (E k).id, .string (E k).title, .int .i64 (E k).seats, .string (E k).body, .slice (E k).ca (E k).cl (E k).cc, .int .i64 (E k).unf, .string (E k).next] 48) = w1 at *
      have F1 := hide (And.intro hs1 (And.intro hb1 hr1))
      clear hs1 hb1 hr1 hw1
      go_loopw [20] (fun i wr2 => ∃ q : Nat, q ≤ (E k).cl ∧ i = .int .i64 q ∧ Hid (CB (wo.heap.size + 1) w1 (E k).cl (E k).C q wr2)) (fun i _ => (E k).cl - (intOf i).toNat)
      case atStart => exact ⟨0, Nat.zero_le _, rfl, CB.start F1.out.1 _ _⟩
      case round =>
        obtain ⟨q, hq, rfl, hCB⟩ := hrel
        rename World => wi
        have cell1 : ∀ f, wi.cell? ⟨wo.heap.size, f, none⟩ = w1.cell? ⟨wo.heap.size, f, none⟩ := fun f => hCB.out.below.cell (p := ⟨wo.heap.size, f, none⟩) (by show wo.heap.size < _; omega)
        have e4 : wi.cell? ⟨wo.heap.size, 4, none⟩ = some (.slice (E k).ca (E k).cl (E k).cc) := (cell1 4).trans F1.out.2.2.cands
        have BLi := hide (F1.out.2.1.trans (hCB.out.below.mono (by omega)))
        by_cases hlq : q < (E k).cl
        · obtain ⟨b2, off2, e2, hcc⟩ := (HCD.out.below BLi.out).at hlq
          rw [e2] at e4
          have d0 := hcc.id
          have d1 := hcc.name
          have d2 := hcc.votes
          have d3 := hcc.status
          clear hcc e2 cell1
          have hth := hide (there_sub (hCB.out.alloc (.cells #[.string ((E k).C q).id, .string ((E k).C q).name, .int .u64 ((E k).C q).votes, .string ((E k).C q).status] 62)).room (show q * 5 + 5 ≤ (E k).cl * 5 by omega))
          go_wp2_with (first
            | (refine wpList_store_mid (by rfl) 76 _ _ (by rfl) (wo.heap.size + 1) (q * 5) (candRes ((E k).C q)).toArray (by rfl) (by rfl) (by exact hth.out) size76i (one_cand _) ?_)
            | go_in)
          go_roundw
          case rel => exact ⟨q + 1, by omega, by go_num, (hCB.out.alloc _).put hlq⟩
          case measure => simp [intOf]; omega
        · have e0 := (cell1 0).trans F1.out.2.2.id
          have e1 := (cell1 1).trans F1.out.2.2.title
          have e2 := (cell1 2).trans F1.out.2.2.seats
          have e3 := (cell1 3).trans F1.out.2.2.body
          have e5 := (cell1 5).trans F1.out.2.2.unf
          have e6 := (cell1 6).trans F1.out.2.2.next
          clear cell1
          have hqe : q = (E k).cl := by omega
          subst hqe
          have e5' : ∀ o, (wi.alloc o).cell? ⟨wo.heap.size, 5, none⟩ = some (.int .i64 (E k).unf) := fun o => (World.grownBy_alloc wi o none).cell e5 (by simp)
          have e6' : ∀ o, (wi.alloc o).cell? ⟨wo.heap.size, 6, none⟩ = some (.string (E k).next) := fun o => (World.grownBy_alloc wi o none).cell e6 (by simp)
          clear e5 e6
          have hEw := hide (hE.out.down (BLi.out.alloc BLi.out.size (.cells (elecBox (E k)).toArray 51)))
          have hth := hide (there_sub hEw.out.room (show k * 10 + 10 ≤ n * 10 by omega))
          have hlo := hE.out.lt
          have hpc := hCB.out.lt
          have hsz := BLi.out.size
          go_wp2_with (first
            | (refine wpList_store_mid (by rfl) 81 _ _ (by rfl) (w.heap.size + 1 + 1) (k * 10) (elecRes wi.heap.size (wo.heap.size + 1) (E k)).toArray (by rfl) (by rfl) (by exact hth.out) size81i (one_elec _ _ _) ?_)
            | go_in)
          go_roundw
          case rel =>
            refine ⟨k + 1, by omega, by go_num, hEw.out.put hlt (by omega) (by simp) (by omega) (by simp; omega) ?_ (fun j hj => World.rangeAt_alloc (hCB.out.rows j hj) _)⟩
            exact range_made wi (elecBox (E k)) 51
          case measure => simp [intOf]; omega
    · have hkn : k = n := by omega
      subst hkn
      have hH : Half w w.heap.size (metRow nm z1 z2 z3 z4) k E (.slice none 0 0) (.slice none 0 0) wo := ⟨F0.out.2.trans (hE.out.below.mono (by omega)), hE.out.lt, range_below hE.out.below (by omega) G0.out.1, range_below hE.out.below (by omega) G0.out.2.1, there_below hE.out.below (by omega) G0.out.2.2, hE.out.rows⟩
      have HH := hide hH
      have r1 := hH.res 1 _ rfl
      have f1 := (hH.room 1 (by omega)).2
      rw [Nat.zero_add] at r1 f1
      have mk3 := mk66 m hm
      clear hH
      go_wp2
      clear mk3 r1 f1
      have hs2 : (wo.setCell ⟨w.heap.size + 1, 1, none⟩ (.slice (some ⟨w.heap.size + 1 + 1, 0, none⟩) k k)).heap.size = wo.heap.size := by simp
      have hH2 : Half w w.heap.size (metRow nm z1 z2 z3 z4) k E (.slice (some ⟨w.heap.size + 1 + 1, 0, none⟩) k k) (.slice none 0 0) (wo.setCell ⟨w.heap.size + 1, 1, none⟩ (.slice (some ⟨w.heap.size + 1 + 1, 0, none⟩) k k)) := HH.out.write 1 _ _ _ rfl (by omega)
      generalize hw2 : wo.setCell ⟨w.heap.size + 1, 1, none⟩ (.slice (some ⟨w.heap.size + 1 + 1, 0, none⟩) k k) = w2 at *
      have F2 := hide (And.intro hs2 hH2)
      clear hs2 hH2 hw2 HH
      go_loopw [23] (fun i wr => ∃ q : Nat, q ≤ m ∧ i = .int .i64 q ∧ Hid (BB wo.heap.size w2 m B q wr)) (fun i _ => m - (intOf i).toNat)
      case atStart => exact ⟨0, Nat.zero_le _, rfl, BB.start F2.out.1 m B⟩
      case round =>
        obtain ⟨q, hq, rfl, hBB⟩ := hrel
        rename World => wi
        have hH3 := hide (F2.out.2.down (F2.out.1 ▸ hBB.out.below))
        by_cases hlq : q < m
        · obtain ⟨b, off, rfl, hc⟩ := (H.out.2.below hH3.out.below).at hlq
          have d0 := hc.id
          have d1 := hc.size
          have d2 := hc.office
          have d3 := hc.legal
          have d4 := hc.sf
          have d5 := hc.rounds
          have d6 := hc.members
          have d7 := hc.short
          clear hc
          have hBw := hide (hBB.out.down (((Below.refl wi.heap.size wi).alloc (Nat.le_refl _) (.cells #[.string (B q).id, .int .i64 (B q).size, .int .i64 (B q).office, .int .i64 (B q).legal, .int .i64 (B q).sf, .int .i64 (B q).rounds, .int .i64 (B q).members, .bool (B q).short] 64)).alloc (by simp) (.cells (bodBox (B q)).toArray 85)))
          have hth := hide (there_sub hBw.out.room (show q * 3 + 3 ≤ m * 3 by omega))
          have hlo := hBB.out.lt
          go_wp2_with (first
            | (refine wpList_store_mid (by rfl) 87 _ _ (by rfl) wo.heap.size (q * 3) (bodRes (wi.heap.size + 1) (B q)).toArray (by rfl) (by rfl) (by exact hth.out) size87i (one_bod _ _) ?_)
            | go_in)
          go_roundw
          case rel => exact ⟨q + 1, by omega, by go_num, hBw.out.put hlq (by omega) (by simp) (by have := range_made (wi.alloc (.cells #[.string (B q).id, .int .i64 (B q).size, .int .i64 (B q).office, .int .i64 (B q).legal, .int .i64 (B q).sf, .int .i64 (B q).rounds, .int .i64 (B q).members, .bool (B q).short] 64)) (bodBox (B q)) 85; rwa [show (wi.alloc (.cells #[.string (B q).id, .int .i64 (B q).size, .int .i64 (B q).office, .int .i64 (B q).legal, .int .i64 (B q).sf, .int .i64 (B q).rounds, .int .i64 (B q).members, .bool (B q).short] 64)).heap.size = wi.heap.size + 1 by simp] at this)⟩
          case measure => simp [intOf]; omega
        · have hqe : q = m := by omega
          subst hqe
          have r1 := hH3.out.res 2 _ rfl
          have f1 := (hH3.out.room 2 (by omega)).2
          rw [Nat.zero_add] at r1 f1
          go_wp2
          go_ret
          exact ⟨rfl, wo.heap.size, hH3.out.write 2 _ _ _ rfl (by omega), F2.out.1 ▸ F2.out.2.lt, fun j hj => (hBB.out.rows j hj).other (w.heap.size + 1) 2 [_] (by have := F2.out.2.lt; have := F2.out.1; omega)⟩
end Go.Proofs.Qxb6615896a
