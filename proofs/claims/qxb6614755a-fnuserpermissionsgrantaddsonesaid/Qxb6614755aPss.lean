/- permissionSet.sorted (60). -/
import Derived.Test.Qxb6614755aPk
import Derived.Test.Qxb6614755aPs10
import Derived.Maps.AppendAt
import Derived.Deep.AppendLies
import Derived.Sort.KeysCollected
import Derived.Sort.OwnSorted
import Derived.Laws.MakeOwn
namespace Go.Proofs.Qxb6614755a
open Go.RowKit Go.Maps Go.Sort Go.WideMaps

theorem info58 : (Try.prog.info? 58).map (fun i => (i.zero, i.size, i.bytes)) = some (some (.agg #[.string ⟨#[]⟩, .string ⟨#[]⟩]), 2, 32) := by kernel_rfl

/-- The cells of a row of permissions. -/
def pcells (ps : List Pm) : List Value := ps.flatMap encPm
theorem pcells_snoc (ps : List Pm) (p : Pm) : pcells (ps ++ [p]) = pcells ps ++ [.string p.1, .string p.2] := by simp [pcells, encPm]
theorem pcells_len (ps : List Pm) : (pcells ps).length = ps.length * 2 := by
  induction ps with
  | nil => rfl
  | cons p ps ih => simp only [pcells, List.flatMap_cons, List.length_append] at *; rw [ih]; simp [encPm]; omega

/-- A row of permissions in ascending order of their written forms, each once: just those of s. -/
structure PermRow (w : World) (g m : Nat) (P : Nat → Pm) (s : Pm → Prop) : Prop where
  lt : g < w.heap.size
  c0 : ∀ j, j < m → w.cell? ⟨g, j * 2, none⟩ = some (.string (P j).1)
  c1 : ∀ j, j < m → w.cell? ⟨g, j * 2 + 1, none⟩ = some (.string (P j).2)
  asc : ∀ i j, i < j → j < m → ltPm (P j) (P i) = false
  once : ∀ i j, i < j → j < m → P i ≠ P j
  mem : ∀ p : Pm, p.1.size ≤ maxLen → p.2.size ≤ maxLen → (s p ↔ ∃ j, j < m ∧ P j = p)
  small : ∀ j, j < m → SmPm (P j)

def PSortsTo (s : Pm → Prop) (n : Nat) (w : World) (e : Ending) (w' : World) : Prop :=
  ∃ (g cap m : Nat) (P : Nat → Pm), e = .returned (.slice (some ⟨g, 0, none⟩) m cap) ∧ m ≤ n ∧ PermRow w' g m P s ∧ Below w.heap.size w w' ∧ w.heap.size ≤ g

theorem pcells_get : ∀ (ps : List Pm) (t : Nat), t < ps.length * 2 → (pcells ps)[t]? = some ((encPm (ps.getD (t / 2) default))[t % 2]!)
  | [], t, h => by simp at h
  | p :: ps, 0, _ => by simp [pcells, encPm]
  | p :: ps, 1, _ => by simp [pcells, encPm]
  | p :: ps, t + 2, h => by
    have ih := pcells_get ps t (by simp at h; omega)
    rw [show (t + 2) / 2 = t / 2 + 1 by omega, show (t + 2) % 2 = t % 2 by omega]
    simpa [pcells, encPm] using ih
theorem holdsK_of_block {w : World} {g : Nat} {cur : Array Value} {e : TypeId} {ps : List Pm} (hb : w.heap[g]? = some (.cells cur e (0, 0))) (ht : cur.toList.take (ps.length * 2) = pcells ps) : HoldsK encPm 2 w g 0 ps.toArray := fun t htl => by
  have htl' : t < ps.length * 2 := by simpa using htl
  refine ⟨?_, by simp [World.frozen?, hb]⟩
  rw [get_flatK _ _ _ _ (by simpa using htl')]
  have h1 : (cur.toList.take (ps.length * 2))[t]? = (pcells ps)[t]? := by rw [ht]
  rw [List.getElem?_take_of_lt htl', pcells_get ps t htl'] at h1
  simp only [World.cell?, hb, Nat.zero_add]
  rw [← Array.getElem?_toList, h1]
  simp [List.getD, Array.getElem!_eq_getD]
theorem perm_of_permIn {d d' : Array Pm} (h : PermIn 0 d.size d d') : d'.toList.Perm d.toList := by
  have := h.2.2
  rw [← h.1] at this
  simp only [Array.extract_size] at this
  rw [h.1] at this
  simpa using this

theorem append_pm (w : World) {ops : Array Oper} {rest : List Oper} {o : Oper} {a : Act} {Q : Exit → Act → World → Prop} (hgd : o.guard = none) (s x : Operand)
    (ho : o.op = .call { callee := .builtin .append, args := #[s, x], argTypes := #[48, 48] })
    (base : Nat) (v : Value) (n : Nat) (xs : List Value) (hs : a.eval s = v) (hown : w.ownsRow base 58 2 v n xs) (hn : n ≤ 1048576) (b c : Nat) (s1 s2 : ByteArray) (hx : a.eval x = .slice (some ⟨b, 0, none⟩) 1 c)
    (hc : w.heap[b]? = some (.cells #[.string s1, .string s2] 58 (0, 0))) (hbase : base ≤ w.heap.size) (H : Nat) (hH : w.heap.size = H)
    (h : ∀ g cap w', w'.ownsRow base 58 2 (.slice (some ⟨g, 0, none⟩) (n + 1) cap) (n + 1) (xs ++ [.string s1, .string s2]) → w.grownBy w' v.ownBlock → (v.ownBlock = some g ∨ g = H) → g < w'.heap.size → wpList Try.prog ops Q rest (a.put o.dst (.slice (some ⟨g, 0, none⟩) (n + 1) cap)) w') :
    wpList Try.prog ops Q (o :: rest) a w := by
  obtain ⟨i, h1, h2, h3, h4⟩ := info_parts info58
  exact wpList_append_lies w hgd s x 48 ho base 58 i _ 2 32 (by kernel_rfl) h1 h2 h3 h4 (by rfl) (by omega) v n xs hs hown ⟨b, 0, none⟩ 1 c [.string s1, .string s2] hx (by rfl) (World.news_of_block hc) (by simp [Value.oneCell']) (by omega) (by unfold maxLen; omega) (by omega) hbase H hH h
theorem top2 (w : World) (o p : Obj) : ((w.alloc o).alloc p).heap[w.heap.size + 1]? = some p := by
  have h : (w.alloc o).heap.size = w.heap.size + 1 := by simp
  rw [← h]; exact heap_alloc_new _ _

set_option maxRecDepth 100000 in
set_option maxHeartbeats 1000000 in
theorem psorted_any (b n : Nat) (D0 : DataW Unit) (w : World) (hown : w.ownsMap Try.prog 58 (unitElem (H := Unit)) b n D0) (hmax : n ≤ 1048576) (hsm : ∀ p : Pm, p.1.size ≤ maxLen → p.2.size ≤ maxLen → has D0 (.string (kb p)) = true → SmPm p) :
    Calls Try.prog 60 #[.map (some b)] w (PSortsTo (fun p => has D0 (.string (kb p)) = true) n w) := by
  obtain ⟨i0, hi, hz0, hz1, hz2⟩ := info_parts info58
  have hbl := hown.lt
  have hsz := hown.size_le
  go_enter Try.func60, Try.ntmps60
  go_wp2_with (first
    | (at_len; refine wpList_len_own _ rfl _ 74 rfl 58 37 Try.underlying74 _ b n _ rfl hown ?_)
    | (at_make; refine wpList_make_own _ rfl _ _ 48 rfl w.heap.size 58 i0 (.agg #[.string ⟨#[]⟩, .string ⟨#[]⟩]) 2 Try.underlying48 hi hz0 hz1 _ _ _ (Maps.size D0) rfl rfl rfl (by rw [hz2]; omega) (by unfold maxLen; omega) (Nat.le_refl _) ?_; intro w1 hrow1 hg1)
    | (at_range; refine wpList_range_own _ rfl _ 74 rfl 58 37 law58 Try.underlying74 _ b n _ rfl ((hown.kept hg1 (by simp)).alloc _) ?_; intro w0 hrg0 hg0 hs0)
    | go_in)
  go_frame
  have eR : (w1.alloc (.cells #[.slice (some ⟨w.heap.size, 0, none⟩) 0 (Maps.size D0)] 48)).heap.size = w1.heap.size + 1 := by simp
  rw [eR] at hrg0 hs0 ⊢
  have hp0 : w.heap.size < w1.heap.size := by
    rcases hrow1.2 with ⟨h, _⟩ | ⟨g, _, _, h, _, hb, _⟩
    · cases h
    · cases h; exact (Array.getElem?_eq_some_iff.1 hb).1
  have hpv0 : w0.cell? ⟨w1.heap.size, 0, none⟩ = some (.slice (some ⟨w.heap.size, 0, none⟩) 0 (Maps.size D0)) := hg0.cell (by simp) (by simp)
  have hfz0 : w0.frozen? ⟨w1.heap.size, 0, none⟩ = false := by rw [World.frozen?_of_block (hg0.block _ (by simp) (by simp))]; simp
  have hbel0 : Below w.heap.size w w0 := (((Below.refl _ _).grown hg1 (Nat.le_refl _) (fun j hj => by cases hj)).alloc (by omega) _).grown hg0 (by simp; omega) (fun j hj => by cases hj)
  go_loopw [] (fun wr => ∃ (left : Lit → Bool) (cnt : Nat) (ps : List Pm) (v : Value), wr.ranges Try.prog 58 (unitElem (H := Unit)) b (w1.heap.size + 1) n D0 left cnt ∧ ps.length + cnt ≤ Maps.size D0 ∧
      wr.ownsRow w.heap.size 58 2 v ps.length (pcells ps) ∧ v ≠ .slice none 0 0 ∧ v.ownBlock ≠ some w1.heap.size ∧ wr.cell? ⟨w1.heap.size, 0, none⟩ = some v ∧ wr.frozen? ⟨w1.heap.size, 0, none⟩ = false ∧ (∀ p ∈ ps, p.1.size ≤ maxLen ∧ p.2.size ≤ maxLen) ∧ Collected D0 left (ps.map kb) ∧ Below w.heap.size w wr)
    (fun wr => wr.rangeLeft b (w1.heap.size + 1))
  case atStart =>
    exact ⟨_, _, [], _, hrg0, by simp, (hrow1.alloc _).kept hg0 (Or.inr (by simp [Value.ownBlock])), by simp, by simp [Value.ownBlock]; omega, hpv0, hfz0, by simp, Collected.start D0, hbel0⟩
  case round =>
    obtain ⟨left, cnt, ps, v, hrg, hcs, hrow, hnn, hvn, hpv, hfz, hsmall, hC, hnx⟩ := hrel
    rename World => wr
    go_wp2_with (first
      | (at_next; refine wpList_next_ranges _ rfl _ rfl 58 law58 (unitElem (H := Unit)) pmV (fun _ : Unit => Value.agg #[]) (fun key kl hk => by obtain ⟨x, hx, _⟩ := keyPm_inv hk; exact ⟨x, hx⟩) (fun v y hv => ⟨(), (unitElem_inv hv).1⟩) b (w1.heap.size + 1) n _ _ _ rfl hrg ?_ ?_)
      | go_in)
    · intro hc0 hl0
      rcases hrow.2 with ⟨hnil, _⟩ | ⟨g, cap, cur, rfl, hbase, hb, h1, h2, h3, h4⟩
      · exact absurd hnil hnn
      have hH : HoldsK encPm 2 wr g 0 ps.toArray := holdsK_of_block hb h4
      have hgl : g < wr.heap.size := (Array.getElem?_eq_some_iff.1 hb).1
      have hmemps : ∀ p ∈ ps, SmPm p := fun p hp => hsm p (hsmall p hp).1 (hsmall p hp).2 ((hC.2 (kb p)).1 (List.mem_map.2 ⟨p, hp, rfl⟩)).1
      have hgv : w1.heap.size ≠ g := fun e => hvn (by simp [Value.ownBlock, e])
      have hc := hide (slice_any g 0 w1.heap.size cap ps.toArray wr hgv (by simp; omega) ⟨hH, hgl, by simpa using hpv, fun i hi => by
        have hi' : i < ps.length := by simpa using hi
        have : ps.toArray[i]! ∈ ps := by simp [hi']
        exact hmemps _ this⟩)
      have hszp : ps.toArray.size = ps.length := by simp
      rw [hszp] at hc
      go_wp2_with (go_at_call 65; refine Calls.mono hc.out ?_; rintro e w' ⟨rfl, d', hP, hS, hm⟩; have k1 := hm.rw.var)
      go_ret
      have hd : d'.size = ps.length := hm.size
      have hPm : d'.toList.Perm ps := by have := perm_of_permIn (d := ps.toArray) (show PermIn 0 ps.toArray.size ps.toArray d' by rw [hszp]; exact hP); simpa using this
      have hndp : ps.Nodup := (List.pairwise_map.1 hC.1).imp (fun h e => h (by rw [e]))
      have hnd : d'.toList.Nodup := hPm.symm.nodup hndp
      have hget : ∀ j (hj : j < d'.size), d'[j]! = d'[j] := fun j hj => getElem!_pos d' j hj
      refine ⟨g, cap, d'.size, fun j => d'[j]!, rfl, by omega, ⟨hm.rw.lt, fun j hj => ?_, fun j hj => ?_, fun i j hij hj => hS i j (Nat.zero_le _) hij (by simpa [hd] using hj), fun i j hij hj e => ?_, fun p hp1 hp2 => ?_, fun j hj => ?_⟩, ?_, hbase⟩
      · have := hm.rw.c0 hj; simpa using this
      · have := hm.rw.c1 hj; simpa using this
      · have e' : d'[i]! = d'[j]! := e
        rw [hget i (by omega), hget j hj, ← Array.getElem_toList, ← Array.getElem_toList] at e'
        exact List.pairwise_iff_getElem.1 hnd i j (by simpa using (by omega : i < d'.size)) (by simpa using hj) hij e'
      · constructor
        · intro h
          have h0 := (hC.2 (kb p)).2 ⟨h, hl0 _⟩
          obtain ⟨q, hq, hkq⟩ := List.mem_map.1 h0
          obtain rfl := kb_inj (hsmall q hq).1 (hsmall q hq).2 hp1 hp2 hkq
          obtain ⟨j, hj, e⟩ := List.getElem_of_mem (hPm.mem_iff.2 hq)
          have hj' : j < d'.size := by simpa using hj
          exact ⟨j, hj', by rw [← e]; show d'[j]! = _; rw [hget j hj', Array.getElem_toList]⟩
        · rintro ⟨j, hj, e⟩
          have e' : d'[j]! = p := e
          rw [hget j hj] at e'
          have : p ∈ ps := hPm.mem_iff.1 (by rw [← e']; simp)
          exact ((hC.2 (kb p)).1 (List.mem_map.2 ⟨p, this, rfl⟩)).1
      · show SmPm (d'[j]!)
        rw [hget j hj]
        exact hmemps _ (hPm.mem_iff.1 (by simp))
      · exact hnx.grown hm.grown hnx.size (fun j hj => by cases hj; exact hbase)
    · intro x1 x2 kl yd yp w2 cnt2 hkey hlk hv hat hrg2 hlt hg2 hs2 hen
      simp only [pmV] at hen ⊢
      have hrow2 := hrow.kept hg2 (Or.inr (row_ne_iter hrow hrg).symm)
      have hpv2 : w2.cell? ⟨w1.heap.size, 0, none⟩ = some v := hg2.cell hpv (by simp)
      have hfz2 : w2.frozen? ⟨w1.heap.size, 0, none⟩ = false := by rw [World.frozen?_of_block (hg2.block _ (cell_in' hpv) (by simp))]; exact hfz
      have hpl : w1.heap.size < wr.heap.size := cell_in' hpv
      have hbel2 := hnx.grown hg2 hnx.size (fun j hj => by cases hj; omega)
      clear hpv0 hfz0 hbel0 hrow1 hg0 hpv hfz hs2
      have hpv3 : ∀ o, (w2.alloc o).cell? ⟨w1.heap.size, 0, none⟩ = some v := fun o => (World.grownBy_alloc w2 o none).cell hpv2 (by simp)
      have hpv4 : ∀ o q, ((w2.alloc o).alloc q).cell? ⟨w1.heap.size, 0, none⟩ = some v := fun o q => (World.grownBy_alloc (w2.alloc o) q none).cell (hpv3 o) (by simp)
      have hfz4 : ∀ o q, ((w2.alloc o).alloc q).frozen? ⟨w1.heap.size, 0, none⟩ = false := fun o q => by
        rw [World.frozen?_of_block ((World.grownBy_alloc (w2.alloc o) q none).block _ (cell_in' (hpv3 o)) (by simp)), World.frozen?_of_block ((World.grownBy_alloc w2 o none).block _ (cell_in' hpv2) (by simp))]; exact hfz2
      go_wp2_with (first
        | (at_builtin; refine append_pm _ rfl _ _ rfl w.heap.size v _ _ rfl ((hrow2.alloc _).alloc _) (by omega) (w2.heap.size + 1) _ x1 x2 rfl (top2 _ _ _) (by have := hbel2.size; simp; omega) (w2.heap.size + 1 + 1) (by simp) ?_; intro g cap3 w3 hown3 hg3 hat3 hlt3; have k1 := hg3.cell (hpv4 _ _) (Ne.symm hvn); have k2 : w3.frozen? ⟨w1.heap.size, 0, none⟩ = false := (by rw [World.frozen?_of_block (hg3.block _ (cell_in' (hpv4 _ _)) (Ne.symm hvn))]; exact hfz4 _ _))
        | go_in)
      have hgn : g ≠ w1.heap.size := fun e => by
        rcases hat3 with h | h
        · exact hvn (h.trans (by rw [e]))
        · have := cell_in' hpv2; simp at this; omega
      obtain ⟨p0, hp0', hz1', hz2', hkl⟩ := keyPm_inv (show keyOf Try.prog 58 (pmV (x1, x2)) = some kl from hkey)
      obtain rfl : p0 = (x1, x2) := by
        obtain ⟨y1, y2⟩ := p0
        simp [pmV] at hp0'
        rw [hp0'.1, hp0'.2]
      subst hkl
      have hgs := grownBy_setCell w3 w1.heap.size 0 (.slice (some ⟨g, 0, none⟩) (ps.length + 1) cap3)
      have hrg3 := ((hrg2.alloc (.cells #[.string x1, .string x2] 58)).alloc (.cells #[.string x1, .string x2] 58)).kept hg3 (row_ne_low hrow2 hbl) (row_ne_iter hrow2 hrg2)
      have hrg4 := hrg3.kept hgs (by simp; omega) (by simp)
      go_roundw
      case rel =>
        refine ⟨_, cnt2, ps ++ [(x1, x2)], _, hrg4, by simp; omega, ?_, by simp, by simpa [Value.ownBlock] using hgn, World.cell?_setCell_same w3 _ _ k1, by rw [World.frozen?_setCell]; exact k2, ?_, ?_, ?_⟩
        · rw [pcells_snoc]
          simpa using hown3.kept hgs (Or.inr (by simpa [Value.ownBlock] using hgn))
        · intro p hp
          rcases List.mem_append.1 hp with h | h
          · exact hsmall p h
          · simp at h; subst h; exact ⟨hz1', hz2'⟩
        · rw [List.map_append]
          exact hC.step hlk hat
        · exact (((hbel2.alloc (by have := hbel2.size; omega) _).alloc (by have := hbel2.size; simp; omega) _).grown hg3 (by have := hbel2.size; simp; omega) (fun j hj => (hrow2.lt j hj).1)).grown hgs (by have := hbel2.size; have := hg3.size; simp at this; omega) (fun j hj => by cases hj; omega)
      case measure => rw [hrg4.left_eq, hrg.left_eq]; exact hlt
end Go.Proofs.Qxb6614755a
