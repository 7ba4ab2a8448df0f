/- Deleting a DSD set: checkNames (57), set (61), remove (54), DeleteDsdSet (48), ZZdeleteDsdSet (16); the names: 17, 18. -/
import Derived.Test.Qxb6614755aDsd
namespace Go.Proofs.Qxb6614755a
open Go.RowKit Go.Maps Go.Sort Go.WideMaps

def badArgs : ByteArray := ⟨#[98, 97, 100, 45, 97, 114, 103, 117, 109, 101, 110, 116, 115]⟩
def noSuchSet : ByteArray := ⟨#[110, 111, 45, 115, 117, 99, 104, 45, 115, 101, 116]⟩

set_option maxRecDepth 100000 in
set_option maxHeartbeats 400000 in
theorem checkNames_yes (b : Nat) (nm : ByteArray) (w : World) (hc : w.cell? ⟨b, 0, none⟩ = some (.string nm)) (hs : nm.size ≤ maxLen) (hv : Valid nm) :
    Calls Try.prog 57 #[.slice (some ⟨b, 0, none⟩) 1 1] w fun e w' => e = .returned .nilIface ∧ w' = w := by
  have C := hide (valid_yes nm w hs hv)
  clear hv
  go_enter Try.func57, Try.ntmps57
  go_wp2
  refine wp_loop_rounds 2 ?_
  rw [rounds_succ]
  go_wp2_with (go_at_call 63; refine (unhide C).mono ?_; rintro e w' ⟨rfl, rfl⟩)
  rw [rounds_succ]
  go_wp2
  go_ret
  exact ⟨rfl, rfl⟩

set_option maxRecDepth 100000 in
set_option maxHeartbeats 400000 in
theorem checkNames_no (b : Nat) (nm : ByteArray) (w : World) (hc : w.cell? ⟨b, 0, none⟩ = some (.string nm)) (hs : nm.size ≤ maxLen) (hv : ¬ Valid nm) :
    Calls Try.prog 57 #[.slice (some ⟨b, 0, none⟩) 1 1] w fun e w' => e = .returned (.iface 84 (.pointer (some ⟨w.heap.size, 0, none⟩))) ∧ w' = w.alloc (.cells #[.string badArgs, .string nm] 87) := by
  have C := hide (valid_no nm w hs hv)
  have C2 := hide (refuse_any badArgs nm w)
  clear hv
  go_enter Try.func57, Try.ntmps57
  go_wp2
  refine wp_loop_rounds 1 ?_
  rw [rounds_succ]
  go_wp2_with (first | (go_at_call 63; refine (unhide C).mono ?_; rintro e w' ⟨rfl, rfl⟩) | (go_at_call 64; refine (unhide C2).mono ?_; rintro e w' ⟨rfl, rfl⟩))
  go_ret
  exact ⟨rfl, rfl⟩

theorem zero78 (w : World) : (zeroValue 78).run Try.prog w = .ok (.pointer none) w := by kernel_rfl

/-- The law for 'v, ok := m[k]' at pointers: the value's shape written out. -/
theorem wpList_lookup_ptr (w : World) {ops : Array Oper} {rest : List Oper} {o : Oper} {a : Act} {Q : Exit → Act → World → Prop} (hg : o.guard = none) (m x : Operand) (t : TypeId) (hop : o.op = Op.lookup t m x true)
    (e : TypeId) (ht : Try.prog.underlying t = some (.map 9 e)) (hz : (zeroValue e).run Try.prog w = .ok (.pointer none) w) (b n : Nat) (D : DataW (Option Addr))
    (hm : a.eval m = .map (some b)) (hown : w.ownsMap Try.prog 9 ptrElem b n D) (key : Value) (kl : Lit) (hx : a.eval x = key) (hkey : keyOf Try.prog 9 key = some kl)
    (hK : ∀ c : Option Addr, D.atKey kl (.held none) = .held c → wpList Try.prog ops Q rest (a.put o.dst (.tuple #[.pointer c, .bool (Maps.has D kl)])) w) :
    wpList Try.prog ops Q (o :: rest) a w :=
  wpList_lookup_own_ok w hg m x t hop 9 e law9 ht ptrElem hz (.held none) [] (ptrElem_mk none) b n D hm hown key kl hx hkey (fun v ps hv => by
    obtain ⟨c, rfl, hc⟩ := ptrElem_inv hv
    exact hK c (congrArg Prod.fst hc))

set_option maxRecDepth 100000 in
set_option maxHeartbeats 400000 in
theorem set_yes (b n : Nat) (D : DataW (Option Addr)) (nm : ByteArray) (w : World) (hown : w.ownsMap Try.prog 9 ptrElem b n D) (hs : nm.size ≤ maxLen) (hh : Maps.has D (.string nm.toList) = true) :
    Calls Try.prog 61 #[.map (some b), .string nm] w fun e w' => (∃ c : Option Addr, e = .returned (.tuple #[.pointer c, .nilIface])) ∧ w' = w := by
  have hkey := key9 nm hs
  go_enter Try.func61, Try.ntmps61
  go_wp2_with (at_lookup; refine wpList_lookup_ptr _ rfl _ _ 68 rfl 78 Try.underlying68 (zero78 _) b n _ rfl hown _ _ rfl hkey ?_; intro c _)
  go_ret2
  exact ⟨⟨c, rfl⟩, rfl⟩

set_option maxRecDepth 100000 in
set_option maxHeartbeats 400000 in
theorem set_no (b n : Nat) (D : DataW (Option Addr)) (nm : ByteArray) (w : World) (hown : w.ownsMap Try.prog 9 ptrElem b n D) (hs : nm.size ≤ maxLen) (hh : Maps.has D (.string nm.toList) = false) :
    Calls Try.prog 61 #[.map (some b), .string nm] w fun e w' => e = .returned (.tuple #[.pointer none, .iface 84 (.pointer (some ⟨w.heap.size, 0, none⟩))]) ∧ w' = w.alloc (.cells #[.string noSuchSet, .string nm] 87) := by
  have hkey := key9 nm hs
  have C2 := hide (refuse_any noSuchSet nm w)
  go_enter Try.func61, Try.ntmps61
  go_wp2_with (first | (at_lookup; refine wpList_lookup_ptr _ rfl _ _ 68 rfl 78 Try.underlying68 (zero78 _) b n _ rfl hown _ _ rfl hkey ?_; intro c _) | (go_at_call 64; refine (unhide C2).mono ?_; rintro e w' ⟨rfl, rfl⟩))
  go_ret2
  exact ⟨rfl, rfl⟩

/-- It is refused with the code c; nothing that was there has turned. -/
def Refused (c : ByteArray) (w : World) (e : Ending) (w' : World) : Prop := ∃ g, e = .returned (.iface 84 (.pointer (some ⟨g, 0, none⟩))) ∧ w'.cell? ⟨g, 0, none⟩ = some (.string c) ∧ w.grownBy w' none
/-- It is accepted: the key is gone; nothing else that was there has turned. -/
def Removed (b n : Nat) (D : DataW (Option Addr)) (nm : ByteArray) (w : World) (e : Ending) (w' : World) : Prop := e = .returned .nilIface ∧ w'.ownsMap Try.prog 9 ptrElem b n (D.del (.string nm.toList)) ∧ w.grownBy w' (some b)

set_option maxRecDepth 100000 in
set_option maxHeartbeats 400000 in
theorem remove_bad (b : Nat) (nm : ByteArray) (w : World) (hs : nm.size ≤ maxLen) (hv : ¬ Valid nm) :
    Calls Try.prog 54 #[.map (some b), .string nm] w (Refused badArgs w) := by
  go_enter Try.func54, Try.ntmps54
  go_wp2_with fail
  refine (checkNames_no _ nm _ (by simp) hs hv).mono ?_
  rintro e w' ⟨rfl, rfl⟩
  go_wp2
  go_ret
  refine ⟨_, rfl, ?_, (World.grownBy_alloc _ _ _).trans (World.grownBy_alloc _ _ _)⟩
  simp

set_option maxRecDepth 100000 in
set_option maxHeartbeats 400000 in
theorem remove_none (b n : Nat) (D : DataW (Option Addr)) (nm : ByteArray) (w : World) (hown : w.ownsMap Try.prog 9 ptrElem b n D) (hs : nm.size ≤ maxLen) (hv : Valid nm) (hh : Maps.has D (.string nm.toList) = false) :
    Calls Try.prog 54 #[.map (some b), .string nm] w (Refused noSuchSet w) := by
  go_enter Try.func54, Try.ntmps54
  go_wp2_with fail
  refine (checkNames_yes _ nm _ (by simp) hs hv).mono ?_
  rintro e w' ⟨rfl, rfl⟩
  go_wp2_with fail
  refine (set_no b n D nm _ (hown.alloc _) hs hh).mono ?_
  rintro e w' ⟨rfl, rfl⟩
  go_wp2
  go_ret
  refine ⟨_, rfl, ?_, (World.grownBy_alloc _ _ _).trans (World.grownBy_alloc _ _ _)⟩
  simp

set_option maxRecDepth 100000 in
set_option maxHeartbeats 400000 in
theorem remove_yes (b n : Nat) (D : DataW (Option Addr)) (nm : ByteArray) (w : World) (hown : w.ownsMap Try.prog 9 ptrElem b n D) (hs : nm.size ≤ maxLen) (hv : Valid nm) (hh : Maps.has D (.string nm.toList) = true) :
    Calls Try.prog 54 #[.map (some b), .string nm] w (Removed b n D nm w) := by
  have hkey := key9 nm hs
  go_enter Try.func54, Try.ntmps54
  go_wp2_with fail
  refine (checkNames_yes _ nm _ (by simp) hs hv).mono ?_
  rintro e w' ⟨rfl, rfl⟩
  go_wp2_with fail
  refine (set_yes b n D nm _ (hown.alloc _) hs hh).mono ?_
  rintro e w' ⟨⟨c, rfl⟩, rfl⟩
  clear hh hv
  go_wp2_with (at_delete; refine wpList_delete_own _ rfl _ _ 68 9 rfl 78 law9 Try.underlying68 _ b n D rfl (hown.alloc _) _ _ rfl hkey ?_; intro w1 hown1 hturn1)
  go_ret
  exact ⟨rfl, hown1, (World.grownBy_alloc _ _ _).trans hturn1.grown⟩

section
variable (bp bd : Nat) (nm : ByteArray) (w : World)

set_option maxRecDepth 100000 in
set_option maxHeartbeats 400000 in
theorem delete48_no (c : ByteArray) (HC : Hid (Calls Try.prog 54 #[.map (some bd), .string nm] w (Refused c w))) (hc : w.cell? ⟨bp, 6, none⟩ = some (.map (some bd))) :
    Calls Try.prog 48 #[.pointer (some ⟨bp, 0, none⟩), .string nm] w (Refused c w) := by
  go_enter Try.func48, Try.ntmps48
  go_wp2_with fail
  refine (unhide HC).mono ?_
  rintro e w' ⟨g, rfl, h1, h2⟩
  have HR := hide (And.intro h1 h2)
  clear h1 h2 HC
  go_wp2
  go_ret
  exact ⟨g, rfl, HR.out⟩

set_option maxRecDepth 100000 in
set_option maxHeartbeats 400000 in
theorem delete48_yes (n : Nat) (D : DataW (Option Addr)) (HC : Hid (Calls Try.prog 54 #[.map (some bd), .string nm] w (Removed bd n D nm w))) (hc : w.cell? ⟨bp, 6, none⟩ = some (.map (some bd))) :
    Calls Try.prog 48 #[.pointer (some ⟨bp, 0, none⟩), .string nm] w (Removed bd n D nm w) := by
  go_enter Try.func48, Try.ntmps48
  go_wp2_with fail
  refine (unhide HC).mono ?_
  rintro e w' ⟨rfl, h1, h2⟩
  have HR := hide (And.intro h1 h2)
  clear h1 h2 HC
  go_wp2
  go_ret
  exact ⟨rfl, HR.out⟩

theorem assert84 (W : World) (v : Value) : (Instr.typeAssert (.iface 84 v) 82 84 true).run Try.prog W = .ok (.tuple #[v, .bool true]) W := by kernel_rfl

/-- ZZdeleteDsdSet's answer: refused with c. -/
def SaysNo (c : ByteArray) (w : World) (e : Ending) (w' : World) : Prop := e = .returned (.tuple #[.bool true, .string c]) ∧ w.grownBy w' none
/-- .. accepted. -/
def SaysYes (b n : Nat) (D : DataW (Option Addr)) (nm : ByteArray) (w : World) (e : Ending) (w' : World) : Prop := e = .returned (.tuple #[.bool false, .string ⟨#[]⟩]) ∧ w'.ownsMap Try.prog 9 ptrElem b n (D.del (.string nm.toList)) ∧ w.grownBy w' (some b)

set_option maxRecDepth 100000 in
set_option maxHeartbeats 400000 in
theorem delete16_no (c : ByteArray) (bp : Nat) (nm : ByteArray) (w : World) (HC : Hid (Calls Try.prog 48 #[.pointer (some ⟨bp, 0, none⟩), .string nm] w (Refused c w))) :
    Calls Try.prog 16 #[.pointer (some ⟨bp, 0, none⟩), .string nm] w (SaysNo c w) := by
  go_enter Try.func16, Try.ntmps16
  go_wp2_with fail
  refine (unhide HC).mono ?_
  rintro e w' ⟨g, rfl, hcell, hg⟩
  have HG := hide hg
  have has := assert84
  clear hg
  go_wp2
  go_ret2
  exact ⟨rfl, HG.out⟩

set_option maxRecDepth 100000 in
set_option maxHeartbeats 400000 in
theorem delete16_yes (bp bd n : Nat) (D : DataW (Option Addr)) (nm : ByteArray) (w : World) (HC : Hid (Calls Try.prog 48 #[.pointer (some ⟨bp, 0, none⟩), .string nm] w (Removed bd n D nm w))) :
    Calls Try.prog 16 #[.pointer (some ⟨bp, 0, none⟩), .string nm] w (SaysYes bd n D nm w) := by
  go_enter Try.func16, Try.ntmps16
  go_wp2_with fail
  refine (unhide HC).mono ?_
  rintro e w' ⟨rfl, hcell, hg⟩
  have HG := hide (And.intro hcell hg)
  clear hg hcell
  go_wp2
  go_ret2
  exact ⟨rfl, HG.out⟩

set_option maxRecDepth 100000 in
set_option maxHeartbeats 400000 in
theorem dsdNames_any (bp bd n : Nat) (D : DataW (Option Addr)) (w : World) (hc : w.cell? ⟨bp, 6, none⟩ = some (.map (some bd))) (hown : w.ownsMap Try.prog 9 ptrElem bd n D) (hn : n ≤ 2097152) :
    Calls Try.prog 17 #[.pointer (some ⟨bp, 0, none⟩)] w (SortsTo2 D n w) := by
  have HC := hide (setNames_any bd n D w hown hn)
  clear hown
  go_enter Try.func17, Try.ntmps17
  go_wp2_with fail
  refine (unhide HC).mono ?_
  rintro e w' ⟨g, cap, m, S, rfl, h1, h2, h3, h4⟩
  have HG := hide (And.intro h1 (And.intro h2 (And.intro h3 h4)))
  clear h1 h2 h3 h4 HC
  go_wp2
  go_ret
  exact ⟨g, cap, m, S, rfl, HG.out⟩

set_option maxRecDepth 100000 in
set_option maxHeartbeats 400000 in
theorem ssdNames_any (bp bd n : Nat) (D : DataW (Option Addr)) (w : World) (hc : w.cell? ⟨bp, 5, none⟩ = some (.map (some bd))) (hown : w.ownsMap Try.prog 9 ptrElem bd n D) (hn : n ≤ 2097152) :
    Calls Try.prog 18 #[.pointer (some ⟨bp, 0, none⟩)] w (SortsTo2 D n w) := by
  have HC := hide (setNames_any bd n D w hown hn)
  clear hown
  go_enter Try.func18, Try.ntmps18
  go_wp2_with fail
  refine (unhide HC).mono ?_
  rintro e w' ⟨g, cap, m, S, rfl, h1, h2, h3, h4⟩
  have HG := hide (And.intro h1 (And.intro h2 (And.intro h3 h4)))
  clear h1 h2 h3 h4 HC
  go_wp2
  go_ret
  exact ⟨g, cap, m, S, rfl, HG.out⟩
end

/-- ZZdeleteDsdSet, all ways. -/
theorem delete_bad (bp bd : Nat) (nm : ByteArray) (w : World) (hc : w.cell? ⟨bp, 6, none⟩ = some (.map (some bd))) (hs : nm.size ≤ maxLen) (hv : ¬ Valid nm) :
    Calls Try.prog 16 #[.pointer (some ⟨bp, 0, none⟩), .string nm] w (SaysNo badArgs w) :=
  delete16_no badArgs bp nm w (hide (delete48_no bp bd nm w _ (hide (remove_bad bd nm w hs hv)) hc))
theorem delete_none (bp bd n : Nat) (D : DataW (Option Addr)) (nm : ByteArray) (w : World) (hc : w.cell? ⟨bp, 6, none⟩ = some (.map (some bd))) (hown : w.ownsMap Try.prog 9 ptrElem bd n D) (hs : nm.size ≤ maxLen) (hv : Valid nm) (hh : Maps.has D (.string nm.toList) = false) :
    Calls Try.prog 16 #[.pointer (some ⟨bp, 0, none⟩), .string nm] w (SaysNo noSuchSet w) :=
  delete16_no noSuchSet bp nm w (hide (delete48_no bp bd nm w _ (hide (remove_none bd n D nm w hown hs hv hh)) hc))
theorem delete_yes (bp bd n : Nat) (D : DataW (Option Addr)) (nm : ByteArray) (w : World) (hc : w.cell? ⟨bp, 6, none⟩ = some (.map (some bd))) (hown : w.ownsMap Try.prog 9 ptrElem bd n D) (hs : nm.size ≤ maxLen) (hv : Valid nm) (hh : Maps.has D (.string nm.toList) = true) :
    Calls Try.prog 16 #[.pointer (some ⟨bp, 0, none⟩), .string nm] w (SaysYes bd n D nm w) :=
  delete16_yes bp bd n D nm w (hide (delete48_yes bp bd nm w _ _ (hide (remove_yes bd n D nm w hown hs hv hh)) hc))
end Go.Proofs.Qxb6614755a
