/- FnNextRoundSplitsAtAnyCutOfTheElections: helpers of the walk. -/
import Derived.Test.Qxb6615896aSplit
import Derived.Deep.QuietTactic
import Derived.BigQuiet
namespace Go.Proofs.Qxb6615896a
open Go.RowKit Go.Maps Go.WideMaps

theorem ElecsAt.take {w : World} {a : Option Addr} {n k : Nat} {E : Nat → Elec} (h : ElecsAt w a n E) (hk : k ≤ n) : ElecsAt w a k E := by
  rcases h with rfl | ⟨b, off, h1, h2, h3⟩
  · exact .inl (by omega)
  · exact .inr ⟨b, off, h1, h2, fun j hj => h3 j (by omega)⟩
theorem ElecsAt.drop {w : World} {b off n k : Nat} {E : Nat → Elec} (h : ElecsAt w (some ⟨b, off, none⟩) n E) (hk : k ≤ n) : ElecsAt w (some ⟨b, off + k * 7, none⟩) (n - k) (shift E k) := by
  rcases h with rfl | ⟨b', off', h1, h2, h3⟩
  · exact .inl (by omega)
  · cases h1
    refine .inr ⟨b, off + k * 7, rfl, h2, fun j hj => ?_⟩
    have := h3 (k + j) (by omega)
    rw [Nat.add_mul, ← Nat.add_assoc] at this
    exact this
theorem Bounded.take {n k m : Nat} {E : Nat → Elec} (h : Bounded n E m) (hk : k ≤ n) : Bounded k E m := ⟨by have := h.1; omega, fun j hj => h.2.1 j (by omega), h.2.2⟩
theorem Bounded.drop {n k m : Nat} {E : Nat → Elec} (h : Bounded n E m) (hk : k ≤ n) : Bounded (n - k) (shift E k) m := ⟨by have := h.1; omega, fun j hj => h.2.1 (k + j) (by omega), h.2.2⟩
theorem Keys.take {n k m : Nat} {E : Nat → Elec} {B : Nat → Bod} (h : Keys n E m B) (hk : k ≤ n) : Keys k E m B := ⟨fun j hj => h.1 j (by omega), h.2⟩
theorem Keys.drop {n k m : Nat} {E : Nat → Elec} {B : Nat → Bod} (h : Keys n E m B) (hk : k ≤ n) : Keys (n - k) (shift E k) m B := ⟨fun j hj => h.1 (k + j) (by omega), h.2⟩

theorem below_drewN {B : Nat} {a w : World} (h : Below B a w) (n : Nat) : Below B a (w.drewN n) := ⟨h.os, h.tape, h.output, h.size, h.block⟩
theorem below_from_drew {a w : World} (h : Below a.drew.heap.size a.drew w) : Below a.heap.size a w := ⟨h.os, h.tape, h.output, h.size, h.block⟩
theorem sel_get (E : Nat → Elec) {k t : Nat} (ht : t < cnt E k) : ∃ o, (sel E k)[t]? = some o := ⟨_, List.getElem?_eq_getElem (by rw [sel_len]; exact ht)⟩
theorem sel_left (E : Nat → Elec) {k n t : Nat} (hk : k ≤ n) {o : OutE} (h : (sel E k)[t]? = some o) : (sel E n)[t]? = some o := by
  obtain ⟨d, rfl⟩ : ∃ d, n = k + d := ⟨n - k, by omega⟩
  rw [sel_split, List.getElem?_append_left (List.getElem?_eq_some_iff.1 h).1]
  exact h
theorem sel_right (E : Nat → Elec) {k n t : Nat} (hk : k ≤ n) {o : OutE} (h : (sel (shift E k) (n - k))[t]? = some o) : (sel E n)[cnt E k + t]? = some o := by
  obtain ⟨d, rfl⟩ : ∃ d, n = k + d := ⟨n - k, by omega⟩
  rw [sel_split, List.getElem?_append_right (by rw [sel_len]; omega), sel_len]
  rw [show k + d - k = d by omega] at h
  rw [show cnt E k + t - cnt E k = t by omega]
  exact h
theorem same_cands {cs : List (ByteArray × ByteArray)} {C D : Nat → ByteArray × ByteArray} (hC : ∀ i p, cs[i]? = some p → C i = p) (hD : ∀ i p, cs[i]? = some p → D i = p) : ∀ j, j < cs.length → C j = D j := fun j hj =>
  (hC j _ (List.getElem?_eq_getElem hj)).trans (hD j _ (List.getElem?_eq_getElem hj)).symm

theorem wrap_sum (p q : Nat) (h : p + q ≤ 4194304) : wrap64 ((p : Int) + (q : Int)) = ((p + q : Nat) : Int) := by rw [IntWalk.wrap64_in _ (by omega)]; omega
theorem wrap_sum' (p q : Nat) (h : p + q ≤ 4194304) : IntKind.i64.wrap ((p : Int) + (q : Int)) = ((p + q : Nat) : Int) := by rw [IntWalk.i64_left]; exact wrap_sum p q h


theorem ElecsAt.drop0 {w : World} {a : Option Addr} {n k : Nat} {E : Nat → Elec} (hk : n ≤ k) : ElecsAt w a (n - k) (shift E k) := .inl (by omega)
theorem cnt_mono (E : Nat → Elec) {i n : Nat} (h : i ≤ n) : cnt E i ≤ cnt E n := by
  obtain ⟨d, rfl⟩ : ∃ d, n = i + d := ⟨n - i, by omega⟩
  rw [cnt_split]; omega
theorem not_va (E : Nat → Elec) {i n : Nat} (h : i < n) (h0 : cnt E n = 0) : isVa (E i) = false := by
  cases hv : isVa (E i) with
  | false => rfl
  | true => have := cnt_lt E h hv; omega
theorem cnt_parts (E : Nat → Elec) {k n : Nat} (h : k ≤ n) : cnt E n = cnt E k + cnt (shift E k) (n - k) := by
  rw [← cnt_split, show k + (n - k) = n by omega]
theorem idx0 {L : List OutE} {c t : Nat} {o : OutE} (h0 : c = 0) (h : L[c + t]? = some o) : L[t]? = some o := by subst h0; rwa [Nat.zero_add] at h
theorem ElecsAt.dropY {w : World} {y : Addr} {n k : Nat} {E : Nat → Elec} (h : ElecsAt w (some y) n E) (hk : k ≤ n) : ElecsAt w (some (y.add (k * 7))) (n - k) (shift E k) := by
  rcases h with rfl | ⟨b, off, h1, h2, h3⟩
  · exact .inl (by omega)
  · cases h1
    rw [Go.WideShapes.add_plain]
    exact ElecsAt.drop (.inr ⟨b, off, rfl, h2, h3⟩) hk
def Says (w : World) (e : Ending) (w' : World) : Prop := e = .returned (.bool true) ∧ Below w.heap.size w w'
end Go.Proofs.Qxb6615896a
