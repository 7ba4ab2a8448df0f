/- sort.Slice (65) on a row of permissions, by the written form. -/
import Derived.Test.Qxb6614755aPs9
import Derived.Shelf.GgSortFunc.Tiny
namespace Go.Proofs.Qxb6614755a
open Go.RowKit Go.Sort Go.Lib

noncomputable def svT : TypeInfo := (Try.prog.info? 48).get (by kernel_rfl)
noncomputable def svE : TypeInfo := (Try.prog.info? 58).get (by kernel_rfl)
theorem svK (n : Nat) (h2 : 2 ≤ n) : Lib.swapperK n svE 25 = 9 := by
  have a : svE.hasPointers = true := by kernel_rfl
  have b : svE.bytes = 32 := by kernel_rfl
  have c : (n == 0) = false := by simp; omega
  have d : (n == 1) = false := by simp; omega
  simp [Lib.swapperK, a, b, c, d]
theorem swaps_any (blk off n cap : Nat) : SwapSwapsK Try.prog 83 #[.slice (some ⟨blk, off, none⟩) n cap, typeHandle Try.prog 58] encPm 2 blk off n :=
  swapSwapsK_of_literal false 83 (fun args W => run_callFunc_extern Try.func83 (by kernel_rfl) (by kernel_rfl) (by kernel_rfl) (e := Extern.ReflectliteSwapper.swap false) (by kernel_rfl) args W) 58 svE (by kernel_rfl) encPm 2 encPm_len (by kernel_rfl) (fun _ => by kernel_rfl)
    (fun x v hv => by simp [encPm] at hv; rcases hv with rfl | rfl <;> rfl) blk off n cap

theorem slice_any (blk off pv cap : Nat) (d : Array Pm) (w : World) (hne : pv ≠ blk) (hn : d.size ≤ 1048576) (h : Rw blk off pv cap d w) :
    Calls Try.prog 65 #[.iface 48 (.slice (some ⟨blk, off, none⟩) d.size cap), .func (.func 66) #[] #[.pointer (some ⟨pv, 0, none⟩)]] w (Sorts blk off pv cap d.size w 0 d.size d) := by
  by_cases h2 : 2 ≤ d.size
  · have hb : Below w.heap.size w (sliceWorld Try.prog Try.laysGg6_ren 48 (some ⟨blk, off, none⟩) d.size cap w) := ((Below.refl _ _).alloc (Nat.le_refl _) _).alloc (by simp) _
    have hlim : Lib.bitLen d.size ≤ 62 := Lib.bitLen_le d.size 62 (by omega) (by omega)
    have hp := pdq_any (cap := cap) hne (swaps_any blk off d.size cap) hn (d.size + 1) 0 d.size (Lib.bitLen d.size) d (sliceWorld Try.prog Try.laysGg6_ren 48 (some ⟨blk, off, none⟩) d.size cap w) (by omega) (h.below hb) rfl (Nat.zero_le _) (Nat.le_refl _) (by omega) (Or.inl rfl)
    refine Any.sort_Slice_of_pdq (P := Try.prog) (ρ := Try.laysGg6_ren) Try.laysGg6 48 58 svT svE (by kernel_rfl) (by kernel_rfl) (by kernel_rfl) (by kernel_rfl) 25 (fun _ => by kernel_rfl) (some ⟨blk, off, none⟩) d.size cap (by omega) 83 (by rw [svK _ h2]; kernel_rfl) (.func 66) #[] #[.pointer (some ⟨pv, 0, none⟩)] w _ ?_
    have hB : sliceBound Try.prog 58 svE 25 (some ⟨blk, off, none⟩) d.size cap = #[.slice (some ⟨blk, off, none⟩) d.size cap, typeHandle Try.prog 58] := by
      unfold sliceBound; rw [svK _ h2]; rfl
    rw [hB]
    exact hp.mono fun e w' ⟨he, d', h1, h3, hm⟩ => ⟨he, d', h1, h3, hm.from (grownBy_of_below hb _)⟩
  · have hn1 : d.size ≤ 1 := by omega
    have hk : Lib.swapperK d.size svE 25 = d.size + 1 := by
      rcases Nat.eq_zero_or_pos d.size with h0 | h0
      · rw [h0]; rfl
      · rw [show d.size = 1 by omega]; rfl
    have hf : Try.prog.funcs.findIdx? (·.name == "internal/reflectlite" ++ ".Swapper$" ++ toString (Lib.swapperK d.size svE 25)) = some (75 + d.size) := by
      rw [hk]
      rcases Nat.eq_zero_or_pos d.size with h0 | h0
      · rw [h0]; kernel_rfl
      · rw [show d.size = 1 by omega]; kernel_rfl
    refine (Any.sort_Slice_tiny (P := Try.prog) (ρ := Try.laysGg6_ren) Try.laysGg6 48 58 svT svE (by kernel_rfl) (by kernel_rfl) (by kernel_rfl) (by kernel_rfl) 25 (fun _ => by kernel_rfl) (some ⟨blk, off, none⟩) d.size cap hn1 (75 + d.size) hf (.func 66) #[] #[.pointer (some ⟨pv, 0, none⟩)] w).mono ?_
    rintro e w' ⟨rfl, os, rfl⟩
    have hb : Below w.heap.size w (Sort.grow w os) := ⟨rfl, rfl, rfl, by rw [size_grow]; exact Nat.le_add_right _ _, fun k hk => by unfold Sort.grow; exact Array.getElem?_append_left hk⟩
    exact ⟨rfl, d, permIn_refl _ _ _, fun i j _ h1 h2 => by omega, (Mv.start h).below hb⟩
end Go.Proofs.Qxb6614755a
