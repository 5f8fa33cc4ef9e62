/-
  THE SHELF's CONTRACT for slices.Sort at []string, laid at this dump in plain words (by the shelf's own commands lay-shelf, lay-plain; cut down to one), and what it says of a row of two strings that the call owns.
-/
import Derived.Shelf.Sort.Plain
import Derived.Sort.OwnSorted
import Derived.Test.Qxb6001175aSplit
namespace Go.Proofs.Qxb6001175a
open Go.Shelf Go.RowKit Go.Sort
def sh190_ren : Go.Shelf.Ren := ⟨fun | 190 => 25 | 125 => 28 | 258 => 27 | 128 => 40 | 129 => 41 | 302 => 31 | 303 => 32 | 304 => 33 | 305 => 34 | 306 => 35 | 307 => 36 | 308 => 37 | 309 => 38 | 310 => 39 | 333 => 44 | 329 => 45 | 330 => 46 | 334 => 47 | 335 => 48 | 336 => 49 | 344 => 51 | n => n, fun | 31 => 32 | 9 => 9 | 3 => 3 | 46 => 39 | 0 => 0 | 51 => 51 | 53 => 53 | 4 => 4 | 183 => 44 | 182 => 43 | 131 => 48 | 5 => 5 | 218 => 54 | 222 => 58 | 228 => 60 | 229 => 61 | n => n, fun | n => n⟩
theorem sh190 : Go.Proofs.Lays.n190 Try.prog sh190_ren := {
  mixed := by kernel_rfl
  f125 := Try.func28.trans (congrArg some (by kernel_rfl))
  f128 := Try.func40.trans (congrArg some (by kernel_rfl))
  f129 := Try.func41.trans (congrArg some (by kernel_rfl))
  f190 := Try.func25.trans (congrArg some (by kernel_rfl))
  f258 := Try.func27.trans (congrArg some (by kernel_rfl))
  f302 := Try.func31.trans (congrArg some (by kernel_rfl))
  f303 := Try.func32.trans (congrArg some (by kernel_rfl))
  f304 := Try.func33.trans (congrArg some (by kernel_rfl))
  f305 := Try.func34.trans (congrArg some (by kernel_rfl))
  f306 := Try.func35.trans (congrArg some (by kernel_rfl))
  f307 := Try.func36.trans (congrArg some (by kernel_rfl))
  f308 := Try.func37.trans (congrArg some (by kernel_rfl))
  f309 := Try.func38.trans (congrArg some (by kernel_rfl))
  f310 := Try.func39.trans (congrArg some (by kernel_rfl))
  f329 := Try.func45.trans (congrArg some (by kernel_rfl))
  f330 := Try.func46.trans (congrArg some (by kernel_rfl))
  f333 := Try.func44.trans (congrArg some (by kernel_rfl))
  f334 := Try.func47.trans (congrArg some (by kernel_rfl))
  f335 := Try.func48.trans (congrArg some (by kernel_rfl))
  f336 := Try.func49.trans (congrArg some (by kernel_rfl))
  f344 := Try.func51.trans (congrArg some (by kernel_rfl))
  t0 := Try.underlying0
  a0 := Try.isAgg0
  z0 := Try.sizeOf0
  v0 := Try.zeroValue0
  t3 := Try.underlying3
  a3 := Try.isAgg3
  z3 := Try.sizeOf3
  v3 := Try.zeroValue3
  t4 := Try.underlying4
  a4 := Try.isAgg4
  z4 := Try.sizeOf4
  v4 := Try.zeroValue4
  t5 := Try.underlying5
  a5 := Try.isAgg5
  z5 := Try.sizeOf5
  v5 := Try.zeroValue5
  t9 := Try.underlying9
  a9 := Try.isAgg9
  z9 := Try.sizeOf9
  v9 := Try.zeroValue9
  t31 := Try.underlying32
  a31 := Try.isAgg32
  z31 := Try.sizeOf32
  v31 := Try.zeroValue32
  t46 := Try.underlying39
  a46 := Try.isAgg39
  z46 := Try.sizeOf39
  v46 := Try.zeroValue39
  t51 := Try.underlying51
  a51 := Try.isAgg51
  z51 := Try.sizeOf51
  v51 := Try.zeroValue51
  t53 := Try.underlying53
  a53 := Try.isAgg53
  z53 := Try.sizeOf53
  v53 := Try.zeroValue53
  t131 := Try.underlying48
  a131 := Try.isAgg48
  z131 := Try.sizeOf48
  v131 := Try.zeroValue48
  t182 := Try.underlying43
  a182 := Try.isAgg43
  z182 := Try.sizeOf43
  v182 := Try.zeroValue43
  t183 := Try.underlying44
  a183 := Try.isAgg44
  z183 := Try.sizeOf44
  v183 := Try.zeroValue44
  t218 := Try.underlying54
  a218 := Try.isAgg54
  z218 := Try.sizeOf54
  v218 := Try.zeroValue54
  t222 := Try.underlying58
  a222 := Try.isAgg58
  z222 := Try.sizeOf58
  v222 := Try.zeroValue58
  t228 := Try.underlying60
  a228 := Try.isAgg60
  z228 := Try.sizeOf60
  v228 := Try.zeroValue60
  t229 := Try.underlying61
  a229 := Try.isAgg61
  z229 := Try.sizeOf61
  v229 := Try.zeroValue61 }

theorem sorted2 (a b : List UInt8) : ([a, b].mergeSort fun x y => decide (x ≤ y)) = [a, b] ∨ ([a, b].mergeSort fun x y => decide (x ≤ y)) = [b, a] := by
  have hp := List.mergeSort_perm [a, b] (fun x y => decide (x ≤ y))
  generalize ([a, b].mergeSort fun x y => decide (x ≤ y)) = l at hp
  have hl : l.length = 2 := hp.length_eq
  match l, hl with
  | [c, d], _ =>
    have hc : c ∈ [a, b] := hp.subset (by simp)
    simp only [List.mem_cons, List.not_mem_nil, or_false] at hc
    rcases hc with rfl | rfl
    · have := hp.cons_inv
      have : d = b := by simpa using this.subset (List.mem_singleton.2 rfl)
      subst this; exact .inl rfl
    · have h2 : [c, d].Perm [c, a] := hp.trans (List.Perm.swap _ _ _)
      have := h2.cons_inv
      have : d = a := by simpa using this.subset (List.mem_singleton.2 rfl)
      subst this; exact .inr rfl

theorem sort2 (B g cap : Nat) (a b : List UInt8) (w : World) (h : w.ownsRow B 9 1 (.slice (some ⟨g, 0, none⟩) 2 cap) 2 ([a, b].map strV)) :
    Calls Try.prog 25 #[.slice (some ⟨g, 0, none⟩) 2 cap] w fun e w' => e = .returned (.tuple #[]) ∧ ∃ c d, ((c = a ∧ d = b) ∨ (c = b ∧ d = a)) ∧ w'.ownsRow B 9 1 (.slice (some ⟨g, 0, none⟩) 2 cap) 2 ([c, d].map strV) ∧ Below B w w' := by
  have hlt := h.lt g rfl
  rcases h.2 with ⟨hnil, _⟩ | ⟨g', cap', cur, hv, hbase, hb, h1, h2, h3, h4⟩
  · cases hnil
  injection hv with e1 _ e3
  injection e1 with e1
  injection e1 with e1
  subst e1; subst e3
  have hH : Holds encStr w g 0 [a, b].toArray := holds_of_block hb h4
  refine (Any.slices_Sort_string sh190 g 0 cap [a, b] w hH hlt.2 (show 2 < 4611686018427387904 by decide)).mono ?_
  rintro e w' ⟨rfl, n, os, rfl⟩
  refine ⟨rfl, ?_⟩
  have hB : Below B w (grow (putRow encStr (Sort.ahead w n) g 0 ([a, b].mergeSort fun x y => decide (x ≤ y)).toArray) os) :=
    (Below.refl B w).grown (grownBy_sorted _) (by omega) (fun k hk => by cases hk; exact hbase)
  rcases sorted2 a b with e | e
  · rw [e] at hB ⊢
    exact ⟨a, b, .inl ⟨rfl, rfl⟩, ownsRow_sorted (ss := [a, b]) (ts := [a, b]) rfl hbase hb h1 h2 h3, hB⟩
  · rw [e] at hB ⊢
    exact ⟨b, a, .inr ⟨rfl, rfl⟩, ownsRow_sorted (ss := [a, b]) (ts := [b, a]) rfl hbase hb h1 h2 h3, hB⟩
end Go.Proofs.Qxb6001175a
