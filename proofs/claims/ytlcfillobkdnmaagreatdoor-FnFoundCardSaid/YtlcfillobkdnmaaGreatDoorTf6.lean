/- Part 6 of the proof's texts, made small by a program. -/
import Derived.Test.YtlcfillobkdnmaaGreatDoorTf5
import Derived.Lib.ParseIntBTie
import Derived.Lib.AtoiTie
import Derived.Lib.ItoaMem
import Derived.Test.YtlcfillobkdnmaaGreatDoorRows
import Derived.ProofKit
import Derived.Deep.Slices
import Derived.SliceStrings
import Derived.Lib.LaidTab
import Derived.Test.YtlcfillobkdnmaaGreatDoorCards
import Derived.Test.YtlcfillobkdnmaaGreatDoorTie
import Derived.OpenShut
import Derived.Deep.DeepHandedRow
import Derived.Deep.DeepWitnessRowRef
import Derived.RowKit
import Derived.DataWitness
import Derived.LaidLaws
set_option linter.unusedVariables false
set_option linter.unusedSimpArgs false
namespace Go.Jw
open Go Go.RowKit Go.Proofs
set_option maxRecDepth 8000
theorem fun318 : Fun Tryz.prog 318 := ⟨_, Tryz.func318, by kernel_rfl, rfl⟩
theorem fun206 : Fun Tryz.prog 206 := ⟨_, Tryz.func206, by kernel_rfl, rfl⟩
theorem fun220 : Fun Tryz.prog 220 := ⟨_, Tryz.func220, by kernel_rfl, rfl⟩
theorem c318 (x y : Nat) (hx : x < 18446744073709551616) (hy : y < 18446744073709551616) : CtV Tryz.prog 318 #[.int .u64 (x : Int), .int .u64 (y : Int)] [] (.tuple #[.int .u64 ((x * y / 18446744073709551616 : Nat) : Int), .int .u64 ((x * y % 18446744073709551616 : Nat) : Int)]) :=
 pG fun318 fun w ok h => (Tryz.bits_Mul64 x y hx hy w).mono (by
  rintro e w' ⟨rfl, rfl⟩
  exact ⟨rfl, Chg.refl _ _⟩)
theorem c220 (u : Nat) (h1 : 1 ≤ u) (h2 : u < 18446744073709551616) : CtV Tryz.prog 220 #[.int .u64 (u : Int)] [.tab] (.int .i64 ((Lib.nDigits u : Nat) : Int)) :=
 pG fun220 fun w ok h => (Tryz.internal_strconv_numDigits u h1 h2 w (tab_is (h _ List.mem_cons_self))).mono (by
  rintro e w' ⟨rfl, rfl⟩
  exact ⟨rfl, Chg.refl _ _⟩)
theorem ft_p10 {F : List Nat} {c : Ctx F} {M : List HA} {D : List DA} {w : World} (h : FitsW c M D w) {j i : Nat} {fb : Addr} (hj : D[j]? = some (ftD fb)) (hi : i < 20) : w.cell? ((⟨0, 0, none⟩ : Addr).add (i * 1)) = some (.int .u64 ((10 ^ i : Nat) : Int)) := by
  have hd : ∀ q ∈ ftL fb, _ ∧ w.cell? q.1 = some q.2 := h.dt hj
  have hm : ((⟨0, i, none⟩ : Addr), Value.int .u64 ((10 ^ i : Nat) : Int)) ∈ ftL fb := by
    unfold ftL
    exact List.mem_append_right _ (List.mem_map.2 ⟨i, List.mem_range.2 hi, rfl⟩)
  have ha : (⟨0, 0, none⟩ : Addr).add (i * 1) = ⟨0, i, none⟩ := by
    unfold Addr.add
    by_cases h0 : i * 1 = 0
    · rw [if_pos h0]; have : i = 0 := by omega
      subst this; rfl
    · rw [if_neg h0]; simp
  rw [ha]
  exact (hd _ hm).2
abbrev scB (pb hi s : Nat) : HA := .blk pb [.int .u64 (hi : Int), .int .u64 ((0 : Nat) : Int), .int .i64 (s : Int)] 342
theorem and63 {s : Nat} (h : s < 64) : s &&& 63 = s := by
 have := Nat.and_two_pow_sub_one_eq_mod s 6
 rw [show 2 ^ 6 - 1 = 63 from rfl] at this
 rw [this]; exact Nat.mod_eq_of_lt h
theorem even_and (q : Nat) : (10 * q) &&& 1 = 0 := by rw [Nat.and_one_is_mod]; omega

theorem c242 (x : Int) (h0 : -1000 ≤ x) (h1 : x ≤ 1000) : CtV Tryz.prog 242 #[.int .i64 x] [] (.int .i64 ((x * 78913).fdiv (2 ^ 18))) := by
 refine Ct.of_run (args := [.int .i64 x]) Tryz.func242 (by kernel_rfl) rfl Tryz.ntmps242 rfl (fun c => ?_)
 refine zD (zB ?_)
 refine zA (zE rfl rfl ?_)
 refine zC (zD ?_)
 refine zB (zA ?_)
 refine zF rfl rfl (zA ?_)
 refine op_mul rfl rfl rfl ?_
 rw [uO (by omega) (by omega)]
 refine zA (op_shrI (s := 18) rfl rfl rfl (by omega) rfl ?_)
 refine zA (zE rfl rfl ?_)
 refine zC ?_
 exact zK Tryz.results242 rfl ⟨rfl, rfl, rfl⟩ nS (fun _ h => by cases h)
theorem c295 (x : Int) (h0 : -1000 ≤ x) (h1 : x ≤ 1000) : CtV Tryz.prog 295 #[.int .i64 x] [] (.int .i64 ((x * 108853).fdiv (2 ^ 15))) := by
 refine Ct.of_run (args := [.int .i64 x]) Tryz.func295 (by kernel_rfl) rfl Tryz.ntmps295 rfl (fun c => ?_)
 refine zD (zB ?_)
 refine zA (zE rfl rfl ?_)
 refine zC (zD ?_)
 refine zB (zA ?_)
 refine zF rfl rfl (zA ?_)
 refine op_mul rfl rfl rfl ?_
 rw [uO (by omega) (by omega)]
 refine zA (op_shrI (s := 15) rfl rfl rfl (by omega) rfl ?_)
 refine zA (zE rfl rfl ?_)
 refine zC ?_
 exact zK Tryz.results295 rfl ⟨rfl, rfl, rfl⟩ nS (fun _ h => by cases h)
theorem c298 (x : Nat) (h0 : 1 ≤ x) (h1 : 4 * x < 18446744073709551616) : CtV Tryz.prog 298 #[.int .u64 (x : Int)] [] (.int .u64 ((4 * x - 2 : Nat) : Int)) := by
 refine Ct.of_run (args := [.int .u64 (x : Int)]) Tryz.func298 (by kernel_rfl) rfl Tryz.ntmps298 rfl (fun c => ?_)
 refine zD (zB ?_)
 refine zA (zE rfl rfl ?_)
 refine zC (zD ?_)
 refine zB (zA ?_)
 refine zF rfl rfl (zA ?_)
 refine op_shlU (m := x) (s := 2) (r := 4 * x) rfl rfl rfl (by omega) (by omega) h1 (zA ?_)
 refine op_subU (m := 4 * x) (m' := 2) (r := 4 * x - 2) rfl rfl rfl (by omega) rfl (by omega) (zA ?_)
 refine zE rfl rfl (zC ?_)
 exact zK Tryz.results298 rfl ⟨rfl, rfl, rfl⟩ nS (fun _ h => by cases h)
theorem c300 (q : Nat) (h : 4 * q + 8 < 18446744073709551616) : CtV Tryz.prog 300 #[.int .u64 ((4 * q : Nat) : Int)] [] (.int .u64 (q : Int)) := by
 refine Ct.of_run (args := [.int .u64 ((4 * q : Nat) : Int)]) Tryz.func300 (by kernel_rfl) rfl Tryz.ntmps300 rfl (fun c => ?_)
 have hm : q % 2 < 2 := Nat.mod_lt _ (by omega)
 refine zD (zB ?_)
 refine zA (zE rfl rfl ?_)
 refine zC (zD ?_)
 refine zB (zA ?_)
 refine zF rfl rfl (zA ?_)
 refine op_addU (m := 4 * q) (m' := 1) (r := 4 * q + 1) rfl rfl rfl rfl (by omega) (zA ?_)
 refine zF rfl rfl (zA ?_)
 refine op_shrU (m := 4 * q) (s := 2) (r := q) rfl rfl rfl (by omega) (by omega) (zA ?_)
 refine op_andU (m := q) (m' := 1) (r := q % 2) rfl rfl rfl (by omega) (by omega) (Nat.and_one_is_mod q) (zA ?_)
 refine op_addU (m := 4 * q + 1) (m' := q % 2) (r := 4 * q + 1 + q % 2) rfl rfl rfl rfl (by omega) (zA ?_)
 refine op_shrU (m := 4 * q + 1 + q % 2) (s := 2) (r := q) rfl rfl rfl (by omega) (by omega) (zA ?_)
 refine zE rfl rfl (zC ?_)
 exact zK Tryz.results300 rfl ⟨rfl, rfl, rfl⟩ nS (fun _ h => by cases h)
theorem c319 (b : Bool) : CtV Tryz.prog 319 #[.bool b] [] (.int .u64 ((b.toNat : Nat) : Int)) := by
 refine Ct.of_run (args := [.bool b]) Tryz.func319 (by kernel_rfl) rfl Tryz.ntmps319 rfl (fun c => ?_)
 refine zD (zB ?_)
 refine zA (zE rfl rfl ?_)
 refine zC (zD ?_)
 refine zD (zB ?_)
 refine zA (zF rfl rfl ?_)
 refine zC (yM rfl (fun h3 => ?_) (fun h3 => ?_))
 ·subst h3
  refine zD (zB ?_)
  refine zA (zE rfl rfl ?_)
  refine zC ?_
  exact zK Tryz.results319 rfl ⟨rfl, rfl, rfl⟩ nS (fun _ h => by cases h)
 subst h3
 refine zL (zD ?_)
 refine zB (zA ?_)
 refine zE rfl rfl (zC ?_)
 exact zK Tryz.results319 rfl ⟨rfl, rfl, rfl⟩ nS (fun _ h => by cases h)
set_option maxHeartbeats 1000000 in
theorem c309 (q : Nat) (h : 10 * q < 18446744073709551616) : CtV Tryz.prog 309 #[.int .u64 ((10 * q : Nat) : Int), .int .u64 ((10 : Nat) : Int)] [] (.int .u64 (q : Int)) := by
 refine Ct.of_run (args := [.int .u64 ((10 * q : Nat) : Int), .int .u64 ((10 : Nat) : Int)]) Tryz.func309 (by kernel_rfl) rfl Tryz.ntmps309 rfl (fun c => ?_)
 refine zD (zB ?_)
 refine zA (zE rfl rfl ?_)
 refine zC (zD ?_)
 refine zB (zA ?_)
 refine zF rfl rfl (zA ?_)
 refine zE rfl rfl (zC ?_)
 refine zD (wH xQ ?_)
 refine yO (tP 0 rfl wanted0 (yS rfl) ?_)
 refine tP 1 rfl wanted0 (yS rfl) (tP 3 rfl wanted0 (yS rfl) ?_)
 refine tP 6 rfl wanted0 (yS rfl) (tP 7 rfl wanted0 (yS rfl) ?_)
 refine xE (tM 2 rfl wanted0 (sA (bin_quoU (m := 10 * q) (m' := 10) (r := q) (by omega) (by omega) (by omega)) rfl rfl) ?_)
 refine tM 4 rfl wanted0 (sA (bin_andU (m := 10 * q) (m' := 1) (r := 0) h (by omega) (even_and q)) rfl rfl) (tM 5 rfl wanted0 (sA (bin_orU (m := q) (m' := 0) (r := q) (by omega) (by omega) (Nat.or_zero q)) rfl rfl) ?_)
 refine tM 8 rfl wanted0 (sA (bin_remU (m := 10 * q) (m' := 10) (r := 0) (by omega) (by omega)) rfl rfl) (tM 9 rfl wanted0 (sA (v := .bool false) (fun w => rfl) rfl rfl) ?_)
 refine yF 10 (by decide +kernel) ?_
 refine yH (I2 := [[5, 4, 2], [3, 1, 0], []]) rfl wanted0 (by decide +kernel) (fun Kd hKd => ?_)
 refine zY rfl rfl rfl (c319 false) sub0 (hKd _ _ _ (hC (hC (zP (yI)))) ?_)
 refine xE (tM 11 rfl wanted0 (sA (bin_orU (m := q) (m' := 0) (r := q) (by omega) (by omega) (Nat.or_zero q)) rfl rfl) ?_)
 refine yO (tP 12 rfl wanted0 (wK rfl) ?_)
 refine xP (by decide +kernel) (zG [4] ?_)
 change Run _ _ _ _ _ [(4, _)] _ _
 exact zK Tryz.results309 rfl ⟨rfl, rfl, rfl⟩ nS (fun _ h => by cases h)
theorem c296_6 (fb : Addr) (pb s : Nat) (e lp : Int) (cs : List Value) (hs : (s : Int) = -(e + lp + 3)) (he : -1000 ≤ e) (he2 : e ≤ 1000) (hl : -1000 ≤ lp) (hl2 : lp ≤ 1000) (v0 v1 v2 : Value) : Ct Tryz.prog 296 #[.pointer (some ⟨pb, 0, none⟩), .int .i64 e, .int .i64 6, .int .i64 lp] [.blk pb [v0, v1, v2] 342] [ftD fb] (fun u M' D' => u = .tuple #[] ∧ M' = [scB pb 17592186044416000000 s] ∧ D' = []) := by
 refine Ct.of_run (args := [.pointer (some ⟨pb, 0, none⟩), .int .i64 e, .int .i64 6, .int .i64 lp]) Tryz.func296 (by kernel_rfl) rfl Tryz.ntmps296 rfl (fun c => ?_)
 refine zD (zB ?_)
 refine zA (zF rfl rfl ?_)
 refine zA (zF rfl rfl ?_)
 refine zA (wE (s := ((354 : Nat) : Int)) rfl rfl rfl (by omega) (by omega) (by omega) ?_)
 refine zA (sY (i := 354) Tryz.underlying360 si359 rfl rfl rfl (by omega) ?_)
 refine zA (zJ fo359_0 rfl rfl ?_)
 refine zA (uX 0 6 sc235 rfl rfl rfl rfl ?_)
 refine zA (zH rfl rfl ?_)
 refine zA (zJ fo342_0 rfl rfl ?_)
 refine zA (zS 0 (M' := [HA.blk _ [_, _, _] _]) rfl rfl rfl rfl si235 rfl rfl rfl ?_)
 refine zC (zD ?_)
 refine zB (zA ?_)
 refine zF rfl rfl (zA ?_)
 refine zF rfl rfl (zA ?_)
 refine wE (s := ((354 : Nat) : Int)) rfl rfl rfl (by omega) (by omega) (by omega) (zA ?_)
 refine sY (i := 354) Tryz.underlying360 si359 rfl rfl rfl (by omega) (zA ?_)
 refine zJ fo359_1 rfl rfl (zA ?_)
 refine uX 0 7 sc235 rfl rfl rfl rfl (zA ?_)
 refine zH rfl rfl (zA ?_)
 refine zJ fo342_1 rfl rfl (zA ?_)
 refine zS 0 (M' := [HA.blk _ [_, _, _] _]) rfl rfl rfl rfl si235 rfl rfl rfl (zC ?_)
 refine zG [0, 1, 3] ?_
 change Run _ _ _ _ _ [(0, _), (1, _), (3, _)] _ _
 refine zB (zA ?_)
 refine zF rfl rfl (zA ?_)
 refine zF rfl rfl (zA ?_)
 refine zF rfl rfl (zA ?_)
 refine yR (s := e + lp) rfl rfl rfl rfl (by omega) (by omega) (zA ?_)
 refine yR (s := e + lp + 3) rfl rfl rfl rfl (by omega) (by omega) (zA ?_)
 refine sE (s := (s : Int)) rfl rfl hs.symm (by omega) (by omega) (zA ?_)
 refine zH rfl rfl (zA ?_)
 refine zJ fo342_2 rfl rfl (zA ?_)
 refine zS 0 (M' := [HA.blk _ [_, _, _] _]) rfl rfl rfl rfl si3 rfl rfl rfl (zC ?_)
 refine zG [] ?_
 change Run _ _ _ _ _ [] _ _
 exact run_end0 Tryz.results296 ⟨rfl, rfl, rfl⟩ (List.Sublist.refl _) (fun _ h => by cases h)
theorem c296_7 (fb : Addr) (pb s : Nat) (e lp : Int) (cs : List Value) (hs : (s : Int) = -(e + lp + 3)) (he : -1000 ≤ e) (he2 : e ≤ 1000) (hl : -1000 ≤ lp) (hl2 : lp ≤ 1000) (v0 v1 v2 : Value) : Ct Tryz.prog 296 #[.pointer (some ⟨pb, 0, none⟩), .int .i64 e, .int .i64 7, .int .i64 lp] [.blk pb [v0, v1, v2] 342] [ftD fb] (fun u M' D' => u = .tuple #[] ∧ M' = [scB pb 10995116277760000000 s] ∧ D' = []) := by
 refine Ct.of_run (args := [.pointer (some ⟨pb, 0, none⟩), .int .i64 e, .int .i64 7, .int .i64 lp]) Tryz.func296 (by kernel_rfl) rfl Tryz.ntmps296 rfl (fun c => ?_)
 refine zD (zB ?_)
 refine zA (zF rfl rfl ?_)
 refine zA (zF rfl rfl ?_)
 refine zA (wE (s := ((355 : Nat) : Int)) rfl rfl rfl (by omega) (by omega) (by omega) ?_)
 refine zA (sY (i := 355) Tryz.underlying360 si359 rfl rfl rfl (by omega) ?_)
 refine zA (zJ fo359_0 rfl rfl ?_)
 refine zA (uX 0 8 sc235 rfl rfl rfl rfl ?_)
 refine zA (zH rfl rfl ?_)
 refine zA (zJ fo342_0 rfl rfl ?_)
 refine zA (zS 0 (M' := [HA.blk _ [_, _, _] _]) rfl rfl rfl rfl si235 rfl rfl rfl ?_)
 refine zC (zD ?_)
 refine zB (zA ?_)
 refine zF rfl rfl (zA ?_)
 refine zF rfl rfl (zA ?_)
 refine wE (s := ((355 : Nat) : Int)) rfl rfl rfl (by omega) (by omega) (by omega) (zA ?_)
 refine sY (i := 355) Tryz.underlying360 si359 rfl rfl rfl (by omega) (zA ?_)
 refine zJ fo359_1 rfl rfl (zA ?_)
 refine uX 0 9 sc235 rfl rfl rfl rfl (zA ?_)
 refine zH rfl rfl (zA ?_)
 refine zJ fo342_1 rfl rfl (zA ?_)
 refine zS 0 (M' := [HA.blk _ [_, _, _] _]) rfl rfl rfl rfl si235 rfl rfl rfl (zC ?_)
 refine zG [0, 1, 3] ?_
 change Run _ _ _ _ _ [(0, _), (1, _), (3, _)] _ _
 refine zB (zA ?_)
 refine zF rfl rfl (zA ?_)
 refine zF rfl rfl (zA ?_)
 refine zF rfl rfl (zA ?_)
 refine yR (s := e + lp) rfl rfl rfl rfl (by omega) (by omega) (zA ?_)
 refine yR (s := e + lp + 3) rfl rfl rfl rfl (by omega) (by omega) (zA ?_)
 refine sE (s := (s : Int)) rfl rfl hs.symm (by omega) (by omega) (zA ?_)
 refine zH rfl rfl (zA ?_)
 refine zJ fo342_2 rfl rfl (zA ?_)
 refine zS 0 (M' := [HA.blk _ [_, _, _] _]) rfl rfl rfl rfl si3 rfl rfl rfl (zC ?_)
 refine zG [] ?_
 change Run _ _ _ _ _ [] _ _
 exact run_end0 Tryz.results296 ⟨rfl, rfl, rfl⟩ (List.Sublist.refl _) (fun _ h => by cases h)
set_option maxHeartbeats 1000000 in
theorem c297 (pb x hi s q : Nat) (hx : x < 18446744073709551616) (hh : hi < 18446744073709551616) (hs : s < 64) (hq : q * 2 ^ s < 18446744073709551616) (h : x * hi = q * 2 ^ s * 18446744073709551616) : Ct Tryz.prog 297 #[.int .u64 (x : Int), .pointer (some ⟨pb, 0, none⟩)] [scB pb hi s] [] (fun u M' D' => u = .int .u64 (q : Int) ∧ M' = [] ∧ D' = []) := by
 refine Ct.of_run (args := [.int .u64 (x : Int), .pointer (some ⟨pb, 0, none⟩)]) Tryz.func297 (by kernel_rfl) rfl Tryz.ntmps297 rfl (fun c => ?_)
 have hp : 0 < 2 ^ s := Nat.two_pow_pos s
 have hql : q ≤ q * 2 ^ s := Nat.le_mul_of_pos_right _ hp
 have e1 : x * hi / 18446744073709551616 = q * 2 ^ s := by rw [h]; omega
 have e2 : x * hi % 18446744073709551616 = 0 := by rw [h]; omega
 have e3 : q * 2 ^ s / 2 ^ s = q := Nat.mul_div_cancel _ hp
 refine zD (zB ?_)
 refine zA (zE rfl rfl ?_)
 refine zC (zD ?_)
 refine zB (zA ?_)
 refine zF rfl rfl (zA ?_)
 refine zF rfl rfl (zA ?_)
 refine zH rfl rfl (zA ?_)
 refine zJ fo342_0 rfl rfl (zA ?_)
 refine zX 0 sc235 rfl rfl rfl rfl (zA ?_)
 refine zY rfl rfl rfl (c318 x hi hx hh) sub0 ?_
 rw [e1, e2]
 refine zA (zF rfl rfl ?_)
 refine zA (yD rfl rfl rfl ?_)
 refine zA (yD rfl rfl rfl ?_)
 refine zA (zE rfl rfl ?_)
 refine zA (zE rfl rfl ?_)
 refine zC (zG [6, 5, 0, 1] ?_)
 change Run _ _ _ _ _ [(6, _), (5, _), (0, _), (1, _)] _ _
 refine zD (zB ?_)
 refine zA (zF rfl rfl ?_)
 refine zA (zH rfl rfl ?_)
 refine zA (zJ fo342_2 rfl rfl ?_)
 refine zA (zX 0 sc3 rfl rfl rfl rfl ?_)
 refine zA (op_bin (bin_andI (m := s) (m' := 63) (r := s) (by omega) (by omega) (and63 hs)) rfl rfl rfl ?_)
 refine zA (zE rfl rfl ?_)
 refine zC (zD ?_)
 refine zD (zB ?_)
 refine zA (zF rfl rfl ?_)
 refine zA (zF rfl rfl ?_)
 refine zA (op_bin (bin_shrU (m := q * 2 ^ s) (s := s) (r := q) (by omega) e3) rfl rfl rfl ?_)
 refine zA (zF rfl rfl ?_)
 refine zA (op_shlU (m := q) (s := s) (r := q * 2 ^ s) rfl rfl rfl (by omega) rfl hq ?_)
 refine zA (zF rfl rfl ?_)
 refine zA (tG rfl rfl rfl ?_)
 refine zC (zG [30, 7, 6, 5, 0, 1] ?_)
 change Run _ _ _ _ _ [(30, _), (7, _), (6, _), (5, _), (0, _), (1, _)] _ _
 refine yE rfl (decide_eq_false (fun h => h rfl)) (zL ?_)
 refine zD (zB ?_)
 refine zA (zF rfl rfl ?_)
 refine zA (zF rfl rfl ?_)
 refine zA (zH rfl rfl ?_)
 refine zA (zJ fo342_1 rfl rfl ?_)
 refine zA (zX 0 sc235 rfl rfl rfl rfl ?_)
 refine zA (zY rfl rfl rfl (c318 x 0 hx (by omega)) sub0 ?_)
 rw [Nat.mul_zero]
 refine zA (zF rfl rfl ?_)
 refine zA (yD rfl rfl rfl ?_)
 refine zA (yD rfl rfl rfl ?_)
 refine zA (zE rfl rfl ?_)
 refine zA (zE rfl rfl ?_)
 refine zC (zG [8, 7, 6, 5] ?_)
 change Run _ _ _ _ _ [(8, _), (7, _), (6, _), (5, _)] _ _
 refine zD (zB ?_)
 refine zA (zF rfl rfl ?_)
 refine zA (zF rfl rfl ?_)
 refine zA (zF rfl rfl ?_)
 refine zA (vY rfl rfl rfl ?_)
 refine zA (zY rfl rfl rfl (c274 false) sub0 ?_)
 refine zA (op_bin (bin_subU (m := q * 2 ^ s) (m' := 0) (r := q * 2 ^ s) (by omega) rfl hq) rfl rfl rfl ?_)
 refine zA (zE rfl rfl ?_)
 refine zC (zD ?_)
 refine wH xQ (yO ?_)
 refine tP 0 rfl wanted0 (yS rfl) (tP 1 rfl wanted0 (yS rfl) ?_)
 refine tP 3 rfl wanted0 (yS rfl) (tP 4 rfl wanted0 (yS rfl) ?_)
 refine xE (tM 2 rfl wanted0 (sA (bin_shrU (m := q * 2 ^ s) (s := s) (r := q) (by omega) e3) rfl rfl) ?_)
 refine tM 5 rfl wanted0 (sA (bin_subU (m := 0) (m' := 0) (r := 0) (by omega) (Eq.refl _) (by omega)) rfl rfl) (tM 6 rfl wanted0 (sA (v := .bool false) (fun w => rfl) rfl rfl) ?_)
 refine yF 7 (by decide +kernel) ?_
 refine yH (I2 := [[2], [1, 0], []]) rfl wanted0 (by decide +kernel) (fun Kd hKd => ?_)
 refine zY rfl rfl rfl (c274 false) sub0 (hKd _ _ _ (hC (hC (zP (yI)))) ?_)
 refine xE (tM 8 rfl wanted0 (sA (bin_orU (m := q) (m' := 0) (r := q) (by omega) (by omega) (Nat.or_zero q)) rfl rfl) ?_)
 refine yO (tP 9 rfl wanted0 (wK rfl) ?_)
 refine xP (by decide +kernel) (zG [4] ?_)
 change Run _ _ _ _ _ [(4, _)] _ _
 exact zK Tryz.results297 rfl ⟨rfl, rfl, rfl⟩ nS (fun _ h => by cases h)
end Go.Jw

namespace Go.Jw
open Go Go.RowKit Go.Proofs
set_option maxRecDepth 8000
open Go.Lib Go.Sort
abbrev u8V (l : List UInt8) : List Value := l.map fun b => .int .u8 (b.toNat : Int)
abbrev z8 (n : Nat) : List Value := List.replicate n (.int .u8 0)
theorem fun221 : Fun Tryz.prog 221 := ⟨_, Tryz.func221, by kernel_rfl, rfl⟩
theorem c221 (b T nd D : Nat) (hnd : nd = nDigits D) (hD : D < 18446744073709551616) (h24 : nd ≤ 24) :
    Ct Tryz.prog 221 #[.slice (some ⟨b, 0, none⟩) nd 24, .int .u64 (D : Int)] [.blk b (z8 24) T] [] (fun u M' D' => u = .tuple #[] ∧ M' = [.blk b (u8V (decDigits D) ++ z8 (24 - nd)) T] ∧ D' = []) := by
  refine ⟨fun221, fun w ok hok hM hn hDD => ?_⟩
  have hb : w.heap[b]? = some (.cells (z8 24).toArray T (0, 0)) := hM _ List.mem_cons_self
  have hsz : (Array.replicate nd (0 : UInt8)).size = nd := by simp
  have hH : Holds (fun (x : UInt8) => Value.int .u8 (x.toNat : Int)) w b 0 (Array.replicate nd (0 : UInt8)) := fun j hj => by
    have hj' : j < nd := by simpa using hj
    constructor
    · unfold World.cell?
      simp only [hb, Nat.zero_add]
      rw [getElem!_pos _ j hj]
      simp [show j < 24 by omega]
    · unfold World.frozen?
      simp [hb]
  have hc := Tryz.internal_strconv_formatBase10 b 0 24 D (Array.replicate nd 0) w hH (by rw [hsz, hnd]; exact lt_pow_nDigits D) hD (by rw [hsz]; omega)
  rw [hsz] at hc
  refine hc.mono ?_
  rintro e w' ⟨rfl, n, v', dk, rfl, hf⟩
  have hheap : ((putRow (fun (x : UInt8) => Value.int .u8 (x.toNat : Int)) w b 0 dk).drewN n).heap = w.heap.modify b (onCells (putCells (fun (x : UInt8) => Value.int .u8 (x.toNat : Int)) 0 dk)) := rfl
  have hcells : putCells (fun (x : UInt8) => Value.int .u8 (x.toNat : Int)) 0 dk (z8 24).toArray = (u8V (decDigits D) ++ z8 (24 - nd)).toArray := by
    have hdl : (decDigits D).length = nd := by rw [decDigits_length, hnd]
    apply Array.ext_getElem?
    intro k
    unfold putCells
    rw [Array.getElem?_mapIdx, List.getElem?_toArray, List.getElem?_toArray]
    by_cases hk : k < nd
    · rw [List.getElem?_append_left (by simpa [hdl] using hk), List.getElem?_map, List.getElem?_eq_getElem (by omega : k < (decDigits D).length), row_is_numeral (by rw [← hnd]; exact hf) k (by omega)]
      simp [z8, List.getElem?_replicate, show k < 24 by omega, hf.size, hk]
    · rw [List.getElem?_append_right (by simp [hdl]; omega)]
      simp only [List.length_map, hdl, z8, List.getElem?_replicate]
      by_cases hk2 : k < 24
      · simp [hk2, hf.size, hk, show k - nd < 24 - nd by omega]
      · simp [hk2, show ¬ k - nd < 24 - nd by omega]
  refine ⟨_, [.blk b (u8V (decDigits D) ++ z8 (24 - nd)) T], [], rfl, ⟨rfl, rfl, rfl⟩, ⟨rfl, rfl, rfl, ?_, fun k hk hF => ?_⟩, ?_, by simp [foots, HA.foot], by simp [foots, HA.foot], by simp⟩
  · rw [hheap]; simp
  · rw [hheap, Array.getElem?_modify, if_neg (fun h => hF (by simp [foots, HA.foot, h]))]
  · intro h hh
    rcases List.mem_singleton.1 hh with rfl
    show _ = _
    rw [hheap, Array.getElem?_modify, if_pos rfl, hb]
    simp only [Option.map_some, onCells, hcells]
theorem blk_add {F : List Nat} {c : Ctx F} {M : List HA} {D : List DA} {w : World} (h : FitsW c M D w) {j b i T : Nat} {cs : List Value} {v : Value} (hj : M[j]? = some (.blk b cs T)) (hv : cs[i]? = some v) : w.cell? ((⟨b, 0, none⟩ : Addr).add (i * 1)) = some v := by
 have hb : w.heap[b]? = some (.cells cs.toArray T (0, 0)) := h.own _ (List.mem_of_getElem? hj)
 rw [Nat.mul_one, add_plain, Nat.zero_add]
 rw [uZ hb]
 exact hv
def dgOf (L : Nat) : Nat := if 2 ≤ L then 7 + ((L - 1) * 78913) / 262144 else 7
def pOf (L : Nat) : Nat := if 2 ≤ L then dgOf L - 1 - ((L - 2) * 78913) / 262144 else 7
theorem dg_tab : ∀ L : Fin 30, 7 ≤ dgOf L.val ∧ dgOf L.val ≤ 15 ∧ (pOf L.val = 6 ∨ pOf L.val = 7) ∧ ((pOf L.val : Nat) : Int) = (dgOf L.val : Int) - 1 - (((L.val : Int) - 2) * 78913).fdiv (2 ^ 18) ∧ 2 ^ (L.val + 1) * 1000000 ≤ 4 * 10 ^ dgOf L.val ∧
  (2 ≤ L.val → (dgOf L.val : Int) = 1 + (((L.val : Int) - 1) * 78913).fdiv (2 ^ 18) + 6) ∧ (¬ 2 ≤ L.val → (7 : Int) = 1 + 6 - ((2 - (L.val : Int)) * 78913).fdiv (2 ^ 18)) := by decide +kernel
theorem pow_split {a b c d : Nat} (h : a + b = c + d) : 2 ^ a * 2 ^ b = 2 ^ c * 2 ^ d := by rw [← Nat.pow_add, ← Nat.pow_add, h]
structure FmtN (N L : Nat) : Prop where
 n0 : 0 < N
 n9 : N < 1000000000
 lo : 2 ^ L ≤ N
 hi : N < 2 ^ (L + 1)
 l29 : L < 30
theorem fmtN {N : Nat} (h0 : 0 < N) (h9 : N < 1000000000) : FmtN N N.log2 := by
 have h1 := Nat.log2_self_le (Nat.ne_of_gt h0)
 refine ⟨h0, h9, h1, Nat.lt_log2_self, ?_⟩
 exact (Nat.log2_lt (Nat.ne_of_gt h0)).2 (by omega)
theorem FmtN.tab {N L : Nat} (h : FmtN N L) : 7 ≤ dgOf L ∧ dgOf L ≤ 15 ∧ (pOf L = 6 ∨ pOf L = 7) ∧ ((pOf L : Nat) : Int) = (dgOf L : Int) - 1 - (((L : Int) - 2) * 78913).fdiv (2 ^ 18) ∧ 2 ^ (L + 1) * 1000000 ≤ 4 * 10 ^ dgOf L ∧
  (2 ≤ L → (dgOf L : Int) = 1 + (((L : Int) - 1) * 78913).fdiv (2 ^ 18) + 6) ∧ (¬ 2 ≤ L → (7 : Int) = 1 + 6 - ((2 - (L : Int)) * 78913).fdiv (2 ^ 18)) := dg_tab ⟨L, h.l29⟩
theorem FmtN.mul {N L : Nat} (h : FmtN N L) (P k s : Nat) (hs : s + L + 1 = k) (hk : k ≤ 44) : N * 2 ^ (63 - L) * (P * 2 ^ k) = N * P * 2 ^ s * 18446744073709551616 := by
  have := h.l29
  have e := pow_split (a := 63 - L) (b := k) (c := s) (d := 64) (by omega)
  calc N * 2 ^ (63 - L) * (P * 2 ^ k) = N * P * (2 ^ (63 - L) * 2 ^ k) := by ac_rfl
    _ = N * P * (2 ^ s * 2 ^ 64) := by rw [e]
    _ = N * P * 2 ^ s * 18446744073709551616 := by rw [← Nat.mul_assoc]
theorem FmtN.up {N L : Nat} (h : FmtN N L) : N * 2 ^ (63 - L) < 18446744073709551616 := by
 have := h.l29
 have e := pow_split (a := L + 1) (b := 63 - L) (c := 64) (d := 0) (by omega)
 have := Nat.mul_lt_mul_of_pos_right h.hi (Nat.two_pow_pos (63 - L))
 omega
theorem FmtN.fits {N L : Nat} (h : FmtN N L) (s k : Nat) (hs : s + L + 1 = k) : N * 2 ^ s < 2 ^ k := by
 have e := pow_split (a := L + 1) (b := s) (c := k) (d := 0) (by omega)
 have := Nat.mul_lt_mul_of_pos_right h.hi (Nat.two_pow_pos s)
 omega
theorem FmtN.small {N L : Nat} (h : FmtN N L) : N * 1000000 + 2 < 4 * 10 ^ dgOf L := by
 have h1 := h.tab.2.2.2.2.1
 have h2 := h.hi
 have h3 : (N + 1) * 1000000 ≤ 2 ^ (L + 1) * 1000000 := Nat.mul_le_mul_right _ h2
 have h4 : 2 ^ (L + 1) * 1000000 ≤ 4 * 10 ^ dgOf L := h1
 omega
theorem pow15 {d : Nat} (h : d ≤ 15) : 10 ^ d ≤ 1000000000000000 := Nat.le_trans (Nat.pow_le_pow_right (by omega) h) (by decide)
def uOf (N a : Nat) : Nat := if a = 0 then 4 * (N * 250000) else 10 * (4 * (N * 250000))

set_option maxHeartbeats 1000000 in
theorem c286_6 (fb : Addr) (N L : Nat) (hF : FmtN N L) (hp : pOf L = 6) : CtV Tryz.prog 286 #[.int .u64 ((N * 2 ^ (63 - L) : Nat) : Int), .int .i64 ((L : Int) - 65), .int .i64 ((dgOf L : Nat) : Int), .int .i64 6, .int .u8 102] [ftD fb] (.tuple #[.int .u64 ((N * 250000 : Nat) : Int), .int .i64 (-6)]) := by
 refine Ct.of_run (args := [.int .u64 ((N * 2 ^ (63 - L) : Nat) : Int), .int .i64 ((L : Int) - 65), .int .i64 ((dgOf L : Nat) : Int), .int .i64 6, .int .u8 102]) Tryz.func286 (by kernel_rfl) rfl Tryz.ntmps286 rfl (fun c => ?_)
 obtain ⟨d7, d15, _, hpv, hbd, _, _⟩ := hF.tab
 rw [hp] at hpv
 have hl := hF.l29
 have hn9 := hF.n9
 have hsm := hF.small
 have hp15 := pow15 d15
 have hlp : ((6 : Int) * 108853).fdiv (2 ^ 15) = 19 := by decide
 have hfit := hF.fits (43 - L) 44 (by omega)
 have hq1 : (4 * (N * 250000)) * 2 ^ (43 - L) < 18446744073709551616 := by
  have e : (4 * (N * 250000)) * 2 ^ (43 - L) = 1000000 * (N * 2 ^ (43 - L)) := by rw [show (4 * (N * 250000)) = 1000000 * N by omega, Nat.mul_assoc]
  omega
 have hq2 : N * 2 ^ (63 - L) * 17592186044416000000 = (4 * (N * 250000)) * 2 ^ (43 - L) * 18446744073709551616 := by
  have e := hF.mul 1000000 44 (43 - L) (by omega) (by omega)
  rw [show (4 * (N * 250000)) = N * 1000000 by omega]
  exact e
 refine zD (zB ?_)
 refine zA (zE rfl rfl ?_)
 refine zA (zE rfl rfl ?_)
 refine zC (zD ?_)
 refine zB (zA ?_)
 refine zF rfl rfl (zA ?_)
 refine wE (s := ((dgOf L : Nat) : Int) - 1) rfl rfl rfl rfl (by omega) (by omega) (zA ?_)
 refine zF rfl rfl (zA ?_)
 refine yR (s := (L : Int) - 2) rfl rfl rfl (by omega) (by omega) (by omega) (zA ?_)
 refine zY rfl rfl rfl (c242 ((L : Int) - 2) (by omega) (by omega)) sub0 (zA ?_)
 refine wE (s := 6) rfl rfl rfl (by omega) (by omega) (by omega) (zA ?_)
 refine zE rfl rfl (zC ?_)
 refine zD (zB ?_)
 refine zA (yN ze342 rfl (fun b12 => ?_))
 change RunOps _ _ _ _ _ _ _ _ (HA.blk _ [_, _, _] _ :: _) _
 refine zC (zD ?_)
 refine zB (zA ?_)
 refine zF rfl rfl (zA ?_)
 refine zF rfl rfl (zA ?_)
 refine zF rfl rfl (zA ?_)
 refine zY rfl rfl rfl (c295 6 (by omega) (by omega)) sub0 (zA ?_)
 refine yU 0 rfl rfl rfl (c296_6 fb b12 (43 - L) ((L : Int) - 65) (((6 : Int) * 108853).fdiv (2 ^ 15)) [] (by rw [hlp]; omega) (by omega) (by omega) (by rw [hlp]; omega) (by rw [hlp]; omega) _ _ _) rfl (sub1 0 rfl) (fun u24 M24 D24 hv24 => ?_)
 obtain ⟨rfl, rfl, rfl⟩ := hv24
 refine zC (zG [12, 11, 0, 2, 3, 4] ?_)
 change Run _ _ _ _ _ [(12, _), (11, _), (0, _), (2, _), (3, _), (4, _)] _ _
 refine zD (zB ?_)
 refine zA (zF rfl rfl ?_)
 refine zA ?_
 refine yU 0 rfl rfl rfl (c297 b12 (N * 2 ^ (63 - L)) 17592186044416000000 (43 - L) (4 * (N * 250000)) hF.up (by omega) (by omega) hq1 hq2) rfl sub0 (fun u26 M26 D26 hv26 => ?_)
 obtain ⟨rfl, rfl, rfl⟩ := hv26
 refine zA (zE rfl rfl ?_)
 refine zC (zD ?_)
 refine zD (zB ?_)
 refine zA (zF rfl rfl ?_)
 refine zA (zF rfl rfl ?_)
 refine zA (sY (i := dgOf L) Tryz.underlying270 si235 rfl rfl rfl (by omega) ?_)
 refine zA (xD sc235 rfl rfl (fun _ h => ft_p10 h (j := 0) rfl (by omega)) ?_)
 refine zA (zY rfl rfl rfl (c298 (10 ^ dgOf L) (Nat.pow_pos (by omega)) (by omega)) sub0 ?_)
 refine zA (qW rfl rfl rfl ?_)
 refine zC (zG [32, 13, 11, 3, 4] ?_)
 change Run _ _ _ _ _ [(32, _), (13, _), (11, _), (3, _), (4, _)] _ _
 refine yE rfl (decide_eq_false (by omega)) (zL ?_)
 refine zD (zD ?_)
 refine zB (zA ?_)
 refine zF rfl rfl (zA ?_)
 refine yA rfl rfl rfl (zC ?_)
 refine yG rfl (rfl) (zO ?_)
 refine zG [13, 11, 3] ?_
 change Run _ _ _ _ _ [(13, _), (11, _), (3, _)] _ _
 refine wN 2 (fun (a : Nat) => a ≤ 1) (fun (a : Nat) => [(13, .int .u64 ((uOf N a : Nat) : Int)), (11, .int .i64 ((6 + a : Nat) : Int))]) (fun (a : Nat) => a) 0 ((by show 0 ≤ 1; omega)) (eC rfl (eC rfl (eN _))) ?_ (eC rfl (eN _))
 intro a hI K hK
 change Run _ _ _ _ _ [(13, _), (11, _), (3, _)] _ _
 replace hI : a ≤ 1 := hI
 refine zD (zD ?_)
 refine zB (zA ?_)
 refine zF rfl rfl (zA ?_)
 refine zF rfl rfl (zA ?_)
 refine vI rfl rfl rfl (zC ?_)
 refine zT rfl (fun h41 => ?_) (fun h41 => ?_)
 ·obtain rfl : a = 1 := by omega
  refine zL (zO ?_)
  refine zD (zB ?_)
  refine zA (zF rfl rfl ?_)
  refine zA (zY rfl rfl rfl (c309 (4 * (N * 250000)) (by omega)) sub0 ?_)
  refine zA (zE rfl rfl ?_)
  refine zC (zB ?_)
  refine zA (zF rfl rfl ?_)
  refine zA (wE (s := 6) rfl rfl rfl rfl (by omega) (by omega) ?_)
  refine zA (zE rfl rfl ?_)
  refine zC (zQ ?_)
  exact kQ (hK 0 ((by show 0 ≤ 1; omega)) (by show 0 < 1; omega)) (eC rfl (eC rfl (eC rfl (eN _))))
 obtain rfl : a = 0 := by omega
 refine yL rfl (zD ?_)
 refine zB (zA ?_)
 refine zF rfl rfl (zA ?_)
 refine zY rfl rfl rfl (c300 (N * 250000) (by omega)) sub0 (zA ?_)
 refine zF rfl rfl (zA ?_)
 refine sE (s := -6) rfl rfl rfl (by omega) (by omega) (zA ?_)
 refine zE rfl rfl (zA ?_)
 refine zE rfl rfl (zC ?_)
 refine zG [11, 10] ?_
 change Run _ _ _ _ _ [(11, _), (10, _)] _ _
 exact sF Tryz.results286 rfl rfl ⟨rfl, rfl, rfl⟩ nS (fun _ h => by cases h)
set_option maxHeartbeats 1000000 in
theorem c286_7 (fb : Addr) (N L : Nat) (hF : FmtN N L) (hp : pOf L = 7) : CtV Tryz.prog 286 #[.int .u64 ((N * 2 ^ (63 - L) : Nat) : Int), .int .i64 ((L : Int) - 65), .int .i64 ((dgOf L : Nat) : Int), .int .i64 6, .int .u8 102] [ftD fb] (.tuple #[.int .u64 ((N * 250000 : Nat) : Int), .int .i64 (-6)]) := by
 refine Ct.of_run (args := [.int .u64 ((N * 2 ^ (63 - L) : Nat) : Int), .int .i64 ((L : Int) - 65), .int .i64 ((dgOf L : Nat) : Int), .int .i64 6, .int .u8 102]) Tryz.func286 (by kernel_rfl) rfl Tryz.ntmps286 rfl (fun c => ?_)
 obtain ⟨d7, d15, _, hpv, hbd, _, _⟩ := hF.tab
 rw [hp] at hpv
 have hl := hF.l29
 have hn9 := hF.n9
 have hsm := hF.small
 have hp15 := pow15 d15
 have hlp : ((7 : Int) * 108853).fdiv (2 ^ 15) = 23 := by decide
 have hfit := hF.fits (39 - L) 40 (by omega)
 have hq1 : (10 * (4 * (N * 250000))) * 2 ^ (39 - L) < 18446744073709551616 := by
  have e : (10 * (4 * (N * 250000))) * 2 ^ (39 - L) = 10000000 * (N * 2 ^ (39 - L)) := by rw [show (10 * (4 * (N * 250000))) = 10000000 * N by omega, Nat.mul_assoc]
  omega
 have hq2 : N * 2 ^ (63 - L) * 10995116277760000000 = (10 * (4 * (N * 250000))) * 2 ^ (39 - L) * 18446744073709551616 := by
  have e := hF.mul 10000000 40 (39 - L) (by omega) (by omega)
  rw [show (10 * (4 * (N * 250000))) = N * 10000000 by omega]
  exact e
 refine zD (zB ?_)
 refine zA (zE rfl rfl ?_)
 refine zA (zE rfl rfl ?_)
 refine zC (zD ?_)
 refine zB (zA ?_)
 refine zF rfl rfl (zA ?_)
 refine wE (s := ((dgOf L : Nat) : Int) - 1) rfl rfl rfl rfl (by omega) (by omega) (zA ?_)
 refine zF rfl rfl (zA ?_)
 refine yR (s := (L : Int) - 2) rfl rfl rfl (by omega) (by omega) (by omega) (zA ?_)
 refine zY rfl rfl rfl (c242 ((L : Int) - 2) (by omega) (by omega)) sub0 (zA ?_)
 refine wE (s := 7) rfl rfl rfl (by omega) (by omega) (by omega) (zA ?_)
 refine zE rfl rfl (zC ?_)
 refine zD (zB ?_)
 refine zA (yN ze342 rfl (fun b12 => ?_))
 change RunOps _ _ _ _ _ _ _ _ (HA.blk _ [_, _, _] _ :: _) _
 refine zC (zD ?_)
 refine zB (zA ?_)
 refine zF rfl rfl (zA ?_)
 refine zF rfl rfl (zA ?_)
 refine zF rfl rfl (zA ?_)
 refine zY rfl rfl rfl (c295 7 (by omega) (by omega)) sub0 (zA ?_)
 refine yU 0 rfl rfl rfl (c296_7 fb b12 (39 - L) ((L : Int) - 65) (((7 : Int) * 108853).fdiv (2 ^ 15)) [] (by rw [hlp]; omega) (by omega) (by omega) (by rw [hlp]; omega) (by rw [hlp]; omega) _ _ _) rfl (sub1 0 rfl) (fun u24 M24 D24 hv24 => ?_)
 obtain ⟨rfl, rfl, rfl⟩ := hv24
 refine zC (zG [12, 11, 0, 2, 3, 4] ?_)
 change Run _ _ _ _ _ [(12, _), (11, _), (0, _), (2, _), (3, _), (4, _)] _ _
 refine zD (zB ?_)
 refine zA (zF rfl rfl ?_)
 refine zA ?_
 refine yU 0 rfl rfl rfl (c297 b12 (N * 2 ^ (63 - L)) 10995116277760000000 (39 - L) (10 * (4 * (N * 250000))) hF.up (by omega) (by omega) hq1 hq2) rfl sub0 (fun u26 M26 D26 hv26 => ?_)
 obtain ⟨rfl, rfl, rfl⟩ := hv26
 refine zA (zE rfl rfl ?_)
 refine zC (zD ?_)
 refine zD (zB ?_)
 refine zA (zF rfl rfl ?_)
 refine zA (zF rfl rfl ?_)
 refine zA (sY (i := dgOf L) Tryz.underlying270 si235 rfl rfl rfl (by omega) ?_)
 refine zA (xD sc235 rfl rfl (fun _ h => ft_p10 h (j := 0) rfl (by omega)) ?_)
 refine zA (zY rfl rfl rfl (c298 (10 ^ dgOf L) (Nat.pow_pos (by omega)) (by omega)) sub0 ?_)
 refine zA (qW rfl rfl rfl ?_)
 refine zC (zG [32, 13, 11, 3, 4] ?_)
 change Run _ _ _ _ _ [(32, _), (13, _), (11, _), (3, _), (4, _)] _ _
 refine zT rfl (fun h32 => ?_) (fun h32 => ?_)
 ·refine zD (zB ?_)
  refine zA (zF rfl rfl ?_)
  refine zA (zY rfl rfl rfl (c309 (4 * (N * 250000)) (by omega)) sub0 ?_)
  refine zA (zE rfl rfl ?_)
  refine zC (zB ?_)
  refine zA (zF rfl rfl ?_)
  refine zA (wE (s := 6) rfl rfl rfl rfl (by omega) (by omega) ?_)
  refine zA (zE rfl rfl ?_)
  refine zC (zD ?_)
  refine zD (zB ?_)
  refine zA (zF rfl rfl ?_)
  refine zA (yA rfl rfl rfl ?_)
  refine zC (yG rfl (rfl) ?_)
  refine zO (zG [13, 11, 3] ?_)
  change Run _ _ _ _ _ [(13, _), (11, _), (3, _)] _ _
  refine wN 2 (fun (a : Nat) => a ≤ 1) (fun (a : Nat) => [(13, .int .u64 ((uOf N a : Nat) : Int)), (11, .int .i64 ((6 + a : Nat) : Int))]) (fun (a : Nat) => a) 0 ((by show 0 ≤ 1; omega)) (eC rfl (eC rfl (eN _))) ?_ (eC rfl (eN _))
  intro a hI K hK
  change Run _ _ _ _ _ [(13, _), (11, _), (3, _)] _ _
  replace hI : a ≤ 1 := hI
  refine zD (zD ?_)
  refine zB (zA ?_)
  refine zF rfl rfl (zA ?_)
  refine zF rfl rfl (zA ?_)
  refine vI rfl rfl rfl (zC ?_)
  refine zT rfl (fun h41 => ?_) (fun h41 => ?_)
  ·obtain rfl : a = 1 := by omega
   refine zL (zO ?_)
   refine zD (zB ?_)
   refine zA (zF rfl rfl ?_)
   refine zA (zY rfl rfl rfl (c309 (4 * (N * 250000)) (by omega)) sub0 ?_)
   refine zA (zE rfl rfl ?_)
   refine zC (zB ?_)
   refine zA (zF rfl rfl ?_)
   refine zA (wE (s := 6) rfl rfl rfl rfl (by omega) (by omega) ?_)
   refine zA (zE rfl rfl ?_)
   refine zC (zQ ?_)
   exact kQ (hK 0 ((by show 0 ≤ 1; omega)) (by show 0 < 1; omega)) (eC rfl (eC rfl (eC rfl (eN _))))
  obtain rfl : a = 0 := by omega
  refine yL rfl (zD ?_)
  refine zB (zA ?_)
  refine zF rfl rfl (zA ?_)
  refine zY rfl rfl rfl (c300 (N * 250000) (by omega)) sub0 (zA ?_)
  refine zF rfl rfl (zA ?_)
  refine sE (s := -6) rfl rfl rfl (by omega) (by omega) (zA ?_)
  refine zE rfl rfl (zA ?_)
  refine zE rfl rfl (zC ?_)
  refine zG [11, 10] ?_
  change Run _ _ _ _ _ [(11, _), (10, _)] _ _
  exact sF Tryz.results286 rfl rfl ⟨rfl, rfl, rfl⟩ nS (fun _ h => by cases h)
 refine zL (zD ?_)
 refine zD (zB ?_)
 refine zA (zF rfl rfl ?_)
 refine zA (yA rfl rfl rfl ?_)
 refine zC (yG rfl (rfl) ?_)
 refine zO (zG [13, 11, 3] ?_)
 change Run _ _ _ _ _ [(13, _), (11, _), (3, _)] _ _
 refine wN 2 (fun (a : Nat) => a ≤ 1) (fun (a : Nat) => [(13, .int .u64 ((uOf N a : Nat) : Int)), (11, .int .i64 ((6 + a : Nat) : Int))]) (fun (a : Nat) => a) 1 ((by show 1 ≤ 1; omega)) (eC rfl (eC rfl (eN _))) ?_ (eC rfl (eN _))
 intro a hI K hK1
 change Run _ _ _ _ _ [(13, _), (11, _), (3, _)] _ _
 replace hI : a ≤ 1 := hI
 refine zD (zD ?_)
 refine zB (zA ?_)
 refine zF rfl rfl (zA ?_)
 refine zF rfl rfl (zA ?_)
 refine vI rfl rfl rfl (zC ?_)
 refine zT rfl (fun h41 => ?_) (fun h41 => ?_)
 ·obtain rfl : a = 1 := by omega
  refine zL (zO ?_)
  refine zD (zB ?_)
  refine zA (zF rfl rfl ?_)
  refine zA (zY rfl rfl rfl (c309 (4 * (N * 250000)) (by omega)) sub0 ?_)
  refine zA (zE rfl rfl ?_)
  refine zC (zB ?_)
  refine zA (zF rfl rfl ?_)
  refine zA (wE (s := 6) rfl rfl rfl rfl (by omega) (by omega) ?_)
  refine zA (zE rfl rfl ?_)
  refine zC (zQ ?_)
  exact kQ (hK1 0 ((by show 0 ≤ 1; omega)) (by show 0 < 1; omega)) (eC rfl (eC rfl (eC rfl (eN _))))
 obtain rfl : a = 0 := by omega
 refine yL rfl (zD ?_)
 refine zB (zA ?_)
 refine zF rfl rfl (zA ?_)
 refine zY rfl rfl rfl (c300 (N * 250000) (by omega)) sub0 (zA ?_)
 refine zF rfl rfl (zA ?_)
 refine sE (s := -6) rfl rfl rfl (by omega) (by omega) (zA ?_)
 refine zE rfl rfl (zA ?_)
 refine zE rfl rfl (zC ?_)
 refine zG [11, 10] ?_
 change Run _ _ _ _ _ [(11, _), (10, _)] _ _
 exact sF Tryz.results286 rfl rfl ⟨rfl, rfl, rfl⟩ nS (fun _ h => by cases h)
end Go.Jw

namespace Go.Jw
open Go Go.RowKit Go.Proofs
set_option maxRecDepth 8000
open Go.Lib
def sgL (neg : Bool) : List UInt8 := if neg then [45] else []
def ipL (N : Nat) : List UInt8 := if N / 4 = 0 then [] else decDigits (N / 4)
def frL (N : Nat) : List UInt8 := if N % 4 = 1 then [50, 53, 48, 48, 48, 48] else if N % 4 = 2 then [53, 48, 48, 48, 48, 48] else [55, 53, 48, 48, 48, 48]
def kq (N : Nat) : Nat := if N % 4 = 2 then 1 else 2
theorem frL_len (N : Nat) : (frL N).length = 6 := by
 unfold frL; split
 ·rfl
 ·split <;> rfl
theorem kq_le (N : Nat) : 1 ≤ kq N ∧ kq N ≤ 2 := by unfold kq; split <;> omega
theorem dec_step {u d : Nat} (h : 1 ≤ u) (hd : d < 10) : decDigits (10 * u + d) = decDigits u ++ [UInt8.ofNat (48 + d)] := by
 rw [decDigits, dif_neg (by omega), show (10 * u + d) / 10 = u by omega, show (10 * u + d) % 10 = d by omega]
theorem dec_one {u : Nat} (h : u < 10) : decDigits u = [UInt8.ofNat (48 + u)] := by rw [decDigits, dif_pos h]
theorem dec_0 {u : Nat} (h : 1 ≤ u) : decDigits (10 * u) = decDigits u ++ [48] := dec_step (d := 0) h (by omega)
theorem dec_0000 {u : Nat} (h : 1 ≤ u) : decDigits (10 * (10 * (10 * (10 * u)))) = decDigits u ++ [48, 48, 48, 48] := by
 have h1 : 1 ≤ 10 * u := by omega
 have h2 : 1 ≤ 10 * (10 * u) := by omega
 have h3 : 1 ≤ 10 * (10 * (10 * u)) := by omega
 rw [dec_0 h3, dec_0 h2, dec_0 h1, dec_0 h]
 simp
theorem q_mul (a q : Nat) : (4 * a + q) * 250000 = 1000000 * a + q * 250000 := by rw [Nat.add_mul, Nat.mul_right_comm]
theorem q_ten {a q r1 r2 : Nat} (he : r1 * 100000 + r2 * 10000 = q * 250000) : 1000000 * a + q * 250000 = 10 * (10 * (10 * (10 * (10 * (10 * a + r1) + r2)))) := by omega
theorem dec_quart (N : Nat) (h : 0 < N % 4) : decDigits (N * 250000) = ipL N ++ frL N := by
 have hd := Nat.div_add_mod N 4
 have h4 : N % 4 < 4 := Nat.mod_lt _ (by omega)
 unfold ipL frL
 generalize hq : N % 4 = q at *
 generalize ha : N / 4 = a at *
 have hN : N = 4 * a + q := by omega
 subst hN
 have key : ∀ r1 r2 : Nat, r1 < 10 → r2 < 10 → r1 * 100000 + r2 * 10000 = q * 250000 → 1 ≤ r1 → decDigits ((4 * a + q) * 250000) = (if a = 0 then [] else decDigits a) ++ [UInt8.ofNat (48 + r1), UInt8.ofNat (48 + r2), 48, 48, 48, 48] := by
  intro r1 r2 h1 h2 he h3
  have e1 : (4 * a + q) * 250000 = 10 * (10 * (10 * (10 * (10 * (10 * a + r1) + r2)))) := (q_mul a q).trans (q_ten he)
  rw [e1, dec_0000 (show 1 ≤ 10 * (10 * a + r1) + r2 by omega), dec_step (show 1 ≤ 10 * a + r1 by omega) h2]
  split
  ·rename_i h0
   subst h0
   rw [Nat.mul_zero, Nat.zero_add, dec_one h1]
   rfl
  ·rename_i h0
   rw [dec_step (show 1 ≤ a by omega) h1]
   simp
 have h3 : q = 1 ∨ q = 2 ∨ q = 3 := by omega
 rcases h3 with rfl | rfl | rfl
 ·exact key 2 5 (by omega) (by omega) (by omega) (by omega)
 ·exact key 5 0 (by omega) (by omega) (by omega) (by omega)
 ·exact key 7 5 (by omega) (by omega) (by omega) (by omega)
theorem ipL_len {N : Nat} (h9 : N < 1000000000) : (ipL N).length ≤ 9 := by
 unfold ipL
 split
 ·simp
 ·rw [decDigits_length]; exact nDigits_le (by omega) (by omega)
theorem nd_quart {N : Nat} (h : 0 < N % 4) : nDigits (N * 250000) = (ipL N).length + 6 := by rw [← decDigits_length, dec_quart N h, List.length_append, frL_len]
theorem fr_at (N : Nat) (h : 0 < N % 4) (j : Nat) (hj : j < 6) : ∃ c : UInt8, (frL N)[j]? = some c ∧ (c.toNat = 48 ↔ kq N ≤ j) := by
 have h4 : N % 4 < 4 := Nat.mod_lt _ (by omega)
 unfold frL kq
 have hj6 : j = 0 ∨ j = 1 ∨ j = 2 ∨ j = 3 ∨ j = 4 ∨ j = 5 := by omega
 rcases (show N % 4 = 1 ∨ N % 4 = 2 ∨ N % 4 = 3 by omega) with hq | hq | hq <;> rw [hq] <;> rcases hj6 with rfl | rfl | rfl | rfl | rfl | rfl <;> exact ⟨_, rfl, by decide⟩
abbrev bufL (N : Nat) : List Value := u8V (ipL N ++ frL N) ++ z8 (24 - ((ipL N).length + 6))
theorem buf_fr {N : Nat} (h : 0 < N % 4) {j : Nat} (hj : j < 6) : ∃ c : UInt8, (frL N)[j]? = some c ∧ (bufL N)[(ipL N).length + j]? = some (.int .u8 (c.toNat : Int)) ∧ (c.toNat = 48 ↔ kq N ≤ j) := by
 obtain ⟨c, h1, h2⟩ := fr_at N h j hj
 refine ⟨c, h1, ?_, h2⟩
 unfold bufL
 rw [List.getElem?_append_left (by rw [List.length_map, List.length_append, frL_len]; omega), List.getElem?_map, List.getElem?_append_right (by omega), Nat.add_sub_cancel_left, h1]
 rfl
theorem buf_ip {N : Nat} {j : Nat} (hj : j < (ipL N).length) : (bufL N)[j]? = some (.int .u8 ((ipL N)[j].toNat : Int)) := by
 unfold bufL
 rw [List.getElem?_append_left (by rw [List.length_map, List.length_append]; omega), List.getElem?_map, List.getElem?_append_left hj, List.getElem?_eq_getElem hj]
 rfl
theorem buf_m {N m : Nat} (h : 0 < N % 4) (h1 : (ipL N).length + kq N ≤ m) (h2 : m ≤ (ipL N).length + 6) : ∃ c : UInt8, (bufL N)[m - 1]? = some (.int .u8 (c.toNat : Int)) ∧ (c.toNat = 48 ↔ (ipL N).length + kq N < m) := by
 have hk := kq_le N
 obtain ⟨c, _, h3, h4⟩ := buf_fr (N := N) h (j := m - 1 - (ipL N).length) (by omega)
 rw [show (ipL N).length + (m - 1 - (ipL N).length) = m - 1 by omega] at h3
 exact ⟨c, h3, by rw [h4]; omega⟩
theorem u8_snoc (l : List UInt8) (b : UInt8) : u8V l ++ [.int .u8 (b.toNat : Int)] = u8V (l ++ [b]) := by simp
section rules
variable {P : Program} {n : Nat} {F : List Nat} {c : Ctx F} {k : List KI} {Q : Post} {e : Env} {M : List HA} {D : List DA}
theorem tW (i : Nat) {A : Option Addr} {m cap U sz : Nat} {xs ys : List Value} (hi : M[i]? = some (.row A m cap U sz xs)) (h : xs = ys) (next : Run P n c k Q e (M.set i (.row A m cap U sz ys)) D) : Run P n c k Q e M D := by
 subst h
 have : M.set i (.row A m cap U sz xs) = M := by
  apply List.ext_getElem?
  intro j
  rw [List.getElem?_set]
  split
  ·rename_i hj
   subst hj
   split
   ·exact hi.symm
   ·rename_i h2
    rw [List.getElem?_eq_none (by omega)]
  ·rfl
 rwa [this] at next
end rules

theorem c285 (b T N : Nat) (hq : 0 < N % 4) (h9 : N < 1000000000) : Ct Tryz.prog 285 #[.slice (some ⟨b, 0, none⟩) 24 24, .int .u64 ((N * 250000 : Nat) : Int), .int .i64 (-6), .int .i64 (((ipL N).length + 6 : Nat) : Int)] [.blk b (z8 24) T] [] (fun u M' D' => u = .tuple #[.int .i64 (((ipL N).length : Nat) : Int), .int .i64 (((ipL N).length + kq N : Nat) : Int)] ∧ M' = [.blk b (bufL N) T] ∧ D' = []) := by
 refine Ct.of_run (args := [.slice (some ⟨b, 0, none⟩) 24 24, .int .u64 ((N * 250000 : Nat) : Int), .int .i64 (-6), .int .i64 (((ipL N).length + 6 : Nat) : Int)]) Tryz.func285 (by kernel_rfl) rfl Tryz.ntmps285 rfl (fun c => ?_)
 have hil := ipL_len h9
 have hk := kq_le N
 refine zD (zB ?_)
 refine zA (zE rfl rfl ?_)
 refine zA (zE rfl rfl ?_)
 refine zC (zD ?_)
 refine zD (zB ?_)
 refine zA (zF rfl rfl ?_)
 refine zA (zF rfl rfl ?_)
 refine zA (yZ sl142 rfl rfl ?_)
 refine zA (op_leq rfl rfl rfl ?_)
 refine zC (yG rfl (decide_eq_true (by omega)) ?_)
 refine zD (zB ?_)
 refine zA (zF rfl rfl ?_)
 refine zA (zF rfl rfl ?_)
 refine zA (op_sliceHi (h := (ipL N).length + 6) sl142 rfl rfl rfl (by omega) (by omega) ?_)
 refine zA (zF rfl rfl ?_)
 refine zA ?_
 refine yU 0 rfl rfl rfl (c221 b T ((ipL N).length + 6) (N * 250000) (nd_quart hq).symm (by omega) (by omega)) rfl sub0 (fun u18 M18 D18 hv18 => ?_)
 obtain ⟨rfl, rfl, rfl⟩ := hv18
 rw [dec_quart N hq]
 refine zC (zG [0, 2, 3] ?_)
 change Run _ _ _ _ _ [(0, _), (2, _), (3, _)] _ _
 refine zD (zB ?_)
 refine zA (zF rfl rfl ?_)
 refine zA (zF rfl rfl ?_)
 refine zA (yR (s := (((ipL N).length : Nat) : Int)) rfl rfl rfl (by omega) (by omega) (by omega) ?_)
 refine zA (zE rfl rfl ?_)
 refine zC (zO ?_)
 refine zG [3, 8, 0] ?_
 change Run _ _ _ _ _ [(3, _), (8, _), (0, _)] _ _
 refine wN 1 (fun (m : Nat) => (ipL N).length + kq N ≤ m ∧ m ≤ (ipL N).length + 6) (fun (m : Nat) => [(3, .int .i64 ((m : Nat) : Int))]) (fun (m : Nat) => m) ((ipL N).length + 6) (⟨by omega, Nat.le_refl _⟩) (eC rfl (eN _)) ?_ (eC rfl (eC rfl (eN _)))
 intro m hI K hK
 change Run _ _ _ _ _ [(3, _), (8, _), (0, _)] _ _
 obtain ⟨hm1, hm2⟩ := hI
 obtain ⟨cm, hc1, hc2⟩ := buf_m hq hm1 hm2
 refine zD (zD ?_)
 refine zB (zA ?_)
 refine zF rfl rfl (zA ?_)
 refine vI rfl rfl rfl (zA ?_)
 refine zF rfl rfl (pP (s := 24) rfl (decide_eq_true (by omega)) ?_)
 refine zM rfl rfl (zF rfl rfl ?_)
 refine zM rfl rfl (zF rfl rfl ?_)
 refine zM rfl rfl (wE (s := ((m - 1 : Nat) : Int)) rfl rfl rfl (by omega) (by omega) (by omega) ?_)
 refine zM rfl rfl (wU sl142 rfl rfl rfl (by omega) ?_)
 refine zM rfl rfl (xD sc5 rfl rfl (fun _ h => blk_add h (j := 0) rfl hc1) ?_)
 refine zM rfl rfl (yA rfl rfl rfl ?_)
 refine zA (zR rfl rfl rfl ?_)
 refine zC (zG [31, 3, 8, 0] ?_)
 change Run _ _ _ _ _ [(31, _), (3, _), (8, _), (0, _)] _ _
 refine zT rfl (fun h31 => ?_) (fun h31 => ?_)
 ·have hlt := hc2.1 (by omega)
  refine zL (zO ?_)
  refine zB (zA ?_)
  refine zF rfl rfl (zA ?_)
  refine wE (s := ((m - 1 : Nat) : Int)) rfl rfl rfl (by omega) (by omega) (by omega) (zA ?_)
  refine zE rfl rfl (zC ?_)
  refine zQ ?_
  exact kQ (hK (m - 1) (⟨by omega, by omega⟩) (by show m - 1 < m; omega)) (eC rfl (eC rfl (eC rfl (eN _))))
 obtain rfl : m = (ipL N).length + kq N := by
  rcases Nat.lt_or_eq_of_le hm1 with h | h
  ·exact absurd (hc2.2 h) (by omega)
  ·exact h.symm
 refine yL rfl (zD ?_)
 refine zB (zA ?_)
 refine zF rfl rfl (zA ?_)
 refine zF rfl rfl (zA ?_)
 refine zE rfl rfl (zA ?_)
 refine zE rfl rfl (zC ?_)
 exact sF Tryz.results285 rfl rfl ⟨rfl, rfl, rfl⟩ (List.Sublist.refl _) (fun _ h => by cases h)
theorem ipL_pos {N : Nat} (h : 0 < (ipL N).length) : ipL N = decDigits (N / 4) := by
 unfold ipL at h ⊢
 split
 ·rename_i h0; rw [if_pos h0] at h; simp at h
 ·rfl
theorem ipL_zero {N : Nat} (h : ¬ 0 < (ipL N).length) : decDigits (N / 4) = [48] := by
 have h0 : N / 4 = 0 := Classical.byContradiction fun h0 => h (by
  unfold ipL
  rw [if_neg h0, decDigits_length]
  exact nDigits_pos _)
 rw [h0, dec_one (by omega)]
 rfl
theorem fr_snoc {N k : Nat} (hq : 0 < N % 4) (h1 : kq N ≤ k) (h2 : k < 6) : (frL N).take (k + 1) = (frL N).take k ++ [48] := by
 obtain ⟨c, hf1, hf2⟩ := fr_at N hq k h2
 obtain ⟨hl6, hci⟩ := List.getElem?_eq_some_iff.1 hf1
 rw [List.take_succ_eq_append_getElem hl6, hci]
 have h48 : c.toNat = 48 := hf2.2 h1
 rw [show c = 48 from UInt8.toNat_inj.1 h48]
set_option maxHeartbeats 4000000 in
theorem c283 (b T N c0 : Nat) (A0 : Option Addr) (neg : Bool) (hq : 0 < N % 4) (h9 : N < 1000000000) : Ct Tryz.prog 283 #[.slice A0 0 c0, .bool neg, .slice (some ⟨b, 0, none⟩) 24 24, .int .i64 (((ipL N).length : Nat) : Int), .int .i64 (((ipL N).length + kq N : Nat) : Int), .int .i64 6, .int .u8 102, .bool false] [.row A0 0 c0 5 1 [], .blk b (bufL N) T] [] (fun u M' D' => ∃ A n c, u = .slice A n c ∧ M' = [.row A n c 5 1 (u8V (sgL neg ++ decDigits (N / 4) ++ [46] ++ frL N))] ∧ D' = []) := by
 refine Ct.of_run (args := [.slice A0 0 c0, .bool neg, .slice (some ⟨b, 0, none⟩) 24 24, .int .i64 (((ipL N).length : Nat) : Int), .int .i64 (((ipL N).length + kq N : Nat) : Int), .int .i64 6, .int .u8 102, .bool false]) Tryz.func283 (by kernel_rfl) rfl Tryz.ntmps283 rfl (fun c => ?_)
 have hil := ipL_len h9
 have hk := kq_le N
 refine zD (zB ?_)
 refine zA (zE rfl rfl ?_)
 refine zC (zD ?_)
 refine zD (zB ?_)
 refine zA (zF rfl rfl ?_)
 refine zA (yA rfl rfl rfl ?_)
 refine zA (zF rfl rfl ?_)
 refine vG (s := 33) rfl (rfl) (zM rfl rfl ?_)
 refine zF rfl rfl (zM rfl rfl ?_)
 refine yA rfl rfl rfl (zA ?_)
 refine zR rfl rfl rfl (zC ?_)
 refine zG [36, 0, 1, 2, 3, 4, 5, 6, 7] ?_
 change Run _ _ _ _ _ [(36, _), (0, _), (1, _), (2, _), (3, _), (4, _), (5, _), (6, _), (7, _)] _ _
 refine yE rfl (rfl) (zL ?_)
 refine zD (zD ?_)
 refine zB (zA ?_)
 refine zF rfl rfl (zC ?_)
 refine zO (zD ?_)
 refine zD (zB ?_)
 refine zA (yA rfl rfl rfl ?_)
 refine zA (zE rfl rfl ?_)
 refine zC (yE rfl (rfl) ?_)
 refine zB (zA ?_)
 refine yA rfl rfl rfl (zA ?_)
 refine zE rfl rfl (zC ?_)
 refine yE rfl (rfl) (zD ?_)
 refine zB (zA ?_)
 refine yA rfl rfl rfl (zA ?_)
 refine zE rfl rfl (zC ?_)
 refine zG [176, 0, 1, 2, 3, 4, 5, 6] ?_
 change Run _ _ _ _ _ [(176, _), (0, _), (1, _), (2, _), (3, _), (4, _), (5, _), (6, _)] _ _
 refine yG rfl (rfl) (zD ?_)
 refine zD (zB ?_)
 refine zA (zF rfl rfl ?_)
 refine zC (zG [178, 0, 2, 3, 4, 5] ?_)
 change Run _ _ _ _ _ [(178, _), (0, _), (2, _), (3, _), (4, _), (5, _)] _ _
 refine xA [2, 3, 4, 5] (fun (⟨A1, n1, c1⟩ : Option Addr × Nat × Nat) => n1 ≤ 1) (fun (⟨A1, n1, c1⟩ : Option Addr × Nat × Nat) => [(0, .slice A1 n1 c1)]) (fun (⟨A1, n1, c1⟩ : Option Addr × Nat × Nat) => HA.row A1 n1 c1 5 1 (u8V (sgL neg)) :: HA.blk b (bufL N) T :: []) (fun (⟨A1, n1, c1⟩ : Option Addr × Nat × Nat) => []) ?_ ?_
 ·intro K hK
  refine yM rfl (fun h178 => ?_) (fun h178 => ?_)
  ·refine zB (zA ?_)
   refine zF rfl rfl (zA ?_)
   refine yC sl142 rfl rfl rfl rfl rfl (fun b180 => ?_)
   refine zA ?_
   refine yP 1 0 sl142 rfl rfl rfl rfl rfl rfl rfl (by unfold maxLen; omega) (by omega) (fun A181 c181 => ?_)
   refine zA (zE rfl rfl ?_)
   refine zC ?_
   subst h178
   exact kQ (hK (_, _, _) (by show _ ≤ 1; omega)) (eC rfl (eC rfl (eC rfl (eC rfl (eC rfl (eN _)))))) (hD := (by intro d hd; exact hd))
  refine zL ?_
  subst h178
  exact kQ (hK (_, _, _) (by show _ ≤ 1; omega)) (eC rfl (eC rfl (eC rfl (eC rfl (eC rfl (eN _)))))) (hD := (by intro d hd; exact hd))
 intro ⟨A1, n1, c1⟩ hI
 replace hI : n1 ≤ 1 := hI
 change Run _ _ _ _ _ [(0, .slice A1 n1 c1), (2, _), (3, _), (4, _), (5, _)] (HA.row A1 n1 c1 5 1 (u8V (sgL neg)) :: HA.blk b (bufL N) T :: []) ([])
 replace hI : n1 ≤ 1 := hI
 refine zD (zD ?_)
 refine zB (zA ?_)
 refine zF rfl rfl (zA ?_)
 refine vI rfl rfl rfl (zC ?_)
 refine zG [183, 0, 2, 3, 4, 5] ?_
 change Run _ _ _ _ _ [(183, _), (0, _), (2, _), (3, _), (4, _), (5, _)] _ _
 refine xA [2, 3, 4, 5] (fun (⟨A2, n2, c2⟩ : Option Addr × Nat × Nat) => n2 ≤ 11) (fun (⟨A2, n2, c2⟩ : Option Addr × Nat × Nat) => [(0, .slice A2 n2 c2)]) (fun (⟨A2, n2, c2⟩ : Option Addr × Nat × Nat) => HA.row A2 n2 c2 5 1 (u8V (sgL neg ++ decDigits (N / 4))) :: HA.blk b (bufL N) T :: []) (fun (⟨A2, n2, c2⟩ : Option Addr × Nat × Nat) => []) ?_ ?_
 ·intro Kj2 hKj2
  refine zT rfl (fun h183 => ?_) (fun h183 => ?_)
  ·have hip : ipL N = decDigits (N / 4) := ipL_pos (by omega)
   refine zD (zB ?_)
   refine zA (zF rfl rfl ?_)
   refine zA (zF rfl rfl ?_)
   refine zA (op_min (s := (((ipL N).length : Nat) : Int)) rfl rfl rfl (by omega) ?_)
   refine zA (zE rfl rfl ?_)
   refine zC (zD ?_)
   refine zD (zB ?_)
   refine zA (zF rfl rfl ?_)
   refine zA (zF rfl rfl ?_)
   refine zA (op_sliceHi (h := (ipL N).length) sl142 rfl rfl rfl (by omega) (by omega) ?_)
   refine zA (yZ sl142 rfl rfl ?_)
   refine zA (zF rfl rfl ?_)
   refine zC (zG [191, 190, 189, 23, 0, 2, 3, 4, 5] ?_)
   change Run _ _ _ _ _ [(191, _), (190, _), (189, _), (23, _), (0, _), (2, _), (3, _), (4, _), (5, _)] _ _
   refine zO (zG [191, 0, 190, 189, 23, 2, 3, 4, 5] ?_)
   change Run _ _ _ _ _ [(191, _), (0, _), (190, _), (189, _), (23, _), (2, _), (3, _), (4, _), (5, _)] _ _
   refine tW (ys := u8V (sgL neg ++ (ipL N).take 0)) 0 rfl (by simp) ?_
   refine xZ 2 (fun (⟨i, A3, n3, c3⟩ : Nat × Option Addr × Nat × Nat) => i ≤ (ipL N).length ∧ n3 ≤ 1 + i) (fun (⟨i, A3, n3, c3⟩ : Nat × Option Addr × Nat × Nat) => [(191, .int .i64 ((i : Nat) : Int)), (0, .slice A3 n3 c3)]) (fun (⟨i, A3, n3, c3⟩ : Nat × Option Addr × Nat × Nat) => HA.row A3 n3 c3 5 1 (u8V (sgL neg ++ (ipL N).take i)) :: HA.blk b (bufL N) T :: []) (fun (⟨i, A3, n3, c3⟩ : Nat × Option Addr × Nat × Nat) => []) (fun (⟨i, A3, n3, c3⟩ : Nat × Option Addr × Nat × Nat) => (ipL N).length - i) (0, _, _, _) (⟨by show 0 ≤ _; omega, by show _ ≤ _ + 0; omega⟩) (eC rfl (eC rfl (eN _))) rfl rfl ?_ (eC rfl (eC rfl (eC rfl (eC rfl (eC rfl (eC rfl (eC rfl (eN _))))))))
   intro ⟨i, A3, n3, c3⟩ hI K hK
   replace hI : i ≤ (ipL N).length ∧ n3 ≤ 1 + i := hI
   change Run _ _ _ _ _ [(191, .int .i64 ((i : Nat) : Int)), (0, .slice A3 n3 c3), (190, _), (189, _), (23, _), (2, _), (3, _), (4, _), (5, _)] (HA.row A3 n3 c3 5 1 (u8V (sgL neg ++ (ipL N).take i)) :: HA.blk b (bufL N) T :: []) ([])
   obtain ⟨hi1, hi2⟩ := hI
   refine zD (zB ?_)
   refine zA (vY rfl rfl rfl ?_)
   refine zC (zD ?_)
   refine zT rfl (fun h192 => ?_) (fun h192 => ?_)
   ·have hlt : i < (ipL N).length := by omega
    refine zL (zD ?_)
    refine zO (zD ?_)
    refine zB (zA ?_)
    refine wU sl142 rfl rfl rfl (by omega) (zA ?_)
    refine xD sc5 rfl rfl (fun _ h => blk_add h (j := 1) rfl (buf_ip hlt)) (zA ?_)
    refine zE rfl rfl (zC ?_)
    refine zB (zA ?_)
    refine zF rfl rfl (zA ?_)
    refine zF rfl rfl (zA ?_)
    refine yC sl142 rfl rfl rfl rfl rfl (fun b197 => ?_)
    refine zA ?_
    refine yP 1 0 sl142 rfl rfl rfl rfl rfl rfl rfl (by unfold maxLen; omega) (by omega) (fun A198 c198 => ?_)
    refine zA (zE rfl rfl ?_)
    refine zC (zG [0, 191, 190, 189, 23, 2, 3, 4, 5] ?_)
    change Run _ _ _ _ _ [(0, _), (191, _), (190, _), (189, _), (23, _), (2, _), (3, _), (4, _), (5, _)] _ _
    refine zQ (zB ?_)
    refine zA (xO rfl rfl (by omega) ?_)
    refine zA (zF rfl rfl ?_)
    refine zC (tW (ys := u8V (sgL neg ++ (ipL N).take (i + 1))) 1 rfl (by rw [u8_snoc, List.append_assoc, ← List.take_succ_eq_append_getElem hlt]) ?_)
    exact kQ (hK (i + 1, _, _, _) (⟨by show i + 1 ≤ _; omega, by show _ ≤ _ + (i + 1); omega⟩) (by show (ipL N).length - (i + 1) < (ipL N).length - i; omega)) (eC rfl (eC rfl (eC rfl (eC rfl (eC rfl (eC rfl (eC rfl (eC rfl (eC rfl (eN _))))))))))
   obtain rfl : i = (ipL N).length := by omega
   refine tW (ys := u8V (sgL neg ++ decDigits (N / 4))) 0 rfl (by rw [List.take_length, hip]) (yL rfl ?_)
   refine zD (zB ?_)
   refine zA (zF rfl rfl ?_)
   refine zA (zF rfl rfl ?_)
   refine zA (wE (s := 0) rfl rfl rfl (by omega) (by omega) (by omega) ?_)
   refine zA (zF rfl rfl ?_)
   refine zC (zO ?_)
   refine zG [203, 202, 0, 2, 3, 4, 5] ?_
   change Run _ _ _ _ _ [(203, _), (202, _), (0, _), (2, _), (3, _), (4, _), (5, _)] _ _
   refine wN 1 (fun (z : Nat) => z = 0) (fun (z : Nat) => [(203, .int .i64 ((z : Nat) : Int))]) (fun (z : Nat) => z) 0 (rfl) (eC rfl (eN _)) ?_ (eC rfl (eC rfl (eC rfl (eC rfl (eC rfl (eC rfl (eN _)))))))
   intro z hI K hK1
   change Run _ _ _ _ _ [(203, _), (202, _), (0, _), (2, _), (3, _), (4, _), (5, _)] _ _
   replace hI : z = 0 := hI
   subst hI
   refine zD (zB ?_)
   refine zA (vY rfl rfl rfl ?_)
   refine zC (zD ?_)
   refine yE rfl (rfl) (yL rfl ?_)
   exact kQ (hKj2 (_, _, _) (by show _ ≤ 11; omega)) (eC rfl (eC rfl (eC rfl (eC rfl (eC rfl (eN _)))))) (hD := (by intro d hd; exact hd))
  have hz0 : sgL neg ++ [48] = sgL neg ++ decDigits (N / 4) := by rw [ipL_zero (by omega)]
  refine zB (zA ?_)
  refine zF rfl rfl (zA ?_)
  refine yC sl142 rfl rfl rfl rfl rfl (fun b210 => ?_)
  refine zA ?_
  refine yP 1 0 sl142 rfl rfl rfl rfl rfl rfl rfl (by unfold maxLen; omega) (by omega) (fun A211 c211 => ?_)
  refine zA (zE rfl rfl ?_)
  refine zC (tW (ys := u8V (sgL neg ++ decDigits (N / 4))) 1 rfl ((u8_snoc (sgL neg) 48).trans (congrArg u8V hz0)) ?_)
  exact kQ (hKj2 (_, _, _) (by show _ ≤ 11; omega)) (eC rfl (eC rfl (eC rfl (eC rfl (eC rfl (eN _)))))) (hD := (by intro d hd; exact hd))
 intro ⟨A2, n2, c2⟩ hI
 replace hI : n2 ≤ 11 := hI
 change Run _ _ _ _ _ [(0, .slice A2 n2 c2), (2, _), (3, _), (4, _), (5, _)] (HA.row A2 n2 c2 5 1 (u8V (sgL neg ++ decDigits (N / 4))) :: HA.blk b (bufL N) T :: []) ([])
 replace hI : n2 ≤ 11 := hI
 refine zD (zD ?_)
 refine zB (zA ?_)
 refine zF rfl rfl (zA ?_)
 refine vI rfl rfl rfl (zC ?_)
 refine yG rfl (rfl) (zD ?_)
 refine zB (zA ?_)
 refine zF rfl rfl (zA ?_)
 refine yC sl142 rfl rfl rfl rfl rfl (fun b215 => ?_)
 refine zA ?_
 refine yP 1 0 sl142 rfl rfl rfl rfl rfl rfl rfl (by unfold maxLen; omega) (by omega) (fun A216 c216 => ?_)
 refine zA (zE rfl rfl ?_)
 refine zC (zD ?_)
 refine zB (zA ?_)
 refine zF rfl rfl (zA ?_)
 refine zF rfl rfl (zA ?_)
 refine sE (s := -(((ipL N).length : Nat) : Int)) rfl rfl rfl (by omega) (by omega) (zA ?_)
 refine op_max (s := 0) rfl rfl rfl (by omega) (zA ?_)
 refine op_min (s := 0) rfl rfl rfl (by omega) (zA ?_)
 refine zE rfl rfl (zC ?_)
 refine zG [26, 0, 2, 3, 4, 5] ?_
 change Run _ _ _ _ _ [(26, _), (0, _), (2, _), (3, _), (4, _), (5, _)] _ _
 refine zD (zB ?_)
 refine zA (zF rfl rfl ?_)
 refine zA (zF rfl rfl ?_)
 refine zA (yR (s := (((ipL N).length : Nat) : Int)) rfl rfl rfl (by omega) (by omega) (by omega) ?_)
 refine zA (zE rfl rfl ?_)
 refine zC (zD ?_)
 refine zB (zA ?_)
 refine zF rfl rfl (zA ?_)
 refine zF rfl rfl (zA ?_)
 refine wE (s := 6) rfl rfl rfl rfl (by omega) (by omega) (zA ?_)
 refine zF rfl rfl (zA ?_)
 refine zF rfl rfl (zA ?_)
 refine wE (s := ((kq N : Nat) : Int)) rfl rfl rfl (by omega) (by omega) (by omega) (zA ?_)
 refine op_max (s := ((kq N : Nat) : Int)) rfl rfl rfl (by omega) (zA ?_)
 refine op_min (s := ((kq N : Nat) : Int)) rfl rfl rfl (by omega) (zA ?_)
 refine zE rfl rfl (zC ?_)
 refine zG [28, 27, 26, 0, 2, 5] ?_
 change Run _ _ _ _ _ [(28, _), (27, _), (26, _), (0, _), (2, _), (5, _)] _ _
 refine zD (zB ?_)
 refine zA (zF rfl rfl ?_)
 refine zA (zF rfl rfl ?_)
 refine zA (wE (s := 6) rfl rfl rfl rfl (by omega) (by omega) ?_)
 refine zA (zF rfl rfl ?_)
 refine zA (wE (s := ((6 - kq N : Nat) : Int)) rfl rfl rfl (by omega) (by omega) (by omega) ?_)
 refine zA (op_max (s := ((6 - kq N : Nat) : Int)) rfl rfl rfl (by omega) ?_)
 refine zA (zE rfl rfl ?_)
 refine zC (zD ?_)
 refine zD (zB ?_)
 refine zA (zF rfl rfl ?_)
 refine zA (zF rfl rfl ?_)
 refine zC (zG [240, 239, 29, 28, 27, 0, 2] ?_)
 change Run _ _ _ _ _ [(240, _), (239, _), (29, _), (28, _), (27, _), (0, _), (2, _)] _ _
 refine zO (zG [240, 239, 29, 28, 27, 0, 2] ?_)
 change Run _ _ _ _ _ [(240, _), (239, _), (29, _), (28, _), (27, _), (0, _), (2, _)] _ _
 refine tW (ys := u8V (sgL neg ++ decDigits (N / 4) ++ [46])) 1 rfl (u8_snoc _ 46) (wN 1 (fun (z : Nat) => z = 0) (fun (z : Nat) => [(240, .int .i64 ((z : Nat) : Int))]) (fun (z : Nat) => z) 0 (rfl) (eC rfl (eN _)) ?_ (eC rfl (eC rfl (eC rfl (eC rfl (eC rfl (eC rfl (eN _))))))))
 intro z hI K hK2
 change Run _ _ _ _ _ [(240, _), (239, _), (29, _), (28, _), (27, _), (0, _), (2, _)] _ _
 replace hI : z = 0 := hI
 subst hI
 refine zD (zB ?_)
 refine zA (vY rfl rfl rfl ?_)
 refine zC (zD ?_)
 refine yE rfl (rfl) (yL rfl ?_)
 refine zD (zD ?_)
 refine zB (zA ?_)
 refine zF rfl rfl (zA ?_)
 refine zF rfl rfl (zC ?_)
 refine zO (zG [247, 0, 246, 29, 27, 2] ?_)
 change Run _ _ _ _ _ [(247, _), (0, _), (246, _), (29, _), (27, _), (2, _)] _ _
 refine tW (ys := u8V (sgL neg ++ decDigits (N / 4) ++ [46] ++ (frL N).take 0)) 1 rfl (by simp) (uH (M' := [HA.row A216 (n2 + 1) c216 5 1 (u8V (sgL neg ++ decDigits (N / 4) ++ [46] ++ (frL N).take 0)), HA.blk b (bufL N) T]) (zU 1 rfl (zU 1 rfl (wJ _))) ?_)
 refine xZ 2 (fun (⟨i, A3, n3, c3⟩ : Nat × Option Addr × Nat × Nat) => i ≤ kq N ∧ n3 ≤ 12 + i) (fun (⟨i, A3, n3, c3⟩ : Nat × Option Addr × Nat × Nat) => [(247, .int .i64 ((i : Nat) : Int)), (0, .slice A3 n3 c3)]) (fun (⟨i, A3, n3, c3⟩ : Nat × Option Addr × Nat × Nat) => HA.row A3 n3 c3 5 1 (u8V (sgL neg ++ decDigits (N / 4) ++ [46] ++ (frL N).take i)) :: HA.blk b (bufL N) T :: []) (fun (⟨i, A3, n3, c3⟩ : Nat × Option Addr × Nat × Nat) => []) (fun (⟨i, A3, n3, c3⟩ : Nat × Option Addr × Nat × Nat) => kq N - i) (0, _, _, _) (⟨by show 0 ≤ _; omega, by show _ ≤ _ + 0; omega⟩) (eC rfl (eC rfl (eN _))) rfl rfl ?_ (eC rfl (eC rfl (eC rfl (eC rfl (eN _)))))
 intro ⟨i, A3, n3, c3⟩ hI K hK3
 replace hI : i ≤ kq N ∧ n3 ≤ 12 + i := hI
 change Run _ _ _ _ _ [(247, .int .i64 ((i : Nat) : Int)), (0, .slice A3 n3 c3), (246, _), (29, _), (27, _), (2, _)] (HA.row A3 n3 c3 5 1 (u8V (sgL neg ++ decDigits (N / 4) ++ [46] ++ (frL N).take i)) :: HA.blk b (bufL N) T :: []) ([])
 obtain ⟨hi1, hi2⟩ := hI
 refine zD (zB ?_)
 refine zA (vY rfl rfl rfl ?_)
 refine zC (zD ?_)
 refine zT rfl (fun h248 => ?_) (fun h248 => ?_)
 ·have hlt : i < kq N := by omega
  obtain ⟨ci, hf1, hf2, hf3⟩ := buf_fr (N := N) hq (j := i) (by omega)
  obtain ⟨hl6, hci⟩ := List.getElem?_eq_some_iff.1 hf1
  subst hci
  refine zL (zD ?_)
  refine zO (zD ?_)
  refine zB (zA ?_)
  refine zF rfl rfl (zA ?_)
  refine zE rfl rfl (zC ?_)
  refine zB (zA ?_)
  refine zF rfl rfl (zA ?_)
  refine zF rfl rfl (zA ?_)
  refine zF rfl rfl (zA ?_)
  refine zF rfl rfl (zA ?_)
  refine yR (s := (((ipL N).length + i : Nat) : Int)) rfl rfl rfl (by omega) (by omega) (by omega) (zA ?_)
  refine wU sl142 rfl rfl rfl (by omega) (zA ?_)
  refine xD sc5 rfl rfl (fun _ h => blk_add h (j := 1) rfl hf2) (zA ?_)
  refine yC sl142 rfl rfl rfl rfl rfl (fun b257 => ?_)
  refine zA ?_
  refine yP 1 0 sl142 rfl rfl rfl rfl rfl rfl rfl (by unfold maxLen; omega) (by omega) (fun A258 c258 => ?_)
  refine zA (zE rfl rfl ?_)
  refine zC (zG [0, 247, 246, 29, 27, 2] ?_)
  change Run _ _ _ _ _ [(0, _), (247, _), (246, _), (29, _), (27, _), (2, _)] _ _
  refine zQ (zB ?_)
  refine zA (xO rfl rfl (by omega) ?_)
  refine zA (zF rfl rfl ?_)
  refine zC (tW (ys := u8V (sgL neg ++ decDigits (N / 4) ++ [46] ++ (frL N).take (i + 1))) 1 rfl (by rw [u8_snoc, List.append_assoc, ← List.take_succ_eq_append_getElem (by rw [frL_len]; omega)]) ?_)
  exact kQ (hK3 (i + 1, _, _, _) (⟨by show i + 1 ≤ _; omega, by show _ ≤ _ + (i + 1); omega⟩) (by show kq N - (i + 1) < kq N - i; omega)) (eC rfl (eC rfl (eC rfl (eC rfl (eC rfl (eC rfl (eN _)))))))
 obtain rfl : i = kq N := by omega
 refine yL rfl (zD ?_)
 refine zB (zA ?_)
 refine zF rfl rfl (zA ?_)
 refine zF rfl rfl (zC ?_)
 refine zO (zG [261, 0, 260] ?_)
 change Run _ _ _ _ _ [(261, _), (0, _), (260, _)] _ _
 refine xZ 2 (fun (⟨i, A3, n3, c3⟩ : Nat × Option Addr × Nat × Nat) => i ≤ (6 - kq N) ∧ n3 ≤ 14 + i) (fun (⟨i, A3, n3, c3⟩ : Nat × Option Addr × Nat × Nat) => [(261, .int .i64 ((i : Nat) : Int)), (0, .slice A3 n3 c3)]) (fun (⟨i, A3, n3, c3⟩ : Nat × Option Addr × Nat × Nat) => HA.row A3 n3 c3 5 1 (u8V (sgL neg ++ decDigits (N / 4) ++ [46] ++ (frL N).take (kq N + i))) :: HA.blk b (bufL N) T :: []) (fun (⟨i, A3, n3, c3⟩ : Nat × Option Addr × Nat × Nat) => []) (fun (⟨i, A3, n3, c3⟩ : Nat × Option Addr × Nat × Nat) => (6 - kq N) - i) (0, _, _, _) (⟨by show 0 ≤ _; omega, by show _ ≤ _ + 0; omega⟩) (eC rfl (eC rfl (eN _))) rfl rfl ?_ (eC rfl (eN _))
 intro ⟨i, A3, n3, c3⟩ hI K hK4
 replace hI : i ≤ (6 - kq N) ∧ n3 ≤ 14 + i := hI
 change Run _ _ _ _ _ [(261, .int .i64 ((i : Nat) : Int)), (0, .slice A3 n3 c3), (260, _)] (HA.row A3 n3 c3 5 1 (u8V (sgL neg ++ decDigits (N / 4) ++ [46] ++ (frL N).take (kq N + i))) :: HA.blk b (bufL N) T :: []) ([])
 obtain ⟨hi1, hi2⟩ := hI
 refine zD (zB ?_)
 refine zA (vY rfl rfl rfl ?_)
 refine zC (zD ?_)
 refine zT rfl (fun h262 => ?_) (fun h262 => ?_)
 ·have hlt : i < 6 - kq N := by omega
  have hsn : (frL N).take (kq N + (i + 1)) = (frL N).take (kq N + i) ++ [48] := fr_snoc (k := kq N + i) hq (by omega) (by omega)
  refine zL (zD ?_)
  refine zO (zB ?_)
  refine zA (zF rfl rfl ?_)
  refine zA (yC sl142 rfl rfl rfl rfl rfl (fun b264 => ?_))
  refine zA ?_
  refine yP 1 0 sl142 rfl rfl rfl rfl rfl rfl rfl (by unfold maxLen; omega) (by omega) (fun A265 c265 => ?_)
  refine zA (zE rfl rfl ?_)
  refine zC (zQ ?_)
  refine zB (zA ?_)
  refine xO rfl rfl (by omega) (zA ?_)
  refine zF rfl rfl (zC ?_)
  refine tW (ys := u8V (sgL neg ++ decDigits (N / 4) ++ [46] ++ (frL N).take (kq N + (i + 1)))) 1 rfl ((u8_snoc _ 48).trans (by rw [List.append_assoc, ← hsn])) ?_
  exact kQ (hK4 (i + 1, _, _, _) (⟨by show i + 1 ≤ _; omega, by show _ ≤ _ + (i + 1); omega⟩) (by show (6 - kq N) - (i + 1) < (6 - kq N) - i; omega)) (eC rfl (eC rfl (eC rfl (eN _))))
 obtain rfl : i = 6 - kq N := by omega
 refine tW (ys := u8V (sgL neg ++ decDigits (N / 4) ++ [46] ++ frL N)) 0 rfl (by rw [show kq N + (6 - kq N) = (frL N).length by rw [frL_len]; omega, List.take_length]) (yL rfl ?_)
 refine zD (zB ?_)
 refine zA (zF rfl rfl ?_)
 refine zA (zE rfl rfl ?_)
 refine zC ?_
 exact zK Tryz.results283 rfl ⟨_, _, _, rfl, rfl, rfl⟩ (.cons_cons _ nS) (fun _ h => by cases h)
end Go.Jw

namespace Go.Jw
open Go Go.RowKit Go.Proofs
set_option maxRecDepth 8000
open Go.Lib
theorem c206 (x : Nat) (h1 : x < 18446744073709551616) : CtV Tryz.prog 206 #[.int .u64 (x : Int)] [] (.int .i64 ((Lib.bitLen x : Nat) : Int)) :=
  pG fun206 fun w ok h => (Tryz.bits_Len64 (x : Int) w (by omega) (by omega)).mono (by
    rintro e w' ⟨rfl, rfl⟩
    exact ⟨rfl, Chg.refl _ _⟩)
theorem len53 {x : Nat} (h1 : 2 ^ 52 ≤ x) (h2 : x < 2 ^ 53) : Lib.bitLen x = 53 := by
 obtain ⟨a1, a2, a3⟩ := bitLenAux_bounds 64 x (by omega) (by omega)
 show bitLenAux 64 x = 53
 generalize bitLenAux 64 x = l at *
 have h3 : l ≤ 53 := Classical.byContradiction fun h => by
  have := Nat.pow_le_pow_right (n := 2) (by omega) (show 53 ≤ l - 1 by omega)
  omega
 have h4 : 53 ≤ l := Classical.byContradiction fun h => by
  have := Nat.pow_le_pow_right (n := 2) (by omega) (show l ≤ 52 by omega)
  omega
 omega
structure QBits (B N L : Nat) (neg : Bool) (K : Nat) : Prop where
 lt : B < 18446744073709551616
 sg : B / 2 ^ 63 = neg.toNat
 ex : B / 2 ^ 52 = neg.toNat * 2048 + (1021 + L)
 mt : B % 2 ^ 52 = K - 2 ^ 52
 lo : 2 ^ 52 ≤ K
 hi : K < 2 ^ 53
 up : K * 2 ^ 11 = N * 2 ^ (63 - L)
theorem qbits {n : Int} (h0 : 0 < n.natAbs) (h9 : n.natAbs < 1000000000) : QBits (qw n) n.natAbs n.natAbs.log2 (decide (n < 0)) (n.natAbs * 2 ^ fill n.natAbs) := by
 have hL := fmtN h0 h9
 have hl := hL.l29
 have h53 : n.natAbs < 2 ^ 53 := by omega
 have hlo := fill_lo h53 h0
 have hhi := fill_hi h53 h0
 have hfl : fill n.natAbs = 52 - n.natAbs.log2 := rfl
 have hs : Ieee.double.signWeight = 2 ^ 63 := by decide
 have hw : qw n = (if decide (n < 0) = true then 2 ^ 63 else 0) + ((1020 + n.natAbs.log2) * 2 ^ 52 + n.natAbs * 2 ^ fill n.natAbs) := by
  unfold qw
  rw [near_word _ h0 h53 (by omega) (by omega)]
  have e1 : ((-2 : Int) - fill n.natAbs + 1074).toNat = 1020 + n.natAbs.log2 := by rw [hfl]; omega
  rw [e1]
  unfold Ieee.Format.word
  rw [hs]
  split <;> simp
 have hup : n.natAbs * 2 ^ fill n.natAbs * 2 ^ 11 = n.natAbs * 2 ^ (63 - n.natAbs.log2) := by
  rw [Nat.mul_assoc, ← Nat.pow_add, hfl, show 52 - n.natAbs.log2 + 11 = 63 - n.natAbs.log2 by omega]
 generalize n.natAbs * 2 ^ fill n.natAbs = K at *
 generalize n.natAbs.log2 = L at *
 rw [hw]
 cases decide (n < 0)
 ·simp only [Bool.false_eq_true, ↓reduceIte]
  exact ⟨by omega, by show _ = 0; omega, by show _ = 0 * 2048 + _; omega, by omega, hlo, hhi, hup⟩
 ·simp only [↓reduceIte]
  exact ⟨by omega, by show _ = 1; omega, by show _ = 1 * 2048 + _; omega, by omega, hlo, hhi, hup⟩
theorem and2047 (x : Nat) (b : Bool) (h : x < 2048) : (b.toNat * 2048 + x) &&& 2047 = x := by
 have := Nat.and_two_pow_sub_one_eq_mod (b.toNat * 2048 + x) 11
 rw [show 2 ^ 11 - 1 = 2047 from rfl] at this
 rw [this]
 cases b <;> simp <;> omega
theorem and52 (x : Nat) : x &&& 4503599627370495 = x % 2 ^ 52 := by
 have := Nat.and_two_pow_sub_one_eq_mod x 52
 rwa [show 2 ^ 52 - 1 = 4503599627370495 from rfl] at this
theorem or52 {K : Nat} (h1 : 2 ^ 52 ≤ K) (h2 : K < 2 ^ 53) : (K - 2 ^ 52) ||| 4503599627370496 = K := by
 have := Nat.two_pow_add_eq_or_of_lt (i := 52) (b := K - 2 ^ 52) (by omega) 1
 rw [Nat.or_comm]
 rw [Nat.mul_one] at this
 have e : (4503599627370496 : Nat) = 2 ^ 52 := rfl
 rw [e, ← this]
 omega
theorem c286 (fb : Addr) (N L : Nat) (hF : FmtN N L) : CtV Tryz.prog 286 #[.int .u64 ((N * 2 ^ (63 - L) : Nat) : Int), .int .i64 ((L : Int) - 65), .int .i64 ((dgOf L : Nat) : Int), .int .i64 6, .int .u8 102] [ftD fb] (.tuple #[.int .u64 ((N * 250000 : Nat) : Int), .int .i64 (-6)]) := by
 rcases hF.tab.2.2.1 with h | h
 ·exact c286_6 fb N L hF h
 ·exact c286_7 fb N L hF h
theorem ext280 : ∃ fn, Tryz.prog.funcs[280]? = some fn ∧ (fn.name == "runtime.NumGoroutine") = false ∧ fn.body.isNone = true ∧ Extern.findNext fn = none ∧ Extern.find fn = some Extern.MathFloatBits.float64bits := ⟨Tryz.f280, Tryz.func280, by kernel_rfl, rfl, by kernel_rfl, by kernel_rfl⟩

set_option maxHeartbeats 4000000 in
theorem c261 (fb : Addr) (B N L K c0 : Nat) (A0 : Option Addr) (neg : Bool) (hF : FmtN N L) (hB : QBits B N L neg K) (hq : 0 < N % 4) : Ct Tryz.prog 261 #[.slice A0 0 c0, .float .f64 B, .int .u8 102, .int .i64 6] [.row A0 0 c0 5 1 []] [.tab, ftD fb] (fun u M' D' => ∃ A m c, u = .slice A m c ∧ M' = [.row A m c 5 1 (u8V (sgL neg ++ decDigits (N / 4) ++ [46] ++ frL N))] ∧ D' = []) := by
 refine Ct.of_run (args := [.slice A0 0 c0, .float .f64 B, .int .u8 102, .int .i64 6]) Tryz.func261 (by kernel_rfl) rfl Tryz.ntmps261 rfl (fun c => ?_)
 obtain ⟨fn, e1, e2, e3, e4, e5⟩ := ext280
 have hl := hF.l29
 have hn9 := hF.n9
 have hk1 := hB.lo
 have hk2 := hB.hi
 have hnt : neg.toNat ≤ 1 := by cases neg <;> decide
 obtain ⟨d7a, d15, _, _, _, d6, d7⟩ := hF.tab
 refine zD (zB ?_)
 refine zA (zE rfl rfl ?_)
 refine zC (zD ?_)
 refine zB (zA ?_)
 refine zE rfl rfl (zC ?_)
 refine zD (zB ?_)
 refine zA (zE rfl rfl ?_)
 refine zA (zE rfl rfl ?_)
 refine zA (zE rfl rfl ?_)
 refine zC (zD ?_)
 refine zO (zD ?_)
 refine zB (zA ?_)
 refine yA rfl rfl rfl (zA ?_)
 refine zE rfl rfl (zC ?_)
 refine yE rfl (rfl) (zD ?_)
 refine zB (zA ?_)
 refine yA rfl rfl rfl (zA ?_)
 refine zE rfl rfl (zC ?_)
 refine yG rfl (rfl) (zD ?_)
 refine zB (zA ?_)
 refine zF rfl rfl (zA ?_)
 refine op_extern e1 e2 e3 e4 e5 rfl rfl rfl (fun w => rfl) (zA ?_)
 refine zE rfl rfl (zC ?_)
 refine zG [9, 0, 2, 3] ?_
 change Run _ _ _ _ _ [(9, _), (0, _), (2, _), (3, _)] _ _
 refine zD (zB ?_)
 refine zA (zE rfl rfl ?_)
 refine zC (zD ?_)
 refine zB (zA ?_)
 refine zE rfl rfl (zC ?_)
 refine zB (zA ?_)
 refine zE rfl rfl (zC ?_)
 refine zQ (zD ?_)
 refine zB (zA ?_)
 refine zF rfl rfl (zA ?_)
 refine zF rfl rfl (zA ?_)
 refine zF rfl rfl (zA ?_)
 refine yR (s := 63) rfl rfl rfl rfl (by omega) (by omega) (zA ?_)
 refine op_shrU (m := B) (s := 63) (r := neg.toNat) rfl rfl rfl (by omega) hB.sg (zA ?_)
 refine op_bin (v := .bool neg) (fun w => by cases neg <;> rfl) rfl rfl rfl (zA ?_)
 refine zE rfl rfl (zC ?_)
 refine zD (wH xQ ?_)
 refine yO (tP 0 rfl wanted0 (yS rfl) ?_)
 refine tP 1 rfl wanted0 (yS rfl) (tP 4 rfl wanted0 (yS rfl) ?_)
 refine xE (tM 2 rfl wanted0 (sA (bin_shrU (m := B) (s := 52) (r := neg.toNat * 2048 + (1021 + L)) (by omega) hB.ex) rfl rfl) ?_)
 refine tM 3 rfl wanted0 (st_convII Tryz.underlying235 Tryz.underlying3 rfl (uO (by omega) (by omega))) (tM 5 rfl wanted0 (sA (bin_shlI (m := 1) (s := 11) (r := 2048) (by omega) (Eq.refl _) (by omega)) rfl rfl) ?_)
 refine tM 6 rfl wanted0 (st_subF (s := ((2047 : Nat) : Int)) rfl rfl (by omega) (by omega) (by omega)) (tM 7 rfl wanted0 (sA (bin_andI (m := neg.toNat * 2048 + (1021 + L)) (m' := 2047) (r := 1021 + L) (by omega) (by omega) (and2047 (1021 + L) neg (by omega))) rfl rfl) ?_)
 refine yO (tP 8 rfl wanted0 (wK rfl) ?_)
 refine xP (by decide +kernel) (zG [14, 13, 12, 11, 10, 9, 0, 2, 3] ?_)
 change Run _ _ _ _ _ [(14, _), (13, _), (12, _), (11, _), (10, _), (9, _), (0, _), (2, _), (3, _)] _ _
 refine zD (zB ?_)
 refine zA (zF rfl rfl ?_)
 refine zA (zF rfl rfl ?_)
 refine zA (op_shlU (m := 1) (s := 52) (r := 4503599627370496) rfl rfl rfl (by omega) rfl (by omega) ?_)
 refine zA (op_subU (m := 4503599627370496) (m' := 1) (r := 4503599627370495) rfl rfl rfl (by omega) rfl (by omega) ?_)
 refine zA (op_andU (m := B) (m' := 4503599627370495) (r := K - 2 ^ 52) rfl rfl rfl hB.lt (by omega) ((and52 B).trans hB.mt) ?_)
 refine zA (zE rfl rfl ?_)
 refine zC (zG [15, 14, 13, 12, 11, 10, 0, 2, 3] ?_)
 change Run _ _ _ _ _ [(15, _), (14, _), (13, _), (12, _), (11, _), (10, _), (0, _), (2, _), (3, _)] _ _
 refine zD (zD ?_)
 refine zB (zA ?_)
 refine zF rfl rfl (zA ?_)
 refine zF rfl rfl (zA ?_)
 refine op_bin (bin_shlI (m := 1) (s := 11) (r := 2048) (by omega) (Eq.refl _) (by omega)) rfl rfl rfl (zA ?_)
 refine wE (s := ((2047 : Nat) : Int)) rfl rfl rfl (by omega) (by omega) (by omega) (zA ?_)
 refine yA rfl rfl rfl (zC ?_)
 refine yE rfl (decide_eq_false (by omega)) (zL ?_)
 refine zD (zD ?_)
 refine zB (zA ?_)
 refine zF rfl rfl (zA ?_)
 refine yA rfl rfl rfl (zC ?_)
 refine zG [78, 15, 14, 13, 12, 11, 0, 2, 3] ?_
 change Run _ _ _ _ _ [(78, _), (15, _), (14, _), (13, _), (12, _), (11, _), (0, _), (2, _), (3, _)] _ _
 refine yE rfl (decide_eq_false (by omega)) (zB ?_)
 refine zA (zF rfl rfl ?_)
 refine zA (zF rfl rfl ?_)
 refine zA (op_shlU (m := 1) (s := 52) (r := 4503599627370496) rfl rfl rfl (by omega) rfl (by omega) ?_)
 refine zA (op_orU (m := K - 2 ^ 52) (m' := 4503599627370496) (r := K) rfl rfl rfl (by omega) (by omega) (or52 hB.lo hB.hi) ?_)
 refine zA (zE rfl rfl ?_)
 refine zC (zD ?_)
 refine zB (zA ?_)
 refine zF rfl rfl (zA ?_)
 refine zF rfl rfl (zA ?_)
 refine yR (s := (L : Int) - 2) rfl rfl rfl (by omega) (by omega) (by omega) (zA ?_)
 refine zE rfl rfl (zC ?_)
 refine zG [14, 15, 13, 11, 0, 2, 3] ?_
 change Run _ _ _ _ _ [(14, _), (15, _), (13, _), (11, _), (0, _), (2, _), (3, _)] _ _
 refine zD (zD ?_)
 refine zB (zA ?_)
 refine zF rfl rfl (zA ?_)
 refine yA rfl rfl rfl (zC ?_)
 refine yE rfl (rfl) (zL ?_)
 refine zD (zD ?_)
 refine zB (zA ?_)
 refine zF rfl rfl (zA ?_)
 refine yA rfl rfl rfl (zA ?_)
 refine zF rfl rfl (vG (s := 99) rfl (rfl) ?_)
 refine zM rfl rfl (zF rfl rfl ?_)
 refine zM rfl rfl (yA rfl rfl rfl ?_)
 refine zA (zR rfl rfl rfl ?_)
 refine zC (zG [102, 14, 15, 13, 11, 0, 2, 3] ?_)
 change Run _ _ _ _ _ [(102, _), (14, _), (15, _), (13, _), (11, _), (0, _), (2, _), (3, _)] _ _
 refine yE rfl (rfl) (zL ?_)
 refine zD (zD ?_)
 refine zB (zA ?_)
 refine zF rfl rfl (zA ?_)
 refine yA rfl rfl rfl (zC ?_)
 refine yE rfl (decide_eq_false (by omega)) (zL ?_)
 refine zD (zD ?_)
 refine zB (zA ?_)
 refine zF rfl rfl (zA ?_)
 refine vY rfl rfl rfl (zC ?_)
 refine yE rfl (rfl) (zL ?_)
 refine zD (zD ?_)
 refine zB (zA ?_)
 refine uX 1 0 sc4 rfl rfl rfl rfl (zC ?_)
 refine yG rfl (rfl) (zD ?_)
 refine zB (zA ?_)
 refine zF rfl rfl (zA ?_)
 refine zE rfl rfl (zC ?_)
 refine zG [24, 14, 15, 13, 11, 0, 2, 3] ?_
 change Run _ _ _ _ _ [(24, _), (14, _), (15, _), (13, _), (11, _), (0, _), (2, _), (3, _)] _ _
 refine zD (zD ?_)
 refine zB (zA ?_)
 refine zF rfl rfl (zC ?_)
 refine zG [175, 24, 14, 15, 13, 11, 0, 2, 3] ?_
 change Run _ _ _ _ _ [(175, _), (24, _), (14, _), (15, _), (13, _), (11, _), (0, _), (2, _), (3, _)] _ _
 refine xA [14, 15, 13, 11, 0, 2, 3] (fun (u : Unit) => True) (fun (u : Unit) => [(24, .int .i64 ((dgOf L : Nat) : Int))]) (fun (u : Unit) => HA.row A0 0 c0 5 1 [] :: []) (fun (u : Unit) => .tab :: ftD fb :: []) ?_ ?_
 ·intro K hK
  refine zO (zD ?_)
  refine zB (zA ?_)
  refine yA rfl rfl rfl (zA ?_)
  refine zE rfl rfl (zC ?_)
  refine yG rfl (rfl) (zD ?_)
  refine zB (zA ?_)
  refine zF rfl rfl (zA ?_)
  refine qW rfl rfl rfl (zC ?_)
  refine zT rfl (fun h179 => ?_) (fun h179 => ?_)
  ·have hdg := d6 (by omega)
   refine zB (zA ?_)
   refine zF rfl rfl (zA ?_)
   refine yR (s := (L : Int) - 1) rfl rfl rfl (by omega) (by omega) (by omega) (zA ?_)
   refine zY rfl rfl rfl (c242 ((L : Int) - 1) (by omega) (by omega)) sub0 (zA ?_)
   refine yR rfl rfl rfl rfl (by omega) (by omega) (zA ?_)
   refine zF rfl rfl (zA ?_)
   refine yR (s := ((dgOf L : Nat) : Int)) rfl rfl rfl (by omega) (by omega) (by omega) (zA ?_)
   refine zE rfl rfl (zC ?_)
   refine zG [24, 14, 15, 13, 11, 0, 2, 3] ?_
   change Run _ _ _ _ _ [(24, _), (14, _), (15, _), (13, _), (11, _), (0, _), (2, _), (3, _)] _ _
   refine zQ ?_
   exact kQ (hK () trivial) (eC rfl (eC rfl (eC rfl (eC rfl (eC rfl (eC rfl (eC rfl (eC rfl (eN _))))))))) (hD := (by intro d hd; exact hd))
  have hdg := d7 (by omega)
  have hdg2 : dgOf L = 7 := by unfold dgOf; rw [if_neg (by omega)]
  refine zB (zA ?_)
  refine zF rfl rfl (zA ?_)
  refine yR (s := 7) rfl rfl rfl rfl (by omega) (by omega) (zA ?_)
  refine zF rfl rfl (zA ?_)
  refine sE (s := 2 - (L : Int)) rfl rfl (by omega) (by omega) (by omega) (zA ?_)
  refine zY rfl rfl rfl (c242 (2 - (L : Int)) (by omega) (by omega)) sub0 (zA ?_)
  refine wE (s := ((dgOf L : Nat) : Int)) rfl rfl rfl (by omega) (by omega) (by omega) (zA ?_)
  refine zE rfl rfl (zC ?_)
  refine zG [24, 14, 15, 13, 11, 0, 2, 3] ?_
  change Run _ _ _ _ _ [(24, _), (14, _), (15, _), (13, _), (11, _), (0, _), (2, _), (3, _)] _ _
  refine zQ ?_
  exact kQ (hK () trivial) (eC rfl (eC rfl (eC rfl (eC rfl (eC rfl (eC rfl (eC rfl (eC rfl (eN _))))))))) (hD := (by intro d hd; exact hd))
 intro u hI
 replace hI : True := hI
 change Run _ _ _ _ _ [(24, .int .i64 ((dgOf L : Nat) : Int)), (14, _), (15, _), (13, _), (11, _), (0, _), (2, _), (3, _)] (HA.row A0 0 c0 5 1 [] :: []) (.tab :: ftD fb :: [])
 refine zD (zB ?_)
 refine zA (zF rfl rfl ?_)
 refine zA (op_leq rfl rfl rfl ?_)
 refine zC (yG rfl (decide_eq_true (by omega)) ?_)
 refine zD (zB ?_)
 refine zA (yN ze246 rfl (fun b25 => ?_))
 change RunOps _ _ _ _ _ _ _ _ (HA.blk _ [_, _, _, _, _, _, _, _, _, _, _, _, _, _, _, _, _, _, _, _, _, _, _, _] _ :: _) _
 refine zC (zD ?_)
 refine zB (zA ?_)
 refine zE rfl rfl (zA ?_)
 refine zE rfl rfl (zC ?_)
 refine zD (zD ?_)
 refine zB (zA ?_)
 refine zF rfl rfl (zA ?_)
 refine vI rfl rfl rfl (zC ?_)
 refine zG [206, 27, 26, 25, 24, 14, 15, 13, 11, 0, 2, 3] ?_
 change Run _ _ _ _ _ [(206, _), (27, _), (26, _), (25, _), (24, _), (14, _), (15, _), (13, _), (11, _), (0, _), (2, _), (3, _)] _ _
 refine yG rfl (decide_eq_true (by omega)) (zD ?_)
 refine zB (zA ?_)
 refine zF rfl rfl (zA ?_)
 refine zY rfl rfl rfl (c206 K (by omega)) sub0 ?_
 rw [len53 hB.lo hB.hi]
 refine zA (wE (s := ((11 : Nat) : Int)) rfl rfl rfl rfl (by omega) (by omega) ?_)
 refine zA (zE rfl rfl ?_)
 refine zC (zG [28, 27, 26, 25, 24, 14, 15, 13, 11, 0, 2, 3] ?_)
 change Run _ _ _ _ _ [(28, _), (27, _), (26, _), (25, _), (24, _), (14, _), (15, _), (13, _), (11, _), (0, _), (2, _), (3, _)] _ _
 refine zD (zB ?_)
 refine zA (zF rfl rfl ?_)
 refine zA (zF rfl rfl ?_)
 refine zA (op_shlU (m := K) (s := 11) (r := N * 2 ^ (63 - L)) rfl rfl rfl (by omega) hB.up hF.up ?_)
 refine zA (zE rfl rfl ?_)
 refine zC (zG [29, 28, 27, 26, 25, 24, 14, 13, 11, 0, 2, 3] ?_)
 change Run _ _ _ _ _ [(29, _), (28, _), (27, _), (26, _), (25, _), (24, _), (14, _), (13, _), (11, _), (0, _), (2, _), (3, _)] _ _
 refine zD (zB ?_)
 refine zA (zF rfl rfl ?_)
 refine zA (zF rfl rfl ?_)
 refine zA (wE (s := (L : Int) - 13) rfl rfl rfl (by omega) (by omega) (by omega) ?_)
 refine zA (zE rfl rfl ?_)
 refine zC (zG [30, 29, 27, 26, 25, 24, 13, 11, 0, 2, 3] ?_)
 change Run _ _ _ _ _ [(30, _), (29, _), (27, _), (26, _), (25, _), (24, _), (13, _), (11, _), (0, _), (2, _), (3, _)] _ _
 refine zD (zB ?_)
 refine zA (zF rfl rfl ?_)
 refine zA (zF rfl rfl ?_)
 refine zA (zF rfl rfl ?_)
 refine zA (wE (s := (L : Int) - 65) rfl rfl rfl (by omega) (by omega) (by omega) ?_)
 refine zA (zF rfl rfl ?_)
 refine zA (zF rfl rfl ?_)
 refine zA (zF rfl rfl ?_)
 refine zA (zY rfl rfl rfl (c286 fb N L hF) (sub1 1 rfl) ?_)
 refine zA (zF rfl rfl ?_)
 refine zA (yD rfl rfl rfl ?_)
 refine zA (yD rfl rfl rfl ?_)
 refine zA (zE rfl rfl ?_)
 refine zA (zE rfl rfl ?_)
 refine zC (zG [32, 31, 27, 26, 25, 13, 0, 2, 3] ?_)
 change Run _ _ _ _ _ [(32, _), (31, _), (27, _), (26, _), (25, _), (13, _), (0, _), (2, _), (3, _)] _ _
 refine zD (zB ?_)
 refine zA (zF rfl rfl ?_)
 refine zA (tG rfl rfl rfl ?_)
 refine zC (yG rfl (decide_eq_true (by omega)) ?_)
 refine wH xQ (yO ?_)
 refine tP 1 rfl wanted0 (yS rfl) (tP 2 rfl wanted0 (yS rfl) ?_)
 refine tP 3 rfl wanted0 (yS rfl) (xE ?_)
 refine tM 0 rfl wanted0 (st_sliceArr Tryz.underlying246 si5 rfl) (yF 4 (by decide +kernel) ?_)
 refine yH (I2 := [[0], [2, 1], []]) rfl wanted0 (by decide +kernel) (fun Kd hKd => ?_)
 refine zY rfl rfl rfl (c220 (N * 250000) (by omega) (by omega)) (sub1 0 rfl) ?_
 rw [nd_quart hq]
 refine hKd _ _ _ (hC (hC (zP (yI)))) (yF 5 (by decide +kernel) ?_)
 refine yH (I2 := [[], [], []]) rfl wanted0 (by decide +kernel) (fun Kd hKd => ?_)
 refine yU 0 rfl rfl rfl (c285 b25 246 N hq hF.n9) rfl sub0 (fun u235 M235 D235 hv235 => ?_)
 obtain ⟨rfl, rfl, rfl⟩ := hv235
 refine hKd _ _ _ (zP (zP (zP (yI)))) (yO ?_)
 refine tP 6 rfl wanted0 (yS rfl) (tP 7 rfl wanted0 (st_extract rfl rfl) ?_)
 refine tP 8 rfl wanted0 (st_extract rfl rfl) (tP 9 rfl wanted0 (wK rfl) ?_)
 refine tP 10 rfl wanted0 (wK rfl) (xP (by decide +kernel) ?_)
 refine zG [27, 26, 25, 13, 0, 2, 3] ?_
 change Run _ _ _ _ _ [(27, _), (26, _), (25, _), (13, _), (0, _), (2, _), (3, _)] _ _
 refine zD (zB ?_)
 refine zA (zF rfl rfl ?_)
 refine zA (zF rfl rfl ?_)
 refine zA (op_sliceArr Tryz.underlying246 si5 rfl rfl ?_)
 refine zA (zF rfl rfl ?_)
 refine zA (zF rfl rfl ?_)
 refine zA (zF rfl rfl ?_)
 refine zA (zF rfl rfl ?_)
 refine zA (xM 1 0 rfl rfl rfl (c283 b25 246 N c0 A0 neg hq hF.n9) rfl rfl sub0 (fun u245 M245 D245 hv245 => ?_))
 obtain ⟨A9, n9, c9, rfl, rfl, rfl⟩ := hv245
 refine zA (zE rfl rfl ?_)
 refine zC (zG [8] ?_)
 change Run _ _ _ _ _ [(8, _)] _ _
 exact zK Tryz.results261 rfl ⟨_, _, _, rfl, rfl, rfl⟩ (List.Sublist.refl _) (fun _ h => by cases h)
end Go.Jw

namespace Go.Jw
open Go Go.RowKit Go.Proofs
set_option maxRecDepth 8000
open Go.Lib
theorem decFrom_app : ∀ (l r : List UInt8) (a m : Nat), decFrom a l = some m → decFrom a (l ++ r) = decFrom m r
  | [], r, a, m, h => by simp only [decFrom, Option.some.injEq] at h; subst h; rfl
  | b :: l, r, a, m, h => by
    simp only [List.cons_append, decFrom] at h ⊢
    split
    · rename_i d hd
      rw [hd] at h
      exact decFrom_app l r _ m h
    · rename_i hd
      rw [hd] at h
      exact absurd h (by simp)
theorem digitVal_d {d : Nat} (h : d < 10) : digitVal (UInt8.ofNat (48 + d)) = some d := by
 unfold digitVal
 rw [qQ h]
 rw [if_pos (by omega)]
 congr 1
 omega
theorem decFrom_dec (u : Nat) : decFrom 0 (decDigits u) = some u := by
  induction u using Nat.strongRecOn with
  | _ u ih =>
    rw [decDigits]
    split
    · rename_i h
      simp only [decFrom, digitVal_d h, Option.some.injEq]
      omega
    · rename_i h
      rw [decFrom_app _ _ _ _ (ih (u / 10) (by omega))]
      simp only [decFrom, digitVal_d (Nat.mod_lt u (show 0 < 10 by omega)), Option.some.injEq]
      omega
theorem decNat_dec (u : Nat) : decNat (decDigits u) = some u := by
  unfold decNat
  have := dec_ne u
  cases hd : decDigits u with
  | nil => exact absurd hd this
  | cons c r => rw [← hd, decFrom_dec]; simp [hd]
theorem dec_len9 {u : Nat} (h : u < 1000000000) : (decDigits u).length ≤ 9 := by
 rw [decDigits_length]
 exact nDigits_le (by omega) (by omega)
theorem dec_first (u : Nat) : ∀ c r, decDigits u = c :: r → Dgt c := by
  induction u using Nat.strongRecOn with
  | _ u ih =>
    intro c r h
    rw [decDigits] at h
    split at h
    · rename_i h9
      injection h with h1 h2
      subst h1
      show 48 ≤ _ ∧ _
      rw [qQ h9]
      omega
    · cases hd : decDigits (u / 10) with
      | nil => exact absurd hd (dec_ne _)
      | cons c' r' =>
        rw [hd, List.cons_append] at h
        injection h with h1 h2
        subst h1
        exact ih (u / 10) (by omega) _ _ hd
theorem parse_itoa {n : Int} (h1 : -1000000000 < n) (h2 : n < 1000000000) : parseIntB 64 (Lib.itoa n) = .ok n := by
  rcases Int.lt_or_le n 0 with h | h
  · obtain ⟨u, rfl⟩ : ∃ u : Nat, n = -(u : Int) := ⟨n.natAbs, by omega⟩
    rw [itoa_neg u (by omega), parseIntB_64, atoiAll_short _ (by have := dec_len9 (u := u) (by omega); simp only [List.length_cons]; omega)]
    simp [atoi, decNat_dec, NumEnd.ofOption]
  · obtain ⟨u, rfl⟩ : ∃ u : Nat, n = (u : Int) := ⟨n.natAbs, by omega⟩
    rw [itoa_nonneg, parseIntB_64, atoiAll_short _ (by have := dec_len9 (u := u) (by omega); omega)]
    cases hd : decDigits u with
    | nil => exact absurd hd (dec_ne u)
    | cons c r =>
      have hc : 48 ≤ c.toNat ∧ c.toNat ≤ 57 := dec_first u c r hd
      have h45 : (c == 45) = false := by
        cases hq : c == 45 with
        | false => rfl
        | true => rw [beq_iff_eq] at hq; subst hq; exact absurd hc.1 (by decide)
      have h43 : (c == 43) = false := by
        cases hq : c == 43 with
        | false => rfl
        | true => rw [beq_iff_eq] at hq; subst hq; exact absurd hc.1 (by decide)
      simp only [atoi, h45, h43, Bool.false_eq_true, ↓reduceIte]
      rw [← hd, decNat_dec]
      rfl
theorem fun180 : Fun Tryz.prog 180 := ⟨_, Tryz.func180, by kernel_rfl, rfl⟩
theorem chg_bytes (w : World) (t : TypeId) (s : ByteArray) : Chg [] w (Lib.bytesWorld w t s) :=
 by
 unfold Lib.bytesWorld World.freeze
 rw [if_neg (by omega)]
 refine ⟨rfl, rfl, rfl, ?_, fun j hj _ => ?_⟩
 ·show w.heap.size ≤ (Array.modify _ _ _).size
  rw [Array.size_modify]
  show _ ≤ (w.heap.push _).size
  simp
 ·show (Array.modify _ _ _)[j]? = _
  rw [Array.getElem?_modify, if_neg (by show ¬ w.heap.size = j; omega)]
  show (w.heap.push _)[j]? = _
  rw [Array.getElem?_push, if_neg (by omega)]
theorem c180 (n : Int) (h1 : -1000000000 < n) (h2 : n < 1000000000) : CtV Tryz.prog 180 #[.string (itoaB n), .int .i64 10, .int .i64 64] [] (.tuple #[.int .i64 n, .nilIface]) :=
  pG fun180 fun w ok h => (Tryz.strconv_ParseInt_10_at64_ok (itoaB n) (by have := vN n (by omega) (by omega); omega) n (parse_itoa h1 h2) w).mono (by
    rintro e w' ⟨rfl, hw⟩
    refine ⟨rfl, ?_⟩
    rcases hw with rfl | ⟨t, rfl⟩
    · exact Chg.refl _ _
    · exact chg_bytes _ _ _)
theorem bs_ext {a b : ByteArray} (h : rl a = rl b) : a = b := by
  cases a with
  | mk a => cases b with
    | mk b => congr 1; exact Array.ext' h
theorem rl_frac6 {q : Nat} (h0 : 0 < q) (h4 : q < 4) : rl (frac6 q) = 46 :: frL q := by
 rcases (by omega : q = 1 ∨ q = 2 ∨ q = 3) with rfl | rfl | rfl <;> rfl
theorem frL_mod (N : Nat) : frL (N % 4) = frL N := by unfold frL; rw [Nat.mod_mod]
theorem quartF_row {n : Int} (h0 : n.tmod 4 ≠ 0) : bs (sgL (decide (n < 0)) ++ decDigits (n.natAbs / 4) ++ [46] ++ frL n.natAbs) = quartF n := by
 obtain ⟨a1, a2⟩ := tmod4 h0
 apply bs_ext
 unfold quartF
 rw [rl_app, rl_app, rl_itoa, rl_sign, rl_frac6 a1 a2, frL_mod, List.append_assoc _ [46] (frL n.natAbs)]
 rfl
theorem quartF_size {n : Int} (h0 : n.tmod 4 ≠ 0) (h1 : -1000000000 < n) (h2 : n < 1000000000) : (quartF n).size ≤ 20 := by
 rw [← quartF_row h0]
 show (sgL (decide (n < 0)) ++ decDigits (n.natAbs / 4) ++ [46] ++ frL n.natAbs).toArray.size ≤ 20
 have := dec_len9 (u := n.natAbs / 4) (by omega)
 have h6 : (frL n.natAbs).length = 6 := frL_len _
 have hs : (sgL (decide (n < 0))).length ≤ 1 := by unfold sgL; split <;> simp
 simp only [List.size_toArray, List.length_append, h6, List.length_cons, List.length_nil]
 omega

theorem c246 (fb : Addr) (n : Int) (h0 : n.tmod 4 ≠ 0) (h1 : -1000000000 < n) (h2 : n < 1000000000) : CtV Tryz.prog 246 #[.float .f64 (qw n), .int .u8 102, .int .i64 6, .int .i64 64] [.tab, ftD fb] (.string (quartF n)) := by
 refine Ct.of_run (args := [.float .f64 (qw n), .int .u8 102, .int .i64 6, .int .i64 64]) Tryz.func246 (by kernel_rfl) rfl Tryz.ntmps246 rfl (fun c => ?_)
 obtain ⟨a1, a2⟩ := tmod4 h0
 have hn0 : 0 < n.natAbs := by omega
 have hn9 : n.natAbs < 1000000000 := by omega
 refine zD (zB ?_)
 refine zA (zE rfl rfl ?_)
 refine zC (zD ?_)
 refine zD (zB ?_)
 refine zA (zF rfl rfl ?_)
 refine zA (yA rfl rfl rfl ?_)
 refine zC (yE rfl (rfl) ?_)
 refine zL (zD ?_)
 refine zD (zB ?_)
 refine zA (zF rfl rfl ?_)
 refine zA (yA rfl rfl rfl ?_)
 refine zC (yG rfl (rfl) ?_)
 refine zD (zB ?_)
 refine zA (zF rfl rfl ?_)
 refine zA (yR (s := 10) rfl rfl rfl rfl (by omega) (by omega) ?_)
 refine zA (op_max (s := ((24 : Nat) : Int)) rfl rfl rfl rfl ?_)
 refine zA ?_
 refine op_makeSliceC 24 sl142 rfl rfl rfl (by omega) (by omega) (fun b26 => ?_)
 refine zA (zF rfl rfl ?_)
 refine zA (zF rfl rfl ?_)
 refine zA (zF rfl rfl ?_)
 refine zA (yU 0 rfl rfl rfl (c261 fb (qw n) n.natAbs n.natAbs.log2 (n.natAbs * 2 ^ fill n.natAbs) 24 _ (decide (n < 0)) (fmtN hn0 hn9) (qbits hn0 hn9) (tmod4 h0).1) rfl (sub2 0 1 rfl rfl) (fun u30 M30 D30 hv30 => ?_))
 obtain ⟨A9, m9, c9, rfl, rfl, rfl⟩ := hv30
 refine zA (op_convBS 0 Tryz.underlying142 Tryz.underlying5 Tryz.underlying9 rfl rfl rfl ?_)
 rw [quartF_row h0]
 refine zA (zE rfl rfl ?_)
 refine zC (zG [8] ?_)
 change Run _ _ _ _ _ [(8, _)] _ _
 exact zK Tryz.results246 rfl ⟨rfl, rfl, rfl⟩ nS (fun _ h => by cases h)
theorem c224 (fb : Addr) (n : Int) (h0 : n.tmod 4 ≠ 0) (h1 : -1000000000 < n) (h2 : n < 1000000000) : CtV Tryz.prog 224 #[.float .f64 (qw n), .int .u8 102, .int .i64 6, .int .i64 64] [.tab, ftD fb] (.string (quartF n)) := by
 refine Ct.of_run (args := [.float .f64 (qw n), .int .u8 102, .int .i64 6, .int .i64 64]) Tryz.func224 (by kernel_rfl) rfl Tryz.ntmps224 rfl (fun c => ?_)
 refine zD (zB ?_)
 refine zA (zE rfl rfl ?_)
 refine zC (zD ?_)
 refine zB (zA ?_)
 refine zF rfl rfl (zA ?_)
 refine zF rfl rfl (zA ?_)
 refine zF rfl rfl (zA ?_)
 refine zF rfl rfl (zA ?_)
 refine zY rfl rfl rfl (c246 fb n h0 h1 h2) (sub2 0 1 rfl rfl) (zA ?_)
 refine zE rfl rfl (zC ?_)
 refine zG [8] ?_
 change Run _ _ _ _ _ [(8, _)] _ _
 exact zK Tryz.results224 rfl ⟨rfl, rfl, rfl⟩ nS (fun _ h => by cases h)
theorem c188 (fb : Addr) (n : Int) (h0 : n.tmod 4 ≠ 0) (h1 : -1000000000 < n) (h2 : n < 1000000000) : CtR Tryz.prog 188 #[.float .f64 (qw n)] [.tab, ftD fb] (RN (scal tFloat (quartF n))) := by
 refine Ct.of_run (args := [.float .f64 (qw n)]) Tryz.func188 (by kernel_rfl) rfl Tryz.ntmps188 rfl (fun c => ?_)
 refine zD (zB ?_)
 refine zA (zE rfl rfl ?_)
 refine zC (zD ?_)
 refine zB (zA ?_)
 refine zF rfl rfl (zA ?_)
 refine zY rfl rfl rfl (c224 fb n h0 h1 h2) (sub2 0 1 rfl rfl) (zA ?_)
 refine xT rfl rfl (sG ..) (zA ?_)
 refine xS rfl rfl rfl (fun b6 => ?_)
 refine zA (zE rfl rfl ?_)
 refine zC (rV ?_)
 exact vV 0 0 rfl rfl (by intro b h; cases h) (by decide) (max_of (quartF_size h0 h1 h2) (by decide)) (zK Tryz.results188 rfl ⟨rfl, b6, rfl, rfl⟩ nS (sub1 0 rfl))
theorem c135F (fb : Addr) (sp : Value) (nb : Nat) (n : Int) (h0 : n.tmod 4 ≠ 0) (h1 : -1000000000 < n) (h2 : n < 1000000000) : CtR Tryz.prog 135 #[sp, ptr nb] [.node nb (scal tFloat (quartV n)), .tab, ftD fb] (RF (.numF (qw n))) := by
 refine Ct.of_run (args := [sp, ptr nb]) Tryz.func135 (by kernel_rfl) rfl Tryz.ntmps135 rfl (fun c => ?_)
 refine wD 0 rfl (fun A0 cap0 ht0 hv0 hl0 hc0 => ?_)
 refine zD (zB ?_)
 refine zA (zE rfl rfl ?_)
 refine zC (zD ?_)
 refine zB (zA ?_)
 refine xT rfl rfl (bu213 ..) (zA ?_)
 refine xS rfl rfl rfl (fun b11 => ?_)
 refine zA (zE rfl rfl ?_)
 refine zC (zD ?_)
 refine zD (zB ?_)
 refine zA (zF rfl rfl ?_)
 refine zA (zH rfl rfl ?_)
 refine zA (zJ wP rfl rfl ?_)
 refine zA (zN 0 sc146 rfl rfl rfl rfl ?_)
 refine zC (zO ?_)
 refine zD (zB ?_)
 refine zA (yA rfl rfl rfl ?_)
 refine zA (zE rfl rfl ?_)
 refine zC (zG [16, 5, 1] ?_)
 change Run _ _ _ _ _ [(16, _), (5, _), (1, _)] _ _
 refine yG rfl (decide_eq_true rfl) (zD ?_)
 refine zB (zA ?_)
 refine zF rfl rfl (zA ?_)
 refine zH rfl rfl (zA ?_)
 refine zJ tT rfl rfl (zA ?_)
 refine zN 0 sc9 rfl rfl rfl rfl (zC ?_)
 refine zO (zD ?_)
 refine zB (zA ?_)
 refine zZ rfl rfl rfl (zA ?_)
 refine zE rfl rfl (zC ?_)
 refine yG rfl (decide_eq_true rfl) (zD ?_)
 refine zB (zA ?_)
 refine zF rfl rfl (zA ?_)
 refine zH rfl rfl (zA ?_)
 refine zJ wY rfl rfl (zA ?_)
 refine zN 0 sc9 rfl rfl rfl rfl (zA ?_)
 refine zY rfl rfl rfl (c179 fb (quartV n) n (qtxt_V h0 h1 h2)) (sub1 4 rfl) (zA ?_)
 refine zF rfl rfl (zA ?_)
 refine yD rfl rfl rfl (zA ?_)
 refine yD rfl rfl rfl (zA ?_)
 refine yN ze214 rfl (fun b6 => ?_)
 change RunOps _ _ _ _ _ _ _ _ (HA.blk _ [_] _ :: _) _
 refine zA (zS 0 (M' := [HA.blk _ [_] _, _]) rfl rfl rfl rfl si214 rfl rfl rfl ?_)
 refine zA (zE rfl rfl ?_)
 refine zC (zG [6, 5] ?_)
 change Run _ _ _ _ _ [(6, _), (5, _)] _ _
 refine zD (zB ?_)
 refine zA (zF rfl rfl ?_)
 refine zA (zH rfl rfl ?_)
 refine zA (zJ fo213_1 rfl rfl ?_)
 refine zA (zS 1 (M' := [_, HA.blk _ [_, _] _]) rfl rfl rfl rfl si211 rfl rfl rfl ?_)
 refine zC (zD ?_)
 refine zB (zA ?_)
 refine zF rfl rfl (zA ?_)
 refine zE rfl rfl (zC ?_)
 refine xY 0 rfl (by intro b h; cases h) (xY 0 rfl (by intro b h; cases h) ?_)
 exact xC (.fv (ptr b11) (.numF (qw n))) (fun w ok h => ⟨_, _, rfl, dget h 0 rfl, uT (dget h 1 rfl) rfl⟩) (zK Tryz.results135 rfl ⟨rfl, _, rfl, rfl⟩ nS (sub1 0 rfl))
theorem c135I (sp : Value) (nb : Nat) (n : Int) (h1 : -1000000000 < n) (h2 : n < 1000000000) : CtR Tryz.prog 135 #[sp, ptr nb] [.node nb (scal tInt (itoaB n))] (RF (.numI n)) := by
 refine Ct.of_run (args := [sp, ptr nb]) Tryz.func135 (by kernel_rfl) rfl Tryz.ntmps135 rfl (fun c => ?_)
 refine wD 0 rfl (fun A0 cap0 ht0 hv0 hl0 hc0 => ?_)
 refine zD (zB ?_)
 refine zA (zE rfl rfl ?_)
 refine zC (zD ?_)
 refine zB (zA ?_)
 refine xT rfl rfl (bu213 ..) (zA ?_)
 refine xS rfl rfl rfl (fun b11 => ?_)
 refine zA (zE rfl rfl ?_)
 refine zC (zD ?_)
 refine zD (zB ?_)
 refine zA (zF rfl rfl ?_)
 refine zA (zH rfl rfl ?_)
 refine zA (zJ wP rfl rfl ?_)
 refine zA (zN 0 sc146 rfl rfl rfl rfl ?_)
 refine zC (zO ?_)
 refine zD (zB ?_)
 refine zA (yA rfl rfl rfl ?_)
 refine zA (zE rfl rfl ?_)
 refine zC (zG [16, 5, 1] ?_)
 change Run _ _ _ _ _ [(16, _), (5, _), (1, _)] _ _
 refine yG rfl (decide_eq_true rfl) (zD ?_)
 refine zB (zA ?_)
 refine zF rfl rfl (zA ?_)
 refine zH rfl rfl (zA ?_)
 refine zJ tT rfl rfl (zA ?_)
 refine zN 0 sc9 rfl rfl rfl rfl (zC ?_)
 refine zO (zD ?_)
 refine zB (zA ?_)
 refine zZ rfl rfl rfl (zA ?_)
 refine zE rfl rfl (zC ?_)
 refine yE rfl (decide_eq_false (by decide)) (zD ?_)
 refine zB (zA ?_)
 refine zZ rfl rfl rfl (zA ?_)
 refine zE rfl rfl (zC ?_)
 refine yG rfl (decide_eq_true rfl) (zD ?_)
 refine zB (zA ?_)
 refine zF rfl rfl (zA ?_)
 refine zH rfl rfl (zA ?_)
 refine zJ wY rfl rfl (zA ?_)
 refine zN 0 sc9 rfl rfl rfl rfl (zA ?_)
 refine zY rfl rfl rfl (c180 n h1 h2) sub0 (zA ?_)
 refine zF rfl rfl (zA ?_)
 refine yD rfl rfl rfl (zA ?_)
 refine yD rfl rfl rfl (zA ?_)
 refine yN ze2 rfl (fun b8 => ?_)
 change RunOps _ _ _ _ _ _ _ _ (HA.blk _ [_] _ :: _) _
 refine zA (zS 0 (M' := [HA.blk _ [_] _, _]) rfl rfl rfl rfl si2 rfl rfl rfl ?_)
 refine zA (zE rfl rfl ?_)
 refine zC (zG [8, 5] ?_)
 change Run _ _ _ _ _ [(8, _), (5, _)] _ _
 refine zD (zB ?_)
 refine zA (zF rfl rfl ?_)
 refine zA (zH rfl rfl ?_)
 refine zA (zJ fo213_0 rfl rfl ?_)
 refine zA (zS 1 (M' := [_, HA.blk _ [_, _] _]) rfl rfl rfl rfl si114 rfl rfl rfl ?_)
 refine zC (zD ?_)
 refine zB (zA ?_)
 refine zF rfl rfl (zA ?_)
 refine zE rfl rfl (zC ?_)
 refine xY 0 rfl (by intro b h; cases h) (xY 0 rfl (by intro b h; cases h) ?_)
 exact xC (.fv (ptr b11) (.numI n)) (fun w ok h => ⟨_, _, rfl, dget h 0 rfl, uT (dget h 1 rfl) rfl⟩) (zK Tryz.results135 rfl ⟨rfl, _, rfl, rfl⟩ nS (sub1 0 rfl))
theorem c137I (sp : Value) (nb : Nat) (n : Int) (h1 : -1000000000 < n) (h2 : n < 1000000000) : CtR Tryz.prog 137 #[sp, ptr nb] [.node nb (scal tInt (itoaB n))] (RF (.int n)) := by
 refine Ct.of_run (args := [sp, ptr nb]) Tryz.func137 (by kernel_rfl) rfl Tryz.ntmps137 rfl (fun c => ?_)
 refine wD 0 rfl (fun A0 cap0 ht0 hv0 hl0 hc0 => ?_)
 refine zD (zB ?_)
 refine zA (zE rfl rfl ?_)
 refine zC (zD ?_)
 refine zD (zB ?_)
 refine zA (zF rfl rfl ?_)
 refine zA (zH rfl rfl ?_)
 refine zA (zJ wP rfl rfl ?_)
 refine zA (zN 0 sc146 rfl rfl rfl rfl ?_)
 refine zC (zO ?_)
 refine zD (zB ?_)
 refine zA (yA rfl rfl rfl ?_)
 refine zA (zE rfl rfl ?_)
 refine zC (yG rfl (decide_eq_true rfl) ?_)
 refine zD (zB ?_)
 refine zA (zF rfl rfl ?_)
 refine zA (zH rfl rfl ?_)
 refine zA (zJ tT rfl rfl ?_)
 refine zA (zN 0 sc9 rfl rfl rfl rfl ?_)
 refine zC (zG [19, 1] ?_)
 change Run _ _ _ _ _ [(19, _), (1, _)] _ _
 refine zO (zD ?_)
 refine zB (zA ?_)
 refine zZ rfl rfl rfl (zA ?_)
 refine zE rfl rfl (zC ?_)
 refine yE rfl (decide_eq_false (by decide)) (zD ?_)
 refine zB (zA ?_)
 refine zZ rfl rfl rfl (zA ?_)
 refine zE rfl rfl (zC ?_)
 refine yG rfl (decide_eq_true rfl) (zD ?_)
 refine zB (zA ?_)
 refine zF rfl rfl (zA ?_)
 refine zH rfl rfl (zA ?_)
 refine zJ wY rfl rfl (zA ?_)
 refine zN 0 sc9 rfl rfl rfl rfl (zA ?_)
 refine zY rfl rfl rfl (c180 n h1 h2) sub0 (zA ?_)
 refine zF rfl rfl (zA ?_)
 refine yD rfl rfl rfl (zA ?_)
 refine yD rfl rfl rfl (zA ?_)
 refine yN ze2 rfl (fun b8 => ?_)
 change RunOps _ _ _ _ _ _ _ _ (HA.blk _ [_] _ :: _) _
 refine zA (zS 0 (M' := [HA.blk _ [_] _]) rfl rfl rfl rfl si2 rfl rfl rfl ?_)
 refine zA (zE rfl rfl ?_)
 refine zC (zG [8] ?_)
 change Run _ _ _ _ _ [(8, _)] _ _
 refine zD (zB ?_)
 refine zA (zE rfl rfl ?_)
 refine zC (xY 0 rfl (by intro b h; cases h) ?_)
 exact xC (.fv (ptr b8) (.int n)) (fun w ok h => ⟨_, rfl, uT (dget h 0 rfl) rfl⟩) (zK Tryz.results137 rfl ⟨rfl, _, rfl, rfl⟩ nS (sub1 0 rfl))
def DA.and (a b : DA) : DA := ⟨fun w ok => a.p w ok ∧ b.p w ok, fun h1 h2 h => ⟨a.mono h1 h2 h.1, b.mono h1 h2 h.2⟩⟩
theorem Ct.wide {P : Program} {f : FuncId} {args : Array Value} {M : List HA} {D D2 : List DA} {R : Value → List HA → List DA → Prop} (h : Ct P f args M D R) (hs : ∀ (w : World) (ok : Nat → Prop), (∀ d ∈ D2, d.p w ok) → ∀ d ∈ D, d.p w ok) : Ct P f args M D2 R :=
 ⟨h.1, fun w ok hok hM hn hD => h.2 w ok hok hM hn (hs w ok hD)⟩
def ftA (fb : Addr) : DA := .and .tab (ftD fb)
theorem numW (fb : Addr) : NumW (ftA fb) := fun n h1 h2 h0 => Ct.wide (c188 fb n h0 h1 h2) (fun w ok h d hd => by
 have := h (ftA fb) List.mem_cons_self
 simp only [List.mem_cons, List.not_mem_nil, or_false] at hd
 rcases hd with rfl | rfl
 ·exact this.1
 ·exact this.2)
theorem nodeV_int {back : Bool} {x : V} (h : x.kind = 2) : nodeV back x = scal tInt (itoaB x.num) := by rw [vQ]; simp [h]
theorem nodeV_quart {back : Bool} {x : V} (h : x.kind = 6) : nodeV back x = scal tFloat (quartV x.num) := by rw [vQ]; simp [h]
theorem numC (fb : Addr) : NumC (ftA fb) := by
  refine ⟨fun back x hx hk => ?_, fun back x hx hk => ?_⟩
  · obtain ⟨h1, h2⟩ := hk.num (by omega)
    rcases hx with hx | ⟨hx, h0⟩
    · exact uK (nodeV_int hx) (fun sp nb => c135I sp nb _ h1 h2) ⟨rfl, hx, rfl⟩
    · refine bc_lift fun sb nb => ?_
      rw [nodeV_quart hx]
      have h3 : CtR Tryz.prog 135 #[ptr sb, ptr nb] [.node nb (scal tFloat (quartV x.num)), ftA fb] (RF (.numF (qw x.num))) := Ct.wide (c135F fb (ptr sb) nb x.num h0 h1 h2) (fun w ok h d hd => by
        have h4 := h (ftA fb) (by simp)
        simp only [List.mem_cons, List.not_mem_nil, or_false] at hd
        rcases hd with rfl | rfl | rfl
        · exact h _ List.mem_cons_self
        · exact h4.1
        · exact h4.2)
      exact h3.mono (by rintro u D' ⟨p, rfl, rfl⟩; exact ⟨p, _, rfl, rfl, rfl, hx, rfl⟩)
  · obtain ⟨h1, h2⟩ := hk.num (by omega)
    exact uK (nodeV_int hx) (fun sp nb => c137I sp nb _ h1 h2) ⟨rfl, rfl⟩
end Go.Jw

namespace Go.Jw
open Go Go.RowKit Go.Proofs
set_option maxRecDepth 8000
def RVT (t : V) (r : Value) (D' : List DA) : Prop := ∃ x, r = .tuple #[x, .bool true] ∧ RV t x D'
section rules
variable {P : Program} {n : Nat} {F : List Nat} {c : Ctx F} {ops : Array Oper} {d : Nat} {T : TypeId} {l : List Oper} {k : List KI} {Q : Post} {e : Env} {M : List HA} {D : List DA}
variable {x y : Operand} {S S' : TypeId}
theorem st_eqlNN (hS : P.underlying S = some (.interface (P.methodsAt S))) (hx : ev e x = some .nilIface) : St P n c (.binOp .eql S x (.const .nilIface) S') T e M D (.bool true) :=
 fun _ a w hf => by
  have h1 := run_eql_nil_nil (P := P) (w := w) S hS
  have h2 : a.eval (.const .nilIface) = .nilIface := rfl
  simp only [execOp, opr, hf.ev hx, h2, eqGuard_nil_constR, Sem.run_bind, Sem.run_pure, Result.andThen_ok, h1]
end rules

theorem c166s (b : Nat) (s : ByteArray) : CtR Tryz.prog 166 #[ptr b] [.node b (scal tStr s)] (RVT (.mk 3 0 s [] [])) := by
 refine Ct.of_run (args := [ptr b]) Tryz.func166 (by kernel_rfl) rfl Tryz.ntmps166 rfl (fun c => ?_)
 refine wD 0 rfl (fun A0 cap0 ht0 hv0 hl0 hc0 => ?_)
 refine zD (zB ?_)
 refine zA (yN ze25 rfl (fun b2 => ?_))
 change RunOps _ _ _ _ _ _ _ _ (HA.blk _ [_, _, _, _, _] _ :: _) _
 refine zA (zE rfl rfl ?_)
 refine zC (zD ?_)
 refine zD (zB ?_)
 refine zA (zF rfl rfl ?_)
 refine zA (zH rfl rfl ?_)
 refine zA (zJ tT rfl rfl ?_)
 refine zA (zN 0 sc9 rfl rfl rfl rfl ?_)
 refine zC (zO ?_)
 refine zD (zB ?_)
 refine zA (zZ rfl rfl rfl ?_)
 refine zA (zE rfl rfl ?_)
 refine zC (yG rfl (decide_eq_true rfl) ?_)
 refine zD (zB ?_)
 refine zA (zF rfl rfl ?_)
 refine zA (zH rfl rfl ?_)
 refine zA (zJ wY rfl rfl ?_)
 refine zA (zN 0 sc9 rfl rfl rfl rfl ?_)
 refine zA (xT rfl rfl (bu25_0_2 ..) ?_)
 refine zA (zS 0 (M' := [HA.blk _ [_, _, _, _, _] _]) rfl rfl rfl rfl si25 rfl rfl rfl ?_)
 refine zA (zE rfl rfl ?_)
 refine zC (zG [3, 2] ?_)
 change Run _ _ _ _ _ [(3, _), (2, _)] _ _
 refine tZ (sU ?_)
 exact uB 1 0 rfl rfl (s := s) (q := 3) (m := 0) hv0 (vK 0 Tryz.results166 rfl rfl rfl ag25 ⟨rfl, _, rfl, none, 0, none, 0, rfl, rfl⟩ nS (sub1 0 rfl))
theorem c166t (b : Nat)  : CtR Tryz.prog 166 #[ptr b] [.node b (scal tBool (fbB true))] (RVT (.mk 1 1 ⟨#[]⟩ [] [])) := by
 refine Ct.of_run (args := [ptr b]) Tryz.func166 (by kernel_rfl) rfl Tryz.ntmps166 rfl (fun c => ?_)
 refine wD 0 rfl (fun A0 cap0 ht0 hv0 hl0 hc0 => ?_)
 refine zD (zB ?_)
 refine zA (yN ze25 rfl (fun b2 => ?_))
 change RunOps _ _ _ _ _ _ _ _ (HA.blk _ [_, _, _, _, _] _ :: _) _
 refine zA (zE rfl rfl ?_)
 refine zC (zD ?_)
 refine zD (zB ?_)
 refine zA (zF rfl rfl ?_)
 refine zA (zH rfl rfl ?_)
 refine zA (zJ tT rfl rfl ?_)
 refine zA (zN 0 sc9 rfl rfl rfl rfl ?_)
 refine zC (zO ?_)
 refine zD (zB ?_)
 refine zA (zZ rfl rfl rfl ?_)
 refine zA (zE rfl rfl ?_)
 refine zC (yE rfl (decide_eq_false (by decide)) ?_)
 refine zD (zB ?_)
 refine zA (zZ rfl rfl rfl ?_)
 refine zA (zE rfl rfl ?_)
 refine zC (yG rfl (decide_eq_true rfl) ?_)
 refine zD (zB ?_)
 refine zA (zE rfl rfl ?_)
 refine zC (zG [4, 2, 0] ?_)
 change Run _ _ _ _ _ [(4, _), (2, _), (0, _)] _ _
 refine zD (zD ?_)
 refine zB (zA ?_)
 refine zF rfl rfl (zA ?_)
 refine zH rfl rfl (zA ?_)
 refine zJ wY rfl rfl (zA ?_)
 refine zN 0 sc9 rfl rfl rfl rfl (zA ?_)
 refine zZ rfl rfl rfl (zC ?_)
 refine yG rfl (rfl) (zB ?_)
 refine zA (zE rfl rfl ?_)
 refine zC (zD ?_)
 refine wH xQ (yO ?_)
 refine tP 0 rfl wanted0 (yS rfl) (tP 2 rfl wanted0 (yS rfl) ?_)
 refine tP 3 rfl wanted0 (wG rfl) (tP 4 rfl wanted0 (yT wY rfl) ?_)
 refine xE (tM 1 rfl wanted0 (rB rfl (bu25_0_1 ..)) ?_)
 refine any_grpD (any_takeD 5 (wO _ _ _ _) rfl wanted0 (by decide +kernel) (by decide +kernel) (by decide +kernel) rfl (tD 0 sc9 rfl rfl rfl) ?_)
 refine yO (tP 6 rfl wanted0 (st_seql rfl rfl) ?_)
 refine tP 7 rfl wanted0 (yS rfl) (any_knowT (s := 34) rfl (rfl) ?_)
 refine rT 8 (wO _ _ _ _) rfl rfl rfl rfl (by decide +kernel) (by decide +kernel) (by decide +kernel) rfl (rT 9 (wO _ _ _ _) rfl rfl rfl rfl (by decide +kernel) (by decide +kernel) (by decide +kernel) rfl ?_)
 refine rT 10 (wO _ _ _ _) rfl rfl rfl rfl (by decide +kernel) (by decide +kernel) (by decide +kernel) rfl (rT 11 (wO _ _ _ _) rfl rfl rfl rfl (by decide +kernel) (by decide +kernel) (by decide +kernel) rfl ?_)
 refine rT 12 (wO _ _ _ _) rfl rfl rfl rfl (by decide +kernel) (by decide +kernel) (by decide +kernel) rfl (tP 13 rfl wanted0 (st_pick rfl rfl) ?_)
 refine yF 14 (by decide +kernel) ?_
 refine yH (I2 := [[13, 12, 11, 10, 9, 8], [], [], [], []]) rfl wanted0 (by decide +kernel) (fun Kd hKd => ?_)
 refine zS 0 (M' := [HA.blk _ [_, _, _, _, _] _]) rfl rfl rfl rfl si25 rfl rfl rfl (hKd _ _ _ (hC (zP (zP (zP (zP (yI)))))) ?_)
 refine tP 15 rfl wanted0 (wK rfl) (xP (by decide +kernel) ?_)
 refine zG [3, 2] ?_
 change Run _ _ _ _ _ [(3, _), (2, _)] _ _
 refine tZ (sU ?_)
 exact uB 1 0 rfl rfl (s := ⟨#[]⟩) (q := 1) (m := 1) (by decide) (vK 0 Tryz.results166 rfl rfl rfl ag25 ⟨rfl, _, rfl, none, 0, none, 0, rfl, rfl⟩ nS (sub1 0 rfl))
theorem c166f (b : Nat)  : CtR Tryz.prog 166 #[ptr b] [.node b (scal tBool (fbB false))] (RVT (.mk 1 0 ⟨#[]⟩ [] [])) := by
 refine Ct.of_run (args := [ptr b]) Tryz.func166 (by kernel_rfl) rfl Tryz.ntmps166 rfl (fun c => ?_)
 refine wD 0 rfl (fun A0 cap0 ht0 hv0 hl0 hc0 => ?_)
 refine zD (zB ?_)
 refine zA (yN ze25 rfl (fun b2 => ?_))
 change RunOps _ _ _ _ _ _ _ _ (HA.blk _ [_, _, _, _, _] _ :: _) _
 refine zA (zE rfl rfl ?_)
 refine zC (zD ?_)
 refine zD (zB ?_)
 refine zA (zF rfl rfl ?_)
 refine zA (zH rfl rfl ?_)
 refine zA (zJ tT rfl rfl ?_)
 refine zA (zN 0 sc9 rfl rfl rfl rfl ?_)
 refine zC (zO ?_)
 refine zD (zB ?_)
 refine zA (zZ rfl rfl rfl ?_)
 refine zA (zE rfl rfl ?_)
 refine zC (yE rfl (decide_eq_false (by decide)) ?_)
 refine zD (zB ?_)
 refine zA (zZ rfl rfl rfl ?_)
 refine zA (zE rfl rfl ?_)
 refine zC (yG rfl (decide_eq_true rfl) ?_)
 refine zD (zB ?_)
 refine zA (zE rfl rfl ?_)
 refine zC (zG [4, 2, 0] ?_)
 change Run _ _ _ _ _ [(4, _), (2, _), (0, _)] _ _
 refine zD (zD ?_)
 refine zB (zA ?_)
 refine zF rfl rfl (zA ?_)
 refine zH rfl rfl (zA ?_)
 refine zJ wY rfl rfl (zA ?_)
 refine zN 0 sc9 rfl rfl rfl rfl (zA ?_)
 refine zZ rfl rfl rfl (zC ?_)
 refine yE rfl (rfl) (zL ?_)
 refine zD (wH xQ ?_)
 refine yO (tP 0 rfl wanted0 (yS rfl) ?_)
 refine tP 2 rfl wanted0 (yS rfl) (tP 3 rfl wanted0 (wG rfl) ?_)
 refine tP 4 rfl wanted0 (yT wY rfl) (xE ?_)
 refine tM 1 rfl wanted0 (rB rfl (bu25_0_1 ..)) (any_grpD ?_)
 refine any_takeD 5 (wO _ _ _ _) rfl wanted0 (by decide +kernel) (by decide +kernel) (by decide +kernel) rfl (tD 0 sc9 rfl rfl rfl) (yO ?_)
 refine tP 6 rfl wanted0 (st_seql rfl rfl) (tP 7 rfl wanted0 (yS rfl) ?_)
 refine any_knowF (s := 34) rfl (rfl) (tP 8 rfl (wanted1 rfl rfl) (yS rfl) ?_)
 refine tP 9 rfl (wanted1 rfl rfl) (wG rfl) (tP 10 rfl (wanted1 rfl rfl) (yT wY rfl) ?_)
 refine any_grpD (any_takeD 11 (wO _ _ _ _) rfl (wanted1 rfl rfl) (by decide +kernel) (by decide +kernel) (by decide +kernel) rfl (tD 0 sc9 rfl rfl rfl) ?_)
 refine yO (tP 12 rfl (wanted1 rfl rfl) (st_seql rfl rfl) ?_)
 refine tP 13 rfl wanted0 (st_pick rfl rfl) (yF 14 (by decide +kernel) ?_)
 refine yH (I2 := [[13, 12], [11], [10, 9, 8], [], [], [], []]) rfl wanted0 (by decide +kernel) (fun Kd hKd => ?_)
 refine zS 0 (M' := [HA.blk _ [_, _, _, _, _] _]) rfl rfl rfl rfl si25 rfl rfl rfl (hKd _ _ _ (hC (hC (hC (zP (zP (zP (zP (yI)))))))) ?_)
 refine tP 15 rfl wanted0 (wK rfl) (xP (by decide +kernel) ?_)
 refine zG [3, 2] ?_
 change Run _ _ _ _ _ [(3, _), (2, _)] _ _
 refine tZ (sU ?_)
 exact uB 1 0 rfl rfl (s := ⟨#[]⟩) (q := 1) (m := 0) (by decide) (vK 0 Tryz.results166 rfl rfl rfl ag25 ⟨rfl, _, rfl, none, 0, none, 0, rfl, rfl⟩ nS (sub1 0 rfl))
theorem c166n (b : Nat)  : CtR Tryz.prog 166 #[ptr b] [.node b (scal tNull sNull)] (RVT (.mk 0 0 ⟨#[]⟩ [] [])) := by
 refine Ct.of_run (args := [ptr b]) Tryz.func166 (by kernel_rfl) rfl Tryz.ntmps166 rfl (fun c => ?_)
 refine wD 0 rfl (fun A0 cap0 ht0 hv0 hl0 hc0 => ?_)
 refine zD (zB ?_)
 refine zA (yN ze25 rfl (fun b2 => ?_))
 change RunOps _ _ _ _ _ _ _ _ (HA.blk _ [_, _, _, _, _] _ :: _) _
 refine zA (zE rfl rfl ?_)
 refine zC (zD ?_)
 refine zD (zB ?_)
 refine zA (zF rfl rfl ?_)
 refine zA (zH rfl rfl ?_)
 refine zA (zJ tT rfl rfl ?_)
 refine zA (zN 0 sc9 rfl rfl rfl rfl ?_)
 refine zC (zO ?_)
 refine zD (zB ?_)
 refine zA (zZ rfl rfl rfl ?_)
 refine zA (zE rfl rfl ?_)
 refine zC (yE rfl (decide_eq_false (by decide)) ?_)
 refine zD (zB ?_)
 refine zA (zZ rfl rfl rfl ?_)
 refine zA (zE rfl rfl ?_)
 refine zC (yE rfl (decide_eq_false (by decide)) ?_)
 refine zD (zB ?_)
 refine zA (zZ rfl rfl rfl ?_)
 refine zA (zE rfl rfl ?_)
 refine zC (zG [41, 12, 2, 0] ?_)
 change Run _ _ _ _ _ [(41, _), (12, _), (2, _), (0, _)] _ _
 refine yG rfl (decide_eq_true rfl) (zD ?_)
 refine zB (zA ?_)
 refine xT rfl rfl (bu25 ..) (zA ?_)
 refine zS 0 (M' := [HA.blk _ [_, _, _, _, _] _]) rfl rfl rfl rfl si25 rfl rfl rfl (zA ?_)
 refine zE rfl rfl (zC ?_)
 refine tZ (sU ?_)
 exact uB 1 0 rfl rfl (s := ⟨#[]⟩) (q := 0) (m := 0) (by decide) (vK 0 Tryz.results166 rfl rfl rfl ag25 ⟨rfl, _, rfl, none, 0, none, 0, rfl, rfl⟩ nS (sub1 0 rfl))
theorem c166i (b : Nat) (n : Int) (h1 : -1000000000 < n) (h2 : n < 1000000000) : CtR Tryz.prog 166 #[ptr b] [.node b (scal tInt (itoaB n))] (RVT (.mk 2 n ⟨#[]⟩ [] [])) := by
 refine Ct.of_run (args := [ptr b]) Tryz.func166 (by kernel_rfl) rfl Tryz.ntmps166 rfl (fun c => ?_)
 refine wD 0 rfl (fun A0 cap0 ht0 hv0 hl0 hc0 => ?_)
 refine zD (zB ?_)
 refine zA (yN ze25 rfl (fun b2 => ?_))
 change RunOps _ _ _ _ _ _ _ _ (HA.blk _ [_, _, _, _, _] _ :: _) _
 refine zA (zE rfl rfl ?_)
 refine zC (zD ?_)
 refine zD (zB ?_)
 refine zA (zF rfl rfl ?_)
 refine zA (zH rfl rfl ?_)
 refine zA (zJ tT rfl rfl ?_)
 refine zA (zN 0 sc9 rfl rfl rfl rfl ?_)
 refine zC (zO ?_)
 refine zD (zB ?_)
 refine zA (zZ rfl rfl rfl ?_)
 refine zA (zE rfl rfl ?_)
 refine zC (yE rfl (decide_eq_false (by decide)) ?_)
 refine zD (zB ?_)
 refine zA (zZ rfl rfl rfl ?_)
 refine zA (zE rfl rfl ?_)
 refine zC (yE rfl (decide_eq_false (by decide)) ?_)
 refine zD (zB ?_)
 refine zA (zZ rfl rfl rfl ?_)
 refine zA (zE rfl rfl ?_)
 refine zC (zG [41, 12, 2, 0] ?_)
 change Run _ _ _ _ _ [(41, _), (12, _), (2, _), (0, _)] _ _
 refine yE rfl (decide_eq_false (by decide)) (zD ?_)
 refine zB (zA ?_)
 refine zZ rfl rfl rfl (zA ?_)
 refine zE rfl rfl (zC ?_)
 refine yG rfl (decide_eq_true rfl) (zD ?_)
 refine zB (zA ?_)
 refine zF rfl rfl (zA ?_)
 refine zH rfl rfl (zA ?_)
 refine zJ wY rfl rfl (zA ?_)
 refine zN 0 sc9 rfl rfl rfl rfl (zA ?_)
 refine zY rfl rfl rfl (c180 n h1 h2) sub0 (zA ?_)
 refine zF rfl rfl (zA ?_)
 refine yD rfl rfl rfl (zA ?_)
 refine yD rfl rfl rfl (zA ?_)
 refine zE rfl rfl (zA ?_)
 refine zE rfl rfl (zC ?_)
 refine zG [6, 5, 2] ?_
 change Run _ _ _ _ _ [(6, _), (5, _), (2, _)] _ _
 refine zD (wH xQ ?_)
 refine yO (tP 0 rfl wanted0 (yS rfl) ?_)
 refine tP 2 rfl wanted0 (yS rfl) (xE ?_)
 refine tM 1 rfl wanted0 (rB rfl (bu25_0_1 ..)) (yO ?_)
 refine tP 3 rfl wanted0 (st_eqlNN if77 rfl) (yF 4 (by decide +kernel) ?_)
 refine yH (I2 := [[3], [], [2], []]) rfl wanted0 (by decide +kernel) (fun Kd hKd => ?_)
 refine zS 0 (M' := [HA.blk _ [_, _, _, _, _] _]) rfl rfl rfl rfl si25 rfl rfl rfl (hKd _ _ _ (hC (zP (hC (zP (yI))))) ?_)
 refine tP 5 rfl wanted0 (wK rfl) (xP (by decide +kernel) ?_)
 refine tZ (sU ?_)
 exact uB 1 0 rfl rfl (s := ⟨#[]⟩) (q := 2) (m := n) (by decide) (vK 0 Tryz.results166 rfl rfl rfl ag25 ⟨rfl, _, rfl, none, 0, none, 0, rfl, rfl⟩ nS (sub1 0 rfl))
theorem c166q (fb : Addr) (b : Nat) (n : Int) (h0 : n.tmod 4 ≠ 0) (h1 : -1000000000 < n) (h2 : n < 1000000000) : CtR Tryz.prog 166 #[ptr b] [.node b (scal tFloat (quartF n)), ftD fb] (RVT (.mk 6 n ⟨#[]⟩ [] [])) := by
 refine Ct.of_run (args := [ptr b]) Tryz.func166 (by kernel_rfl) rfl Tryz.ntmps166 rfl (fun c => ?_)
 refine wD 0 rfl (fun A0 cap0 ht0 hv0 hl0 hc0 => ?_)
 have hz : n ≠ 0 := fun h => by subst h; exact h0 rfl
 have hd4 : -1000000000 < n.tdiv 4 ∧ n.tdiv 4 < 1000000000 := by have := Int.mul_tdiv_add_tmod n 4; have h5 : (n.tdiv 4).natAbs = n.natAbs / 4 := Int.natAbs_tdiv n 4; omega
 refine zD (zB ?_)
 refine zA (yN ze25 rfl (fun b2 => ?_))
 change RunOps _ _ _ _ _ _ _ _ (HA.blk _ [_, _, _, _, _] _ :: _) _
 refine zA (zE rfl rfl ?_)
 refine zC (zD ?_)
 refine zD (zB ?_)
 refine zA (zF rfl rfl ?_)
 refine zA (zH rfl rfl ?_)
 refine zA (zJ tT rfl rfl ?_)
 refine zA (zN 0 sc9 rfl rfl rfl rfl ?_)
 refine zC (zO ?_)
 refine zD (zB ?_)
 refine zA (zZ rfl rfl rfl ?_)
 refine zA (zE rfl rfl ?_)
 refine zC (yE rfl (decide_eq_false (by decide)) ?_)
 refine zD (zB ?_)
 refine zA (zZ rfl rfl rfl ?_)
 refine zA (zE rfl rfl ?_)
 refine zC (yE rfl (decide_eq_false (by decide)) ?_)
 refine zD (zB ?_)
 refine zA (zZ rfl rfl rfl ?_)
 refine zA (zE rfl rfl ?_)
 refine zC (zG [41, 12, 2, 0] ?_)
 change Run _ _ _ _ _ [(41, _), (12, _), (2, _), (0, _)] _ _
 refine yE rfl (decide_eq_false (by decide)) (zD ?_)
 refine zB (zA ?_)
 refine zZ rfl rfl rfl (zA ?_)
 refine zE rfl rfl (zC ?_)
 refine yE rfl (decide_eq_false (by decide)) (zD ?_)
 refine zB (zA ?_)
 refine zZ rfl rfl rfl (zA ?_)
 refine zE rfl rfl (zC ?_)
 refine yG rfl (decide_eq_true rfl) (zD ?_)
 refine zB (zA ?_)
 refine zF rfl rfl (zA ?_)
 refine zH rfl rfl (zA ?_)
 refine zJ wY rfl rfl (zA ?_)
 refine zN 0 sc9 rfl rfl rfl rfl (zA ?_)
 refine zY rfl rfl rfl (c179 fb (quartF n) n (qtxt_F h0 h1 h2)) (sub1 3 rfl) (zA ?_)
 refine zF rfl rfl (zA ?_)
 refine yD rfl rfl rfl (zA ?_)
 refine yD rfl rfl rfl (zA ?_)
 refine zE rfl rfl (zA ?_)
 refine zE rfl rfl (zC ?_)
 refine zG [8, 7, 2] ?_
 change Run _ _ _ _ _ [(8, _), (7, _), (2, _)] _ _
 refine zD (zD ?_)
 refine zB (zA ?_)
 refine zF rfl rfl (zA ?_)
 refine op_neqNN if77 rfl rfl (zA ?_)
 refine zF rfl rfl (vG (s := 70) rfl (rfl) ?_)
 refine zM rfl rfl (zF rfl rfl ?_)
 refine zM rfl rfl (op_flss rfl rfl rfl (b := false) (by rw [← c_1e12n, qw_big hz h1 h2]; rfl) ?_)
 refine zA (zR rfl rfl rfl ?_)
 refine zA (zF rfl rfl ?_)
 refine vG (s := 74) rfl (rfl) (zM rfl rfl ?_)
 refine zF rfl rfl (zM rfl rfl ?_)
 refine op_fgtr rfl rfl rfl (b := false) (by rw [← c_1e12, qw_big hz h1 h2]; rfl) (zA ?_)
 refine zR rfl rfl rfl (zA ?_)
 refine zF rfl rfl (vG (s := 78) rfl (rfl) ?_)
 refine zM rfl rfl (zF rfl rfl ?_)
 refine zM rfl rfl (op_fmul rfl rfl rfl (by rw [← c_4]; exact qw_mul4 hz h1 h2) ?_)
 refine zM rfl rfl (zF rfl rfl ?_)
 refine zM rfl rfl (op_fmul rfl rfl rfl (by rw [← c_4]; exact qw_mul4 hz h1 h2) ?_)
 refine zM rfl rfl (op_convFI (by rw [Tryz.underlying214]; rfl) Tryz.underlying2 rfl rfl (q4_int hz h1 h2) (by show (-9223372036854775808 : Int) ≤ _; omega) (by show _ ≤ (9223372036854775807 : Int); omega) ?_)
 refine zM rfl rfl (op_convIF (by rw [Tryz.underlying2]; rfl) Tryz.underlying214 rfl rfl ?_)
 refine zM rfl rfl (op_fneq rfl rfl rfl (b := false) (by rw [q4_eq hz h1 h2]; rfl) ?_)
 refine zA (zR rfl rfl rfl ?_)
 refine zC (zG [86, 7, 2] ?_)
 change Run _ _ _ _ _ [(86, _), (7, _), (2, _)] _ _
 refine yE rfl (rfl) (zL ?_)
 refine zD (zD ?_)
 refine zB (zA ?_)
 refine zF rfl rfl (zA ?_)
 refine zF rfl rfl (zA ?_)
 refine op_convFI (by rw [Tryz.underlying214]; rfl) Tryz.underlying2 rfl rfl (qw_int hz h1 h2) (by show (-9223372036854775808 : Int) ≤ _; omega) (by show _ ≤ (9223372036854775807 : Int); omega) (zA ?_)
 refine op_convIF (by rw [Tryz.underlying2]; rfl) Tryz.underlying214 rfl rfl (zA ?_)
 refine op_feql rfl rfl rfl (b := false) (by rw [beq_eq_false_iff_ne]; exact qw_ne hz h1 h2 h0) (zC ?_)
 refine yE rfl (rfl) (zL ?_)
 refine zD (zB ?_)
 refine zA (zF rfl rfl ?_)
 refine zA (op_fmul rfl rfl rfl (by rw [← c_4]; exact qw_mul4 hz h1 h2) ?_)
 refine zA (op_convFI (by rw [Tryz.underlying214]; rfl) Tryz.underlying2 rfl rfl (q4_int hz h1 h2) (by show (-9223372036854775808 : Int) ≤ _; omega) (by show _ ≤ (9223372036854775807 : Int); omega) ?_)
 refine zA (xT rfl rfl (bu25_0_1 ..) ?_)
 refine zA (zS 0 (M' := [HA.blk _ [_, _, _, _, _] _]) rfl rfl rfl rfl si25 rfl rfl rfl ?_)
 refine zA (zE rfl rfl ?_)
 refine zC (zG [3, 2] ?_)
 change Run _ _ _ _ _ [(3, _), (2, _)] _ _
 refine tZ (sU ?_)
 exact uB 1 0 rfl rfl (s := ⟨#[]⟩) (q := 6) (m := n) (by decide) (vK 0 Tryz.results166 rfl rfl rfl ag25 ⟨rfl, _, rfl, none, 0, none, 0, rfl, rfl⟩ nS (sub1 0 rfl))
end Go.Jw

namespace Go.Jw
open Go Go.RowKit Go.Proofs
set_option maxRecDepth 8000
open Go.Sort (SWO)
section rules
variable {P : Program} {n : Nat} {F : List Nat} {c : Ctx F} {ops : Array Oper} {d : Nat} {T : TypeId} {l : List Oper} {k : List KI} {Q : Post} {e : Env} {M : List HA} {D : List DA}
theorem ops_frBlk (i : Nat) {b : Nat} {cs : List Value} {U : TypeId} (hi : M[i]? = some (.blk b cs U)) (hF : F = []) (next : RunOps P n c ops l k Q e (M.eraseIdx i) (.dblk b cs U :: D)) : RunOps P n c ops l k Q e M D :=
  ops_freeze (h := .blk b cs U) [.dblk b cs U] (fun x _ h => by rw [hF] at h; cases h) (vS hi) (fun w ok h hok hD d hd => by
    rcases List.mem_singleton.1 hd with rfl
    exact ⟨hok _ (by simp [HA.foot]), h⟩) next
theorem op_idxRow (i : Nat) {x y : Operand} {A : Option Addr} {m cap j : Nat} {kd : IntKind} {S E sz by_ U : Nat} {xs : List Value} (hS : SliceOf P S E sz by_) (hd : Nat.blt d n = true) (hx : ev e x = some (.slice A m cap)) (hy : ev e y = some (.int kd (j : Nat))) (hi : M[i]? = some (.row A m cap U 1 xs)) (hj : j < m)
  (next : RunOps P n c ops l k Q ((d, .pointer (some (At A (j * sz)))) :: e) M D) : RunOp P n c ops (some d) (.indexAddr S x y) T l k Q e M D := by
 intro a w hf
 obtain ⟨_, _, h3⟩ := uW (hf.toFitsW.mem hi)
 have hl : xs.length = m := by have := (hf.toFitsW.mem hi : (HA.row A m cap U 1 xs).holds w).1; omega
 obtain ⟨a', ha, _⟩ := h3 j xs[j] (List.getElem?_eq_getElem (by omega))
 subst ha
 exact wU hS hd hx hy hj next a w hf
end rules
abbrev encE (x : Nat) : Value := encN (2 * x)
def vals (ys : List Y) : List ByteArray := ys.map Y.val
theorem rangeE_snoc (i : Nat) : (List.range i).map encE ++ [encE i] = (List.range (i + 1)).map encE := by rw [List.range_succ, List.map_append]; rfl
theorem rangeE (n : Nat) : (List.range n).map encE = ((List.range n).map (2 * ·)).map encN := by rw [List.map_map]; rfl
theorem c107len {ks : List ByteArray} {us : List V} (hl : ks.length = us.length) : (ks.zip (us.map outY)).length = us.length := by rw [List.length_zip, List.length_map]; omega
theorem c107key {ks : List ByteArray} {us : List V} (hl : ks.length = us.length) {i : Nat} (h : i < us.length) : ((ks.zip (us.map outY)).flatMap prY)[2 * i]? = some (scal tStr (ks.getD i ⟨#[]⟩)) := by
 rw [flat_get0 (by rw [c107len hl]; exact h), List.getElem_zip, uM (by omega)]
theorem c107val {ks : List ByteArray} {us : List V} (hl : ks.length = us.length) {i : Nat} (h : i < us.length) : ((ks.zip (us.map outY)).flatMap prY)[2 * i + 1]? = some (outY (us[i])) := by
 rw [flat_get1 (by rw [c107len hl]; exact h), List.getElem_zip, List.getElem_map]
theorem halves {ks : List ByteArray} {us : List V} (hl : ks.length = us.length) {ds : List Nat} (hp : ds.Perm ((List.range us.length).map (2 * ·))) (hs : ds.Pairwise (fun x y => ltK (vals ((ks.zip (us.map outY)).flatMap prY)) y x = false)) :
  ∃ es : List Nat, es.Perm (List.range us.length) ∧ es.Pairwise (fun x y => ltK ks y x = false) ∧ ds.map encN = es.map encE := by
 have hev : ∀ x ∈ ds, ∃ y, y < us.length ∧ x = 2 * y := fun x hx => by
  obtain ⟨y, hy, rfl⟩ := List.mem_map.1 (hp.mem_iff.1 hx)
  exact ⟨y, List.mem_range.1 hy, rfl⟩
 have hkey : ∀ y, y < us.length → (vals ((ks.zip (us.map outY)).flatMap prY)).getD (2 * y) ⟨#[]⟩ = ks.getD y ⟨#[]⟩ := fun y hy => by
  unfold vals
  rw [List.getD_eq_getElem?_getD, List.getElem?_map, c107key hl hy]
  rfl
 refine ⟨ds.map (· / 2), ?_, ?_, ?_⟩
 ·have := hp.map (· / 2)
  rw [List.map_map] at this
  have e : ((fun x => x / 2) ∘ fun x => 2 * x) = (id : Nat → Nat) := by funext x; simp only [Function.comp, id]; omega
  rwa [e, List.map_id] at this
 ·rw [List.pairwise_map]
  refine hs.imp_of_mem fun {x y} hx hy h => ?_
  obtain ⟨a, ha, rfl⟩ := hev x hx
  obtain ⟨b, hb, rfl⟩ := hev y hy
  unfold ltK at h ⊢
  rw [hkey a ha, hkey b hb] at h
  rw [show 2 * a / 2 = a by omega, show 2 * b / 2 = b by omega]
  exact h
 ·rw [List.map_map]
  refine List.map_congr_left fun x hx => ?_
  obtain ⟨y, _, rfl⟩ := hev x hx
  show encN (2 * y) = encN (2 * (2 * y / 2))
  congr 1
  omega
set_option maxHeartbeats 2000000 in
theorem less167 (W : World) (keys : List ByteArray) (dk : List Nat) (b1 nb b9 b n c m : Nat) (ka : Addr) (kc : Nat) (hn1 : W.cell? ⟨b1, 0, none⟩ = some (ptr nb)) (hks : W.cell? ⟨nb, 6, none⟩ = some (.slice (some ka) m kc)) (hm : m = keys.length) (hps : W.cell? ⟨b9, 0, none⟩ = some (.slice (some ⟨b, 0, none⟩) n c)) (hn : dk.length = n)
  (hdk : ∀ j x, dk[j]? = some x → W.cell? ⟨b, j, none⟩ = some (encN x)) (hkk : ∀ j s, keys[j]? = some s → ∃ q, W.cell? (ka.add j) = some (ptr q) ∧ W.cell? ⟨q, 3, none⟩ = some (.string s)) (hlt : ∀ x ∈ dk, x < keys.length) (i j : Nat) (hi : i < dk.length) (hj : j < dk.length) :
  Calls Tryz.prog 167 #[.int .i64 i, .int .i64 j, ptr b1, ptr b9] W fun e w' => e = .returned (.bool (ltK keys dk[i] dk[j])) ∧ ∃ q, w' = W.drewN q := by
 have hxi := hlt _ (List.getElem_mem hi)
 have hxj := hlt _ (List.getElem_mem hj)
 have ci := hdk i _ (List.getElem?_eq_getElem hi)
 have cj := hdk j _ (List.getElem?_eq_getElem hj)
 obtain ⟨qi, ki, vi⟩ := hkk _ _ (List.getElem?_eq_getElem hxi)
 obtain ⟨qj, kj, vj⟩ := hkk _ _ (List.getElem?_eq_getElem hxj)
 have hin : i < n := by omega
 have hjn : j < n := by omega
 have him : dk[i] < m := by omega
 have hjm : dk[j] < m := by omega
 have hlk : ltK keys dk[i] dk[j] = Op.bytesLess keys[dk[i]].toList keys[dk[j]].toList := by
  unfold ltK
  rw [less_lt, uM hxi, uM hxj, sX, sX]
 go_enter Tryz.func167, Tryz.ntmps167
 go_wp2
 go_quiet (fail)
 go_wp2
 go_ret
 refine ⟨?_, nq, rfl⟩
 rw [hlk]
 rfl
theorem fun167 : Fun Tryz.prog 167 := ⟨_, Tryz.func167, by kernel_rfl, rfl⟩
theorem less_okE (ys : List Y) (A : Option Addr) (m ca nb b1 b9 pb n c9 : Nat) (t v : ByteArray) (k : Int) (hm : m = ys.length) : ∀ (W : World) (dk : List Nat), dk.length = n → (∀ x ∈ dk, x < ys.length) → (∀ x ∈ [HA.blk b9 [.slice (some ⟨pb, 0, none⟩) n c9] 139], x.holds W) → (∀ j x, dk[j]? = some x → W.cell? ⟨pb, j, none⟩ = some (encN x)) →
  (∃ ok, ∀ d ∈ [DA.dblk b1 [ptr nb] 102, .dblk nb (ycells k t v A m ca) 150, .kids (.slice A m ca) ys], d.p W ok) → ∀ (i j : Nat) (hi : i < dk.length) (hj : j < dk.length),
   Calls Tryz.prog 167 (#[.int .i64 i, .int .i64 j] ++ #[ptr b1, ptr b9]) W fun e w' => e = .returned (.bool (ltK (vals ys) dk[i] dk[j])) ∧ ∃ q, w' = W.drewN q := by
 intro W dk hn hlt hM hdk hD i j hi hj
 obtain ⟨ok, hD⟩ := hD
 have h1 : BlkP W ok b1 [ptr nb] 102 := hD _ List.mem_cons_self
 have h2 : BlkP W ok nb (ycells k t v A m ca) 150 := hD _ (List.mem_cons_of_mem _ List.mem_cons_self)
 obtain ⟨A', c', hv, _, _, hk⟩ : KidsV W ok (.slice A m ca) ys := hD _ (List.mem_cons_of_mem _ (List.mem_cons_of_mem _ List.mem_cons_self))
 injection hv with e1 e2 e3
 subst e1; subst e3
 have hkid : ∀ (x : Nat) (y : Y), ys[x]? = some y → ∃ a b, A = some a ∧ ok a.block ∧ W.cell? (a.add x) = some (ptr b) ∧ NodeP W ok y b := fun x y hx => by
  have := hk.get hx
  simpa using this
 obtain ⟨a, _, rfl, _⟩ := hkid _ _ (List.getElem?_eq_getElem (hlt _ (List.getElem_mem hi)))
 refine less167 W (vals ys) dk b1 nb b9 pb n c9 m a ca ?_ ?_ (by unfold vals; rw [List.length_map]; exact hm) ?_ hn hdk (fun j s hj => ?_) (fun x hx => by unfold vals; rw [List.length_map]; exact hlt x hx) i j hi hj
 ·rw [uZ h1.2]; rfl
 ·rw [uZ h2.2]; rfl
 ·have := hM _ List.mem_cons_self
  rw [uZ this]; rfl
 ·unfold vals at hj
  rw [List.getElem?_map] at hj
  obtain ⟨y, hy, rfl⟩ := Option.map_eq_some_iff.1 hj
  obtain ⟨a', b', ha, _, hc, hnode⟩ := hkid _ _ hy
  cases ha
  refine ⟨b', hc, ?_⟩
  obtain ⟨q, tt, vv, zs⟩ := y
  obtain ⟨_, _, _, A2, c2, hb, _⟩ := hnode
  rw [uZ hb]
  rfl
def C107 (fb : Addr) (u : V) : Prop := ∀ b, CtR Tryz.prog 107 #[ptr b] [.node b (outY u), ftD fb] (RVT (srtV u))

theorem c107s (fb : Addr) (b : Nat) (y : Y) (v : V) (hk : y.kind = 8) (H : CtR Tryz.prog 166 #[ptr b] [.node b y, ftD fb] (RVT v)) : CtR Tryz.prog 107 #[ptr b] [.node b y, ftD fb] (RVT v) := by
 refine Ct.of_run (args := [ptr b]) Tryz.func107 (by kernel_rfl) rfl Tryz.ntmps107 rfl (fun c => ?_)
 refine run_node 0 rfl (fun A0 cap0 ht0 hv0 hl0 hc0 => ?_)
 refine zD (zB ?_)
 refine zA (xS rfl rfl rfl (fun b1 => ?_))
 refine ops_frBlk 0 rfl rfl (zA ?_)
 refine yN ze25 rfl (fun b2 => ?_)
 change RunOps _ _ _ _ _ _ _ _ (HA.blk _ [_, _, _, _, _] _ :: _) _
 refine zA (zE rfl rfl ?_)
 refine zC (zD ?_)
 refine zD (zB ?_)
 refine zA (zN 0 sc102 rfl rfl rfl rfl ?_)
 refine zA (tR pn102 rfl rfl ?_)
 refine zC (yE rfl (rfl) ?_)
 refine zL (zD ?_)
 refine zD (zB ?_)
 refine zA (zN 0 sc102 rfl rfl rfl rfl ?_)
 refine zA (zH rfl rfl ?_)
 refine zA (zJ wP rfl rfl ?_)
 refine zA (zN 1 sc146 rfl rfl rfl rfl ?_)
 refine zC (zO ?_)
 refine zD (zB ?_)
 refine zA (yA rfl rfl rfl ?_)
 refine zA (zE rfl rfl ?_)
 refine zC (yG rfl (decide_eq_true (by exact_mod_cast hk)) ?_)
 refine zD (zB ?_)
 refine zA (zN 0 sc102 rfl rfl rfl rfl ?_)
 refine zA (zW rfl rfl rfl H (sub2 3 4 rfl rfl) (fun u27 D27 hv27 => ?_))
 obtain ⟨_, rfl, A27, c27, B27, d27, rfl, rfl⟩ := hv27
 refine zA (yD rfl rfl rfl ?_)
 refine zA (yD rfl rfl rfl ?_)
 refine zA (zS 0 (M' := [HA.blk _ [_, _, _, _, _] _]) rfl rfl rfl rfl si25 rfl rfl rfl ?_)
 refine zA (zE rfl rfl ?_)
 refine zC (zG [3, 2] ?_)
 change Run _ _ _ _ _ [(3, _), (2, _)] _ _
 refine uH (M' := [HA.blk b2 [_, _, _, _, _] 25]) (by repeat (first | exact wJ _ | refine zU 0 rfl ?_ | refine zU 1 rfl ?_ | refine zU 2 rfl ?_ | refine zU 3 rfl ?_ | refine zU 4 rfl ?_)) ?_
 exact vK 0 Tryz.results107 rfl rfl rfl ag25 ⟨rfl, _, rfl, _, _, _, _, rfl, rfl⟩ nS (sub1 0 rfl)
theorem c107l (fb : Addr) (b : Nat) (us : List V) (h60 : us.length ≤ 60) (H : ∀ x ∈ us, C107 fb x) : CtR Tryz.prog 107 #[ptr b] [.node b (RKids 2 (us.map outY)), ftD fb] (RVT (.mk 4 0 ⟨#[]⟩ [] (us.map srtV))) := by
 refine Ct.of_run (args := [ptr b]) Tryz.func107 (by kernel_rfl) rfl Tryz.ntmps107 rfl (fun c => ?_)
 refine wD 0 rfl (fun A0 cap0 ht0 hv0 hl0 hc0 => ?_)
 rw [List.length_map]
 rw [List.length_map] at hl0
 unfold maxLen at hc0
 refine zD (zB ?_)
 refine zA (xS rfl rfl rfl (fun b1 => ?_))
 refine ops_frBlk 0 rfl rfl (zA ?_)
 refine yN ze25 rfl (fun b2 => ?_)
 change RunOps _ _ _ _ _ _ _ _ (HA.blk _ [_, _, _, _, _] _ :: _) _
 refine zA (zE rfl rfl ?_)
 refine zC (zD ?_)
 refine zD (zB ?_)
 refine zA (zN 0 sc102 rfl rfl rfl rfl ?_)
 refine zA (tR pn102 rfl rfl ?_)
 refine zC (yE rfl (rfl) ?_)
 refine zL (zD ?_)
 refine zD (zB ?_)
 refine zA (zN 0 sc102 rfl rfl rfl rfl ?_)
 refine zA (zH rfl rfl ?_)
 refine zA (zJ wP rfl rfl ?_)
 refine zA (zN 1 sc146 rfl rfl rfl rfl ?_)
 refine zC (zO ?_)
 refine zD (zB ?_)
 refine zA (yA rfl rfl rfl ?_)
 refine zA (zE rfl rfl ?_)
 refine zC (yE rfl (rfl) ?_)
 refine zD (zB ?_)
 refine zA (yA rfl rfl rfl ?_)
 refine zA (zE rfl rfl ?_)
 refine zC (zG [30, 23, 2, 1] ?_)
 change Run _ _ _ _ _ [(30, _), (23, _), (2, _), (1, _)] _ _
 refine yG rfl (rfl) (zD ?_)
 refine zB (zA ?_)
 refine xT rfl rfl (bu25_0 ..) (zA ?_)
 refine yN ze25 rfl (fun b4 => ?_)
 change RunOps _ _ _ _ _ _ _ _ (HA.blk _ [_, _, _, _, _] _ :: _) _
 refine zA (zS 0 (M' := [HA.blk _ [_, _, _, _, _] _, _]) rfl rfl rfl rfl si25 rfl rfl rfl ?_)
 refine zC (zD ?_)
 refine zD (zB ?_)
 refine zA (zN 0 sc102 rfl rfl rfl rfl ?_)
 refine zA (zH rfl rfl ?_)
 refine zA (zJ wQ rfl rfl ?_)
 refine zA (zN 1 sc148 rfl rfl rfl rfl ?_)
 refine zA (yZ sl148 rfl rfl ?_)
 refine zA (zF rfl rfl ?_)
 refine zC (zO ?_)
 refine zG [38, 37, 36, 4, 2] ?_
 change Run _ _ _ _ _ [(38, _), (37, _), (36, _), (4, _), (2, _)] _ _
 refine vT 25 5 (pD ?_)
 refine xZ 1 (fun (⟨i, A, ca, xs⟩ : Nat × Option Addr × Nat × List Value) => i ≤ us.length) (fun (⟨i, A, ca, xs⟩ : Nat × Option Addr × Nat × List Value) => [(38, .int .i64 ((i : Nat) : Int))]) (fun (⟨i, A, ca, xs⟩ : Nat × Option Addr × Nat × List Value) => HA.row A i ca 25 5 xs :: HA.blk b4 [.int .i64 4, .int .i64 0, .string ⟨#[]⟩, .slice none 0 0, .slice A i ca] 25 :: HA.blk b2 [.int .i64 0, .int .i64 0, .string ⟨#[]⟩, .slice none 0 0, .slice none 0 0] 25 :: []) (fun (⟨i, A, ca, xs⟩ : Nat × Option Addr × Nat × List Value) => .its xs ((us.take i).map srtV) :: .dblk b1 [ptr b] 102 :: .dblk b (ycells 2 ⟨#[]⟩ ⟨#[]⟩ A0 us.length cap0) 150 :: .kids (.slice A0 us.length cap0) (us.map outY) :: .node b (RKids 2 (us.map outY)) :: ftD fb :: []) (fun (⟨i, A, ca, xs⟩ : Nat × Option Addr × Nat × List Value) => us.length - i) (0, none, 0, []) (by show 0 ≤ _; omega) (eC rfl (eN _)) rfl rfl ?_ (eC rfl (eC rfl (eC rfl (eC rfl (eN _)))))
 intro ⟨i, A, ca, xs⟩ hI K hK
 replace hI : i ≤ us.length := hI
 change Run _ _ _ _ _ [(38, .int .i64 ((i : Nat) : Int)), (37, _), (36, _), (4, _), (2, _)] (HA.row A i ca 25 5 xs :: HA.blk b4 [.int .i64 4, .int .i64 0, .string ⟨#[]⟩, .slice none 0 0, .slice A i ca] 25 :: HA.blk b2 [.int .i64 0, .int .i64 0, .string ⟨#[]⟩, .slice none 0 0, .slice none 0 0] 25 :: []) (.its xs ((us.take i).map srtV) :: .dblk b1 [ptr b] 102 :: .dblk b (ycells 2 ⟨#[]⟩ ⟨#[]⟩ A0 us.length cap0) 150 :: .kids (.slice A0 us.length cap0) (us.map outY) :: .node b (RKids 2 (us.map outY)) :: ftD fb :: [])
 have hi : i ≤ us.length := hI
 refine zD (zB ?_)
 refine zA (xX rfl rfl rfl ?_)
 refine zC (zD ?_)
 refine zT rfl (fun h39 => ?_) (fun h39 => ?_)
 ·refine zL (zD ?_)
  refine zO (zD ?_)
  refine zB (zA ?_)
  refine wV 3 sl148 rfl rfl rfl rfl h39 (uF 3 i rfl (qI h39) (fun bk => ?_))
  refine zA (xD sc102 rfl rfl (fun _ h => uG h (j := 0) rfl) ?_)
  refine zA (zE rfl rfl ?_)
  refine zC (zD ?_)
  refine zB (zA ?_)
  refine zF rfl rfl (zA ?_)
  refine zW rfl rfl rfl (H _ (List.getElem_mem h39) bk) (sub2 1 7 rfl rfl) (fun u44 D44 hv44 => ?_)
  obtain ⟨_, rfl, A44, c44, B44, d44, rfl, rfl⟩ := hv44
  refine zA (zF rfl rfl ?_)
  refine zA (yD rfl rfl rfl ?_)
  refine zA (yD rfl rfl rfl ?_)
  refine zA (yN ze25 rfl (fun b7 => ?_))
  change RunOps _ _ _ _ _ _ _ _ (HA.blk _ [_, _, _, _, _] _ :: _) _
  refine zA (zS 0 (M' := [HA.blk _ [_, _, _, _, _] _, _, _, _]) rfl rfl rfl rfl si25 rfl rfl rfl ?_)
  refine zA (zE rfl rfl ?_)
  refine zC (zG [8, 7, 38, 37, 36, 4, 2] ?_)
  change Run _ _ _ _ _ [(8, _), (7, _), (38, _), (37, _), (36, _), (4, _), (2, _)] _ _
  refine zD (zD ?_)
  refine zB (zA ?_)
  refine zF rfl rfl (zA ?_)
  refine vH rfl rfl (zC ?_)
  refine yE rfl (rfl) (zL ?_)
  refine zB (zA ?_)
  refine zJ wC rfl rfl (zA ?_)
  refine zX 2 sc23 rfl rfl rfl rfl (zA ?_)
  refine yQ 0 rfl ag25 rfl rfl (zA ?_)
  refine yC sl23 rfl rfl rfl rfl rfl (fun b53 => ?_)
  refine zA ?_
  refine yP 2 0 sl23 rfl rfl rfl rfl rfl rfl rfl (by unfold maxLen; omega) (by omega) (fun A54 c54 => ?_)
  refine zA (zJ wC rfl rfl ?_)
  refine zA (zS 3 (M' := [_, _, _, HA.blk _ [_, _, _, _, _] _, _]) rfl rfl rfl rfl si23 rfl rfl rfl ?_)
  refine zC (zG [38, 37, 36, 4, 2] ?_)
  change Run _ _ _ _ _ [(38, _), (37, _), (36, _), (4, _), (2, _)] _ _
  refine zQ (zB ?_)
  refine zA (xO rfl rfl (by omega) ?_)
  refine zA (zF rfl rfl ?_)
  refine zC (uA 3 0 rfl rfl rfl ?_)
  rw [tC (f := srtV) h39]
  exact kQ (hK (i + 1, _, _, _) (by show i + 1 ≤ _; omega) (by show us.length - (i + 1) < us.length - i; omega)) (eC rfl (eC rfl (eC rfl (eC rfl (eC rfl (eN _)))))) (hD := (subc 0 rfl sQ))
 obtain rfl : i = us.length := by omega
 rw [List.take_length]
 refine yL rfl (zD ?_)
 refine zB (zA ?_)
 refine yQ 1 rfl ag25 rfl rfl (zA ?_)
 refine zS 2 (M' := [_, _, HA.blk _ [_, _, _, _, _] _]) rfl rfl rfl rfl si25 rfl rfl rfl (zA ?_)
 refine zE rfl rfl (zC ?_)
 refine tZ (rE 0 1 (us.map srtV) rfl rfl (by simp [foots, HA.foot]) (by rw [List.length_map]) ?_)
 refine uB 1 0 rfl rfl (s := ⟨#[]⟩) (q := 4) (m := 0) (by decide) ?_
 refine uH (M' := [HA.blk b2 [_, _, _, _, _] 25]) (by repeat (first | exact wJ _ | refine zU 0 rfl ?_ | refine zU 1 rfl ?_ | refine zU 2 rfl ?_ | refine zU 3 rfl ?_ | refine zU 4 rfl ?_)) ?_
 exact vK 0 Tryz.results107 rfl rfl rfl ag25 ⟨rfl, _, rfl, none, 0, _, _, by simp only [V.kind, V.num, V.text, V.keys, V.items, List.length_map, List.length_nil]; rfl, rfl⟩ nS (sub1 0 rfl)
theorem sK {M M2 : List HA} (h : Pick M2 M := by repeat (first | exact pick_refl _ | exact wJ _ | refine zU 0 rfl ?_ | refine zU 1 rfl ?_ | refine zU 2 rfl ?_ | refine zU 3 rfl ?_ | refine zU 4 rfl ?_ | refine zU 5 rfl ?_ | refine zU 6 rfl ?_ | refine zU 7 rfl ?_ | refine zU 8 rfl ?_)) : Pick M2 M := h
set_option maxHeartbeats 4000000 in
theorem c107m (fb : Addr) (b : Nat) (ks : List ByteArray) (us : List V) (hl : ks.length = us.length) (h60 : us.length ≤ 60) (hnd : ks.Nodup) (hszs : ∀ s ∈ ks, s.size ≤ maxLen) (H : ∀ x ∈ us, C107 fb x) (ys : List Y) (hys : ys = (ks.zip (us.map outY)).flatMap prY) : CtR Tryz.prog 107 #[ptr b] [.node b (RKids 4 ys), ftD fb] (RVT (srtV (.mk 5 0 ⟨#[]⟩ ks us))) := by
 refine Ct.of_run (args := [ptr b]) Tryz.func107 (by kernel_rfl) rfl Tryz.ntmps107 rfl (fun c => ?_)
 have hfl : ys.length = 2 * us.length := by rw [hys, flat_len, c107len hl]
 have hk0 : ∀ x, x < us.length → ys[2 * x]? = some (scal tStr (ks.getD x ⟨#[]⟩)) := fun x hx => by rw [hys]; exact c107key hl hx
 have hk1 : ∀ x (h : x < us.length), ys[2 * x + 1]? = some (outY us[x]) := fun x hx => by rw [hys]; exact c107val hl hx
 have h2t : ((2 * us.length : Nat) : Int).tmod 2 = 0 := by rw [show ((2 * us.length : Nat) : Int) = 2 * (us.length : Int) by omega]; exact Int.mul_tmod_right _ _
 refine wD 0 rfl (fun A0 cap0 ht0 hv0 hl0 hc0 => ?_)
 rw [hfl]
 rw [hfl] at hl0
 unfold maxLen at hc0
 refine zD (zB ?_)
 refine zA (xS rfl rfl rfl (fun b1 => ?_))
 refine ops_frBlk 0 rfl rfl (zA ?_)
 refine yN ze25 rfl (fun b2 => ?_)
 change RunOps _ _ _ _ _ _ _ _ (HA.blk _ [_, _, _, _, _] _ :: _) _
 refine zA (zE rfl rfl ?_)
 refine zC (zD ?_)
 refine zD (zB ?_)
 refine zA (zN 0 sc102 rfl rfl rfl rfl ?_)
 refine zA (tR pn102 rfl rfl ?_)
 refine zC (yE rfl (rfl) ?_)
 refine zL (zD ?_)
 refine zD (zB ?_)
 refine zA (zN 0 sc102 rfl rfl rfl rfl ?_)
 refine zA (zH rfl rfl ?_)
 refine zA (zJ wP rfl rfl ?_)
 refine zA (zN 1 sc146 rfl rfl rfl rfl ?_)
 refine zC (zO ?_)
 refine zD (zB ?_)
 refine zA (yA rfl rfl rfl ?_)
 refine zA (zE rfl rfl ?_)
 refine zC (yE rfl (rfl) ?_)
 refine zD (zB ?_)
 refine zA (yA rfl rfl rfl ?_)
 refine zA (zE rfl rfl ?_)
 refine zC (zG [30, 23, 2, 1] ?_)
 change Run _ _ _ _ _ [(30, _), (23, _), (2, _), (1, _)] _ _
 refine yE rfl (rfl) (zD ?_)
 refine zB (zA ?_)
 refine yA rfl rfl rfl (zA ?_)
 refine zE rfl rfl (zC ?_)
 refine yG rfl (rfl) (zD ?_)
 refine zD (zB ?_)
 refine zA (zN 0 sc102 rfl rfl rfl rfl ?_)
 refine zA (zH rfl rfl ?_)
 refine zA (zJ wQ rfl rfl ?_)
 refine zA (zN 1 sc148 rfl rfl rfl rfl ?_)
 refine zA (yZ sl148 rfl rfl ?_)
 refine zA (op_rem rfl rfl rfl (by decide) ?_)
 rw [h2t]
 refine zA (tG rfl rfl rfl ?_)
 refine zC (zG [66, 2, 1] ?_)
 change Run _ _ _ _ _ [(66, _), (2, _), (1, _)] _ _
 refine yE rfl (rfl) (zL ?_)
 refine zD (zB ?_)
 refine zA (rD sl139 rfl (fun b68 => ?_))
 refine zA (yN ze139 rfl (fun b9 => ?_))
 change RunOps _ _ _ _ _ _ _ _ (HA.blk _ [_] _ :: _) _
 refine zA (zS 0 (M' := [HA.blk _ [_] _, _, _]) rfl rfl rfl rfl si139 rfl rfl rfl ?_)
 refine zC (zD ?_)
 refine zD (zB ?_)
 refine zA (zE rfl rfl ?_)
 refine zC (zO ?_)
 refine zG [10, 9, 2, 1] ?_
 change Run _ _ _ _ _ [(10, _), (9, _), (2, _), (1, _)] _ _
 refine xZ 1 (fun (⟨i, pb, c9⟩ : Nat × Nat × Nat) => i ≤ us.length) (fun (⟨i, pb, c9⟩ : Nat × Nat × Nat) => [(10, .int .i64 ((2 * i : Nat) : Int))]) (fun (⟨i, pb, c9⟩ : Nat × Nat × Nat) => HA.blk b9 [.slice (some ⟨pb, 0, none⟩) i c9] 139 :: HA.row (some ⟨pb, 0, none⟩) i c9 3 1 ((List.range i).map encE) :: HA.blk b2 [.int .i64 0, .int .i64 0, .string ⟨#[]⟩, .slice none 0 0, .slice none 0 0] 25 :: []) (fun (⟨i, pb, c9⟩ : Nat × Nat × Nat) => .dblk b1 [ptr b] 102 :: .dblk b (ycells 4 ⟨#[]⟩ ⟨#[]⟩ A0 (2 * us.length) cap0) 150 :: .kids (.slice A0 (2 * us.length) cap0) ys :: .node b (RKids 4 ys) :: ftD fb :: []) (fun (⟨i, pb, c9⟩ : Nat × Nat × Nat) => us.length - i) (0, _, _) (by show 0 ≤ _; omega) (eC rfl (eN _)) rfl rfl ?_ (eC rfl (eC rfl (eC rfl (eN _))))
 intro ⟨i, pb, c9⟩ hI K hK
 replace hI : i ≤ us.length := hI
 change Run _ _ _ _ _ [(10, .int .i64 ((2 * i : Nat) : Int)), (9, _), (2, _), (1, _)] (HA.blk b9 [.slice (some ⟨pb, 0, none⟩) i c9] 139 :: HA.row (some ⟨pb, 0, none⟩) i c9 3 1 ((List.range i).map encE) :: HA.blk b2 [.int .i64 0, .int .i64 0, .string ⟨#[]⟩, .slice none 0 0, .slice none 0 0] 25 :: []) (.dblk b1 [ptr b] 102 :: .dblk b (ycells 4 ⟨#[]⟩ ⟨#[]⟩ A0 (2 * us.length) cap0) 150 :: .kids (.slice A0 (2 * us.length) cap0) ys :: .node b (RKids 4 ys) :: ftD fb :: [])
 have hi : i ≤ us.length := hI
 refine zD (zD ?_)
 refine zB (zA ?_)
 refine zF rfl rfl (zA ?_)
 refine zN 0 sc102 rfl rfl rfl rfl (zA ?_)
 refine zH rfl rfl (zA ?_)
 refine zJ wQ rfl rfl (zA ?_)
 refine zN 1 sc148 rfl rfl rfl rfl (zA ?_)
 refine yZ sl148 rfl rfl (zA ?_)
 refine xX rfl rfl rfl (zC ?_)
 refine zT rfl (fun h75 => ?_) (fun h75 => ?_)
 ·refine zL (zD ?_)
  refine zO (zB ?_)
  refine zA (zX 0 sc139 rfl rfl rfl rfl ?_)
  refine zA (zF rfl rfl ?_)
  refine zA (yC sl139 rfl rfl rfl rfl rfl (fun b80 => ?_))
  refine zA ?_
  refine yP 2 0 sl139 rfl rfl rfl rfl rfl rfl rfl (by unfold maxLen; omega) (by omega) (fun A81 c81 => ?_)
  refine zA (zS 1 (M' := [_, HA.blk _ [_] _, _, _]) rfl rfl rfl rfl si139 rfl rfl rfl ?_)
  refine zC (zG [10, 9, 2, 1] ?_)
  change Run _ _ _ _ _ [(10, _), (9, _), (2, _), (1, _)] _ _
  refine zQ (zB ?_)
  refine zA (zF rfl rfl ?_)
  refine zA (yR (s := ((2 * (i + 1) : Nat) : Int)) rfl rfl rfl (by omega) (by omega) (by omega) ?_)
  refine zA (zE rfl rfl ?_)
  refine zC ?_
  refine run_rowA 2 rfl (by omega) (fun pb1 hpb => ?_)
  subst hpb
  rw [rangeE_snoc]
  exact kQ (hK (i + 1, pb1, _) (by show i + 1 ≤ _; omega) (by show us.length - (i + 1) < us.length - i; omega)) (eC rfl (eC rfl (eC rfl (eC rfl (eN _)))))
 obtain rfl : i = us.length := by omega
 rw [rangeE]
 refine yL rfl (zD ?_)
 refine zB (zA ?_)
 refine zX 0 sc139 rfl rfl rfl rfl (zA ?_)
 refine op_makeIface (by kernel_rfl) rfl rfl (zA ?_)
 refine op_makeFunc rfl rfl rfl (zA ?_)
 refine xM 1 0 rfl rfl rfl (c130 167 #[ptr b1, ptr b9] pb us.length c9 ys.length ((List.range us.length).map (2 * ·)) (fun x hx => by obtain ⟨z, hz, rfl⟩ := List.mem_map.1 hx; have := List.mem_range.1 hz; omega) (ltK (vals ys)) (ltK_swo _) [HA.blk b9 [.slice (some ⟨pb, 0, none⟩) us.length c9] 139] [.dblk b1 [ptr b] 102, .dblk b (ycells 4 ⟨#[]⟩ ⟨#[]⟩ A0 (2 * us.length) cap0) 150, .kids (.slice A0 (2 * us.length) cap0) ys] (by omega) (fun args w => run_callFunc fun167 args w) (fun W dk h1 h2 => less_okE ys A0 (2 * us.length) cap0 b b1 b9 pb us.length c9 _ _ _ hfl.symm W dk h1 h2)) rfl rfl (subc 0 rfl (sub2 1 2 rfl rfl)) (fun u85 M85 D85 hv85 => ?_)
 obtain ⟨rfl, ⟨ds, hdp, hds, rfl⟩, rfl⟩ := hv85
 rw [hys] at hds
 obtain ⟨es, hep, hes, hee⟩ := halves hl hdp hds
 rw [hee]
 have hel : es.length = us.length := by rw [hep.length_eq, List.length_range]
 have hep2 : es.Perm (List.range ks.length) := by rw [hl]; exact hep
 refine zC (zG [9, 2, 1] ?_)
 change Run _ _ _ _ _ [(9, _), (2, _), (1, _)] _ _
 refine zD (zB ?_)
 refine zA (xT rfl rfl (bu25_0 ..) ?_)
 refine zA (yN ze25 rfl (fun b11 => ?_))
 change RunOps _ _ _ _ _ _ _ _ (HA.blk _ [_, _, _, _, _] _ :: _) _
 refine zA (zS 0 (M' := [HA.blk _ [_, _, _, _, _] _, _, _, _]) rfl rfl rfl rfl si25 rfl rfl rfl ?_)
 refine zC (zD ?_)
 refine zD (zB ?_)
 refine zA (zX 2 sc139 rfl rfl rfl rfl ?_)
 refine zA (yZ sl139 rfl rfl ?_)
 refine zA (zF rfl rfl ?_)
 refine zC (zO ?_)
 refine zG [89, 88, 87, 11, 2, 1] ?_
 change Run _ _ _ _ _ [(89, _), (88, _), (87, _), (11, _), (2, _), (1, _)] _ _
 refine vT 25 5 (vT 9 1 ?_)
 refine pD ?_
 refine xZ 1 (fun (⟨i3, KA, kc, KI, ic, xv⟩ : Nat × Option Addr × Nat × Option Addr × Nat × List Value) => i3 ≤ us.length) (fun (⟨i3, KA, kc, KI, ic, xv⟩ : Nat × Option Addr × Nat × Option Addr × Nat × List Value) => [(89, .int .i64 ((i3 : Nat) : Int))]) (fun (⟨i3, KA, kc, KI, ic, xv⟩ : Nat × Option Addr × Nat × Option Addr × Nat × List Value) => HA.row KA i3 kc 9 1 ((es.take i3).map (fun x => Value.string (ks.getD x ⟨#[]⟩))) :: HA.row KI i3 ic 25 5 xv :: HA.blk b11 [.int .i64 5, .int .i64 0, .string ⟨#[]⟩, .slice KA i3 kc, .slice KI i3 ic] 25 :: HA.row (some ⟨pb, 0, none⟩) us.length c9 3 1 (es.map encE) :: HA.blk b9 [.slice (some ⟨pb, 0, none⟩) us.length c9] 139 :: HA.blk b2 [.int .i64 0, .int .i64 0, .string ⟨#[]⟩, .slice none 0 0, .slice none 0 0] 25 :: []) (fun (⟨i3, KA, kc, KI, ic, xv⟩ : Nat × Option Addr × Nat × Option Addr × Nat × List Value) => .its xv ((es.take i3).map (fun x => (us.map srtV).getD x zV0)) :: .dblk b1 [ptr b] 102 :: .dblk b (ycells 4 ⟨#[]⟩ ⟨#[]⟩ A0 (2 * us.length) cap0) 150 :: .kids (.slice A0 (2 * us.length) cap0) ys :: .node b (RKids 4 ys) :: ftD fb :: []) (fun (⟨i3, KA, kc, KI, ic, xv⟩ : Nat × Option Addr × Nat × Option Addr × Nat × List Value) => us.length - i3) (0, none, 0, none, 0, []) (by show 0 ≤ _; omega) (eC rfl (eN _)) rfl rfl ?_ (eC rfl (eC rfl (eC rfl (eC rfl (eC rfl (eN _))))))
 intro ⟨i3, KA, kc, KI, ic, xv⟩ hI K hK1
 replace hI : i3 ≤ us.length := hI
 change Run _ _ _ _ _ [(89, .int .i64 ((i3 : Nat) : Int)), (88, _), (87, _), (11, _), (2, _), (1, _)] (HA.row KA i3 kc 9 1 ((es.take i3).map (fun x => Value.string (ks.getD x ⟨#[]⟩))) :: HA.row KI i3 ic 25 5 xv :: HA.blk b11 [.int .i64 5, .int .i64 0, .string ⟨#[]⟩, .slice KA i3 kc, .slice KI i3 ic] 25 :: HA.row (some ⟨pb, 0, none⟩) us.length c9 3 1 (es.map encE) :: HA.blk b9 [.slice (some ⟨pb, 0, none⟩) us.length c9] 139 :: HA.blk b2 [.int .i64 0, .int .i64 0, .string ⟨#[]⟩, .slice none 0 0, .slice none 0 0] 25 :: []) (.its xv ((es.take i3).map (fun x => (us.map srtV).getD x zV0)) :: .dblk b1 [ptr b] 102 :: .dblk b (ycells 4 ⟨#[]⟩ ⟨#[]⟩ A0 (2 * us.length) cap0) 150 :: .kids (.slice A0 (2 * us.length) cap0) ys :: .node b (RKids 4 ys) :: ftD fb :: [])
 have hi3 : i3 ≤ us.length := hI
 refine zD (zB ?_)
 refine zA (xX rfl rfl rfl ?_)
 refine zC (zD ?_)
 refine zT rfl (fun h90 => ?_) (fun h90 => ?_)
 ·have hld : i3 < es.length := by omega
  have hde : es[i3] < us.length := places_lt hep _ (List.getElem_mem hld)
  have hdk : es[i3] < ks.length := by omega
  have hdv : es[i3] < (us.map srtV).length := by rw [List.length_map]; exact hde
  refine zL (zD ?_)
  refine zO (zD ?_)
  refine zB (zA ?_)
  refine zF rfl rfl (zA ?_)
  refine wU sl139 rfl rfl rfl h90 (zA ?_)
  refine xD sc3 rfl rfl (fun _ h => row_at h (i := 3) rfl (by rw [List.getElem?_map, List.getElem?_eq_getElem hld]; rfl)) ?_
  refine zA (zE rfl rfl ?_)
  refine zA (zE rfl rfl ?_)
  refine zC (zD ?_)
  refine zB (zA ?_)
  refine zN 1 sc102 rfl rfl rfl rfl (zA ?_)
  refine zH rfl rfl (zA ?_)
  refine zJ wQ rfl rfl (zA ?_)
  refine zN 2 sc148 rfl rfl rfl rfl (zA ?_)
  refine zF rfl rfl (zA ?_)
  refine wV (i := 2 * es[i3]) 3 sl148 rfl rfl rfl rfl (by omega) (uF 3 (2 * es[i3]) rfl (hk0 _ hde) (fun bk => ?_))
  refine tN 1 rfl (fun A1 cap1 ht1 hv1 hl1 hc1 => ?_)
  refine zA (xD sc102 rfl rfl (fun _ h => uG h (j := 2) rfl) ?_)
  refine zA (zH rfl rfl ?_)
  refine zA (zJ wY rfl rfl ?_)
  refine zA (zN 0 sc9 rfl rfl rfl rfl ?_)
  refine zA (zE rfl rfl ?_)
  refine zC (zG [14, 13, 12, 89, 88, 87, 11, 2, 1] ?_)
  change Run _ _ _ _ _ [(14, _), (13, _), (12, _), (89, _), (88, _), (87, _), (11, _), (2, _), (1, _)] _ _
  refine zD (zB ?_)
  refine zA (zN 5 sc102 rfl rfl rfl rfl ?_)
  refine zA (zH rfl rfl ?_)
  refine zA (zJ wQ rfl rfl ?_)
  refine zA (zN 6 sc148 rfl rfl rfl rfl ?_)
  refine zA (zF rfl rfl ?_)
  refine zA (xO rfl rfl (by omega) ?_)
  refine zA (wV (i := 2 * es[i3] + 1) 7 sl148 rfl rfl rfl rfl (by omega) ?_)
  refine uF 7 (2 * es[i3] + 1) rfl (hk1 _ hde) (fun bv => ?_)
  refine zA (xD sc102 rfl rfl (fun _ h => uG h (j := 0) rfl) ?_)
  refine zA (zW rfl rfl rfl (H _ (List.getElem_mem hde) bv) (sub2 1 11 rfl rfl) (fun u113 D113 hv113 => ?_))
  obtain ⟨_, rfl, A113, c113, B113, d113, rfl, rfl⟩ := hv113
  refine zA (zF rfl rfl ?_)
  refine zA (yD rfl rfl rfl ?_)
  refine zA (yD rfl rfl rfl ?_)
  refine zA (yN ze25 rfl (fun b15 => ?_))
  change RunOps _ _ _ _ _ _ _ _ (HA.blk _ [_, _, _, _, _] _ :: _) _
  refine zA (zS 0 (M' := [HA.blk _ [_, _, _, _, _] _, _, _, _, _, _, _]) rfl rfl rfl rfl si25 rfl rfl rfl ?_)
  refine zA (zE rfl rfl ?_)
  refine zC (zG [16, 15, 14, 12, 89, 88, 87, 11, 2, 1] ?_)
  change Run _ _ _ _ _ [(16, _), (15, _), (14, _), (12, _), (89, _), (88, _), (87, _), (11, _), (2, _), (1, _)] _ _
  refine zD (zD ?_)
  refine zB (zA ?_)
  refine zF rfl rfl (zA ?_)
  refine vH rfl rfl (zA ?_)
  refine zF rfl rfl (vG (s := 118) rfl (rfl) ?_)
  refine zM rfl rfl (zF rfl rfl ?_)
  refine zM rfl rfl (vI rfl rfl rfl ?_)
  refine zM rfl rfl (zF rfl rfl ?_)
  refine xB (s := 121) rfl (fun h121 => ?_) (fun h121 => ?_)
  ·refine zM rfl rfl (zJ wS rfl rfl ?_)
   refine zM rfl rfl (zX 3 sc22 rfl rfl rfl rfl ?_)
   refine zM rfl rfl (zF rfl rfl ?_)
   refine zM rfl rfl (wE (s := ((i3 - 1 : Nat) : Int)) rfl rfl rfl (by omega) (by omega) (by omega) ?_)
   refine zM rfl rfl (op_idxRow 1 sl22 rfl rfl rfl rfl (by omega) ?_)
   refine zM rfl rfl (xD (v := .string (ks.getD (es[i3 - 1]'(by omega)) ⟨#[]⟩)) sc9 rfl rfl (fun _ h => row_atA h (i := 1) rfl (take_get (by omega) (by omega))) ?_)
   refine zM rfl rfl (zF rfl rfl ?_)
   refine zM rfl rfl (zZ rfl rfl rfl ?_)
   refine zM rfl rfl (zR rfl rfl rfl ?_)
   refine zA (zR rfl rfl rfl ?_)
   refine zC (zG [131, 15, 14, 89, 88, 87, 11, 2, 1] ?_)
   change Run _ _ _ _ _ [(131, _), (15, _), (14, _), (89, _), (88, _), (87, _), (11, _), (2, _), (1, _)] _ _
   refine yE rfl (decide_eq_false (fun he => places_ne hnd hep2 (i := i3 - 1) (j := i3) (by omega) (by omega) he)) (zL ?_)
   refine wH xQ (yO ?_)
   refine tP 0 rfl wanted0 (yT wS rfl) (tP 2 rfl wanted0 (yS rfl) ?_)
   refine tP 5 rfl wanted0 (yT wC rfl) (any_grpG (zU 0 rfl (zU 2 rfl (wJ _))) ?_)
   refine sS (zU 0 rfl (zU 2 rfl (wJ _))) 1 (wO _ _ _ _) rfl wanted0 (by decide +kernel) (by decide +kernel) (by decide +kernel) rfl (wB 1 sc22 rfl rfl rfl) (sS (zU 0 rfl (zU 2 rfl (wJ _))) 6 (wO _ _ _ _) rfl wanted0 (by decide +kernel) (by decide +kernel) (by decide +kernel) rfl (wB 1 sc23 rfl rfl rfl) ?_)
   refine sS (zU 0 rfl (zU 2 rfl (wJ _))) 7 (wO _ _ _ _) rfl wanted0 (by decide +kernel) (by decide +kernel) (by decide +kernel) rfl (st_loadW 0 rfl ag25 rfl) (sM (rs := [3, 8]) (by decide +kernel) (by simp) ?_)
   intro j hj
   simp only [List.mem_cons, List.not_mem_nil, or_false] at hj
   rcases hj with rfl | rfl
   ·refine yH (I2 := [[7, 6, 1], [5, 0], []]) rfl wanted0 (by decide +kernel) (fun Kd hKd => ?_)
    refine yC sl22 rfl rfl rfl rfl rfl (fun b136 => ?_)
    refine hKd _ _ _ (uY sK sQ (hC (zP (yI)))) ?_
    refine sM (rs := [4, 8]) (by decide +kernel) (by simp) ?_
    intro j hj
    simp only [List.mem_cons, List.not_mem_nil, or_false] at hj
    rcases hj with rfl | rfl
    ·refine yH (I2 := [[7, 6], [5], []]) rfl wanted0 (by decide +kernel) (fun Kd hKd => ?_)
     refine yP 2 0 sl22 rfl rfl rfl rfl rfl rfl rfl (by unfold maxLen; omega) (by omega) (fun A137 c137 => ?_)
     refine hKd _ _ _ (uY sK sQ (hC (zP (yI)))) ?_
     refine yO (tP 10 rfl wanted0 (yT wS rfl) ?_)
     refine yF 8 (by decide +kernel) ?_
     refine yH (I2 := [[10], [6], [5], []]) rfl wanted0 (by decide +kernel) (fun Kd hKd => ?_)
     refine yC sl23 rfl rfl rfl rfl rfl (fun b141 => ?_)
     refine hKd _ _ _ (hC (uY sK sQ (hC (zP (yI))))) ?_
     refine yF 9 (by decide +kernel) ?_
     refine yH (I2 := [[10], [], [], []]) rfl wanted0 (by decide +kernel) (fun Kd hKd => ?_)
     refine yP 4 0 sl23 rfl rfl rfl rfl rfl rfl rfl (by unfold maxLen; omega) (by omega) (fun A142 c142 => ?_)
     refine hKd _ _ _ (hC (zP (zP (zP (yI))))) (yF 11 (by decide +kernel) ?_)
     refine yH (I2 := [[], [], [], []]) rfl wanted0 (by decide +kernel) (fun Kd hKd => ?_)
     refine zS 5 (M' := [_, _, _, _, _, HA.blk _ [_, _, _, _, _] _, _, _, _]) rfl rfl rfl rfl si22 rfl rfl rfl (hKd _ _ _ (zP (zP (zP (zP (yI))))) ?_)
     refine tP 12 rfl wanted0 (yT wC rfl) (yF 13 (by decide +kernel) ?_)
     refine yH (I2 := [[], [], [], []]) rfl wanted0 (by decide +kernel) (fun Kd hKd => ?_)
     refine zS 5 (M' := [_, _, _, _, _, HA.blk _ [_, _, _, _, _] _, _, _, _]) rfl rfl rfl rfl si23 rfl rfl rfl (hKd _ _ _ (zP (zP (zP (zP (yI))))) ?_)
     refine xP (by decide +kernel) (zG [89, 88, 87, 11, 2, 1] ?_)
     change Run _ _ _ _ _ [(89, _), (88, _), (87, _), (11, _), (2, _), (1, _)] _ _
     refine zQ (zB ?_)
     refine zA (xO rfl rfl (by omega) ?_)
     refine zA (zF rfl rfl ?_)
     refine zC (uA 7 0 rfl rfl rfl ?_)
     rw [vO (f := fun x => (us.map srtV).getD x zV0) hld (by rw [uM hdv, List.getElem_map]), vO (f := fun x => Value.string (ks.getD x ⟨#[]⟩)) hld rfl]
     exact kQ (hK1 (i3 + 1, _, _, _, _, _) (by show i3 + 1 ≤ _; omega) (by show us.length - (i3 + 1) < us.length - i3; omega)) (eC rfl (eC rfl (eC rfl (eC rfl (eC rfl (eC rfl (eN _))))))) (hD := (subc 0 rfl sQ))
    refine yH (I2 := [[6, 1], [5, 0], []]) rfl wanted0 (by decide +kernel) (fun Kd hKd => ?_)
    refine yC sl23 rfl rfl rfl rfl rfl (fun b141 => ?_)
    refine hKd _ _ _ (uY sK sQ (hC (zP (yI)))) ?_
    refine yF 4 (by decide +kernel) ?_
    refine yH (I2 := [[6], [5], []]) rfl wanted0 (by decide +kernel) (fun Kd hKd => ?_)
    refine yP 3 1 sl22 rfl rfl rfl rfl rfl rfl rfl (by unfold maxLen; omega) (by omega) (fun A137 c137 => ?_)
    refine hKd _ _ _ (uY sK sQ (hC (zP (yI)))) ?_
    refine yO (tP 10 rfl wanted0 (yT wS rfl) ?_)
    refine yF 9 (by decide +kernel) ?_
    refine yH (I2 := [[10], [], [], []]) rfl wanted0 (by decide +kernel) (fun Kd hKd => ?_)
    refine yP 4 0 sl23 rfl rfl rfl rfl rfl rfl rfl (by unfold maxLen; omega) (by omega) (fun A142 c142 => ?_)
    refine hKd _ _ _ (hC (zP (zP (zP (yI))))) (yF 11 (by decide +kernel) ?_)
    refine yH (I2 := [[], [], [], []]) rfl wanted0 (by decide +kernel) (fun Kd hKd => ?_)
    refine zS 5 (M' := [_, _, _, _, _, HA.blk _ [_, _, _, _, _] _, _, _, _]) rfl rfl rfl rfl si22 rfl rfl rfl (hKd _ _ _ (zP (zP (zP (zP (yI))))) ?_)
    refine tP 12 rfl wanted0 (yT wC rfl) (yF 13 (by decide +kernel) ?_)
    refine yH (I2 := [[], [], [], []]) rfl wanted0 (by decide +kernel) (fun Kd hKd => ?_)
    refine zS 5 (M' := [_, _, _, _, _, HA.blk _ [_, _, _, _, _] _, _, _, _]) rfl rfl rfl rfl si23 rfl rfl rfl (hKd _ _ _ (zP (zP (zP (zP (yI))))) ?_)
    refine xP (by decide +kernel) (zG [89, 88, 87, 11, 2, 1] ?_)
    change Run _ _ _ _ _ [(89, _), (88, _), (87, _), (11, _), (2, _), (1, _)] _ _
    refine zQ (zB ?_)
    refine zA (xO rfl rfl (by omega) ?_)
    refine zA (zF rfl rfl ?_)
    refine zC (uA 7 0 rfl rfl rfl ?_)
    rw [vO (f := fun x => (us.map srtV).getD x zV0) hld (by rw [uM hdv, List.getElem_map]), vO (f := fun x => Value.string (ks.getD x ⟨#[]⟩)) hld rfl]
    exact kQ (hK1 (i3 + 1, _, _, _, _, _) (by show i3 + 1 ≤ _; omega) (by show us.length - (i3 + 1) < us.length - i3; omega)) (eC rfl (eC rfl (eC rfl (eC rfl (eC rfl (eC rfl (eN _))))))) (hD := (subc 0 rfl sQ))
   refine yH (I2 := [[6, 1], [5, 2, 0], []]) rfl wanted0 (by decide +kernel) (fun Kd hKd => ?_)
   refine yC sl23 rfl rfl rfl rfl rfl (fun b141 => ?_)
   refine hKd _ _ _ (uY sK sQ (hC (zP (yI)))) ?_
   refine yF 3 (by decide +kernel) ?_
   refine yH (I2 := [[6, 1], [5, 0], []]) rfl wanted0 (by decide +kernel) (fun Kd hKd => ?_)
   refine yC sl22 rfl rfl rfl rfl rfl (fun b136 => ?_)
   refine hKd _ _ _ (uY sK sQ (hC (zP (yI)))) ?_
   refine yF 4 (by decide +kernel) ?_
   refine yH (I2 := [[6], [5], []]) rfl wanted0 (by decide +kernel) (fun Kd hKd => ?_)
   refine yP 3 0 sl22 rfl rfl rfl rfl rfl rfl rfl (by unfold maxLen; omega) (by omega) (fun A137 c137 => ?_)
   refine hKd _ _ _ (uY sK sQ (hC (zP (yI)))) ?_
   refine yO (tP 10 rfl wanted0 (yT wS rfl) ?_)
   refine yF 9 (by decide +kernel) ?_
   refine yH (I2 := [[10], [], [], []]) rfl wanted0 (by decide +kernel) (fun Kd hKd => ?_)
   refine yP 4 1 sl23 rfl rfl rfl rfl rfl rfl rfl (by unfold maxLen; omega) (by omega) (fun A142 c142 => ?_)
   refine hKd _ _ _ (hC (zP (zP (zP (yI))))) (yF 11 (by decide +kernel) ?_)
   refine yH (I2 := [[], [], [], []]) rfl wanted0 (by decide +kernel) (fun Kd hKd => ?_)
   refine zS 5 (M' := [_, _, _, _, _, HA.blk _ [_, _, _, _, _] _, _, _, _]) rfl rfl rfl rfl si22 rfl rfl rfl (hKd _ _ _ (zP (zP (zP (zP (yI))))) ?_)
   refine tP 12 rfl wanted0 (yT wC rfl) (yF 13 (by decide +kernel) ?_)
   refine yH (I2 := [[], [], [], []]) rfl wanted0 (by decide +kernel) (fun Kd hKd => ?_)
   refine zS 5 (M' := [_, _, _, _, _, HA.blk _ [_, _, _, _, _] _, _, _, _]) rfl rfl rfl rfl si23 rfl rfl rfl (hKd _ _ _ (zP (zP (zP (zP (yI))))) ?_)
   refine xP (by decide +kernel) (zG [89, 88, 87, 11, 2, 1] ?_)
   change Run _ _ _ _ _ [(89, _), (88, _), (87, _), (11, _), (2, _), (1, _)] _ _
   refine zQ (zB ?_)
   refine zA (xO rfl rfl (by omega) ?_)
   refine zA (zF rfl rfl ?_)
   refine zC (uA 7 0 rfl rfl rfl ?_)
   rw [vO (f := fun x => (us.map srtV).getD x zV0) hld (by rw [uM hdv, List.getElem_map]), vO (f := fun x => Value.string (ks.getD x ⟨#[]⟩)) hld rfl]
   exact kQ (hK1 (i3 + 1, _, _, _, _, _) (by show i3 + 1 ≤ _; omega) (by show us.length - (i3 + 1) < us.length - i3; omega)) (eC rfl (eC rfl (eC rfl (eC rfl (eC rfl (eC rfl (eN _))))))) (hD := (subc 0 rfl sQ))
  refine zI rfl rfl rfl rfl (zI rfl rfl rfl rfl ?_)
  refine zI rfl rfl rfl rfl (zI rfl rfl rfl rfl ?_)
  refine zI rfl rfl rfl rfl (zI rfl rfl rfl rfl ?_)
  refine zI rfl rfl rfl rfl (zI rfl rfl rfl rfl ?_)
  refine zM rfl rfl (zR rfl rfl rfl ?_)
  refine zA (zR rfl rfl rfl ?_)
  refine zC (zG [131, 15, 14, 89, 88, 87, 11, 2, 1] ?_)
  change Run _ _ _ _ _ [(131, _), (15, _), (14, _), (89, _), (88, _), (87, _), (11, _), (2, _), (1, _)] _ _
  refine vB rfl (zL ?_)
  refine wH xQ (yO ?_)
  refine tP 0 rfl wanted0 (yT wS rfl) (tP 2 rfl wanted0 (yS rfl) ?_)
  refine tP 5 rfl wanted0 (yT wC rfl) (any_grpG (zU 0 rfl (zU 2 rfl (wJ _))) ?_)
  refine sS (zU 0 rfl (zU 2 rfl (wJ _))) 1 (wO _ _ _ _) rfl wanted0 (by decide +kernel) (by decide +kernel) (by decide +kernel) rfl (wB 1 sc22 rfl rfl rfl) (sS (zU 0 rfl (zU 2 rfl (wJ _))) 6 (wO _ _ _ _) rfl wanted0 (by decide +kernel) (by decide +kernel) (by decide +kernel) rfl (wB 1 sc23 rfl rfl rfl) ?_)
  refine sS (zU 0 rfl (zU 2 rfl (wJ _))) 7 (wO _ _ _ _) rfl wanted0 (by decide +kernel) (by decide +kernel) (by decide +kernel) rfl (st_loadW 0 rfl ag25 rfl) (sM (rs := [3, 8]) (by decide +kernel) (by simp) ?_)
  intro j hj
  simp only [List.mem_cons, List.not_mem_nil, or_false] at hj
  rcases hj with rfl | rfl
  ·refine yH (I2 := [[7, 6, 1], [5, 0], []]) rfl wanted0 (by decide +kernel) (fun Kd hKd => ?_)
   refine yC sl22 rfl rfl rfl rfl rfl (fun b136 => ?_)
   refine hKd _ _ _ (uY sK sQ (hC (zP (yI)))) ?_
   refine sM (rs := [4, 8]) (by decide +kernel) (by simp) ?_
   intro j hj
   simp only [List.mem_cons, List.not_mem_nil, or_false] at hj
   rcases hj with rfl | rfl
   ·refine yH (I2 := [[7, 6], [5], []]) rfl wanted0 (by decide +kernel) (fun Kd hKd => ?_)
    refine yP 2 0 sl22 rfl rfl rfl rfl rfl rfl rfl (by unfold maxLen; omega) (by omega) (fun A137 c137 => ?_)
    refine hKd _ _ _ (uY sK sQ (hC (zP (yI)))) ?_
    refine yO (tP 10 rfl wanted0 (yT wS rfl) ?_)
    refine yF 8 (by decide +kernel) ?_
    refine yH (I2 := [[10], [6], [5], []]) rfl wanted0 (by decide +kernel) (fun Kd hKd => ?_)
    refine yC sl23 rfl rfl rfl rfl rfl (fun b141 => ?_)
    refine hKd _ _ _ (hC (uY sK sQ (hC (zP (yI))))) ?_
    refine yF 9 (by decide +kernel) ?_
    refine yH (I2 := [[10], [], [], []]) rfl wanted0 (by decide +kernel) (fun Kd hKd => ?_)
    refine yP 4 0 sl23 rfl rfl rfl rfl rfl rfl rfl (by unfold maxLen; omega) (by omega) (fun A142 c142 => ?_)
    refine hKd _ _ _ (hC (zP (zP (zP (yI))))) (yF 11 (by decide +kernel) ?_)
    refine yH (I2 := [[], [], [], []]) rfl wanted0 (by decide +kernel) (fun Kd hKd => ?_)
    refine zS 5 (M' := [_, _, _, _, _, HA.blk _ [_, _, _, _, _] _, _, _, _]) rfl rfl rfl rfl si22 rfl rfl rfl (hKd _ _ _ (zP (zP (zP (zP (yI))))) ?_)
    refine tP 12 rfl wanted0 (yT wC rfl) (yF 13 (by decide +kernel) ?_)
    refine yH (I2 := [[], [], [], []]) rfl wanted0 (by decide +kernel) (fun Kd hKd => ?_)
    refine zS 5 (M' := [_, _, _, _, _, HA.blk _ [_, _, _, _, _] _, _, _, _]) rfl rfl rfl rfl si23 rfl rfl rfl (hKd _ _ _ (zP (zP (zP (zP (yI))))) ?_)
    refine xP (by decide +kernel) (zG [89, 88, 87, 11, 2, 1] ?_)
    change Run _ _ _ _ _ [(89, _), (88, _), (87, _), (11, _), (2, _), (1, _)] _ _
    refine zQ (zB ?_)
    refine zA (xO rfl rfl (by omega) ?_)
    refine zA (zF rfl rfl ?_)
    refine zC (uA 7 0 rfl rfl rfl ?_)
    rw [vO (f := fun x => (us.map srtV).getD x zV0) hld (by rw [uM hdv, List.getElem_map]), vO (f := fun x => Value.string (ks.getD x ⟨#[]⟩)) hld rfl]
    exact kQ (hK1 (i3 + 1, _, _, _, _, _) (by show i3 + 1 ≤ _; omega) (by show us.length - (i3 + 1) < us.length - i3; omega)) (eC rfl (eC rfl (eC rfl (eC rfl (eC rfl (eC rfl (eN _))))))) (hD := (subc 0 rfl sQ))
   refine yH (I2 := [[6, 1], [5, 0], []]) rfl wanted0 (by decide +kernel) (fun Kd hKd => ?_)
   refine yC sl23 rfl rfl rfl rfl rfl (fun b141 => ?_)
   refine hKd _ _ _ (uY sK sQ (hC (zP (yI)))) ?_
   refine yF 4 (by decide +kernel) ?_
   refine yH (I2 := [[6], [5], []]) rfl wanted0 (by decide +kernel) (fun Kd hKd => ?_)
   refine yP 3 1 sl22 rfl rfl rfl rfl rfl rfl rfl (by unfold maxLen; omega) (by omega) (fun A137 c137 => ?_)
   refine hKd _ _ _ (uY sK sQ (hC (zP (yI)))) ?_
   refine yO (tP 10 rfl wanted0 (yT wS rfl) ?_)
   refine yF 9 (by decide +kernel) ?_
   refine yH (I2 := [[10], [], [], []]) rfl wanted0 (by decide +kernel) (fun Kd hKd => ?_)
   refine yP 4 0 sl23 rfl rfl rfl rfl rfl rfl rfl (by unfold maxLen; omega) (by omega) (fun A142 c142 => ?_)
   refine hKd _ _ _ (hC (zP (zP (zP (yI))))) (yF 11 (by decide +kernel) ?_)
   refine yH (I2 := [[], [], [], []]) rfl wanted0 (by decide +kernel) (fun Kd hKd => ?_)
   refine zS 5 (M' := [_, _, _, _, _, HA.blk _ [_, _, _, _, _] _, _, _, _]) rfl rfl rfl rfl si22 rfl rfl rfl (hKd _ _ _ (zP (zP (zP (zP (yI))))) ?_)
   refine tP 12 rfl wanted0 (yT wC rfl) (yF 13 (by decide +kernel) ?_)
   refine yH (I2 := [[], [], [], []]) rfl wanted0 (by decide +kernel) (fun Kd hKd => ?_)
   refine zS 5 (M' := [_, _, _, _, _, HA.blk _ [_, _, _, _, _] _, _, _, _]) rfl rfl rfl rfl si23 rfl rfl rfl (hKd _ _ _ (zP (zP (zP (zP (yI))))) ?_)
   refine xP (by decide +kernel) (zG [89, 88, 87, 11, 2, 1] ?_)
   change Run _ _ _ _ _ [(89, _), (88, _), (87, _), (11, _), (2, _), (1, _)] _ _
   refine zQ (zB ?_)
   refine zA (xO rfl rfl (by omega) ?_)
   refine zA (zF rfl rfl ?_)
   refine zC (uA 7 0 rfl rfl rfl ?_)
   rw [vO (f := fun x => (us.map srtV).getD x zV0) hld (by rw [uM hdv, List.getElem_map]), vO (f := fun x => Value.string (ks.getD x ⟨#[]⟩)) hld rfl]
   exact kQ (hK1 (i3 + 1, _, _, _, _, _) (by show i3 + 1 ≤ _; omega) (by show us.length - (i3 + 1) < us.length - i3; omega)) (eC rfl (eC rfl (eC rfl (eC rfl (eC rfl (eC rfl (eN _))))))) (hD := (subc 0 rfl sQ))
  refine yH (I2 := [[6, 1], [5, 2, 0], []]) rfl wanted0 (by decide +kernel) (fun Kd hKd => ?_)
  refine yC sl23 rfl rfl rfl rfl rfl (fun b141 => ?_)
  refine hKd _ _ _ (uY sK sQ (hC (zP (yI)))) ?_
  refine yF 3 (by decide +kernel) ?_
  refine yH (I2 := [[6, 1], [5, 0], []]) rfl wanted0 (by decide +kernel) (fun Kd hKd => ?_)
  refine yC sl22 rfl rfl rfl rfl rfl (fun b136 => ?_)
  refine hKd _ _ _ (uY sK sQ (hC (zP (yI)))) ?_
  refine yF 4 (by decide +kernel) ?_
  refine yH (I2 := [[6], [5], []]) rfl wanted0 (by decide +kernel) (fun Kd hKd => ?_)
  refine yP 3 0 sl22 rfl rfl rfl rfl rfl rfl rfl (by unfold maxLen; omega) (by omega) (fun A137 c137 => ?_)
  refine hKd _ _ _ (uY sK sQ (hC (zP (yI)))) ?_
  refine yO (tP 10 rfl wanted0 (yT wS rfl) ?_)
  refine yF 9 (by decide +kernel) ?_
  refine yH (I2 := [[10], [], [], []]) rfl wanted0 (by decide +kernel) (fun Kd hKd => ?_)
  refine yP 4 1 sl23 rfl rfl rfl rfl rfl rfl rfl (by unfold maxLen; omega) (by omega) (fun A142 c142 => ?_)
  refine hKd _ _ _ (hC (zP (zP (zP (yI))))) (yF 11 (by decide +kernel) ?_)
  refine yH (I2 := [[], [], [], []]) rfl wanted0 (by decide +kernel) (fun Kd hKd => ?_)
  refine zS 5 (M' := [_, _, _, _, _, HA.blk _ [_, _, _, _, _] _, _, _, _]) rfl rfl rfl rfl si22 rfl rfl rfl (hKd _ _ _ (zP (zP (zP (zP (yI))))) ?_)
  refine tP 12 rfl wanted0 (yT wC rfl) (yF 13 (by decide +kernel) ?_)
  refine yH (I2 := [[], [], [], []]) rfl wanted0 (by decide +kernel) (fun Kd hKd => ?_)
  refine zS 5 (M' := [_, _, _, _, _, HA.blk _ [_, _, _, _, _] _, _, _, _]) rfl rfl rfl rfl si23 rfl rfl rfl (hKd _ _ _ (zP (zP (zP (zP (yI))))) ?_)
  refine xP (by decide +kernel) (zG [89, 88, 87, 11, 2, 1] ?_)
  change Run _ _ _ _ _ [(89, _), (88, _), (87, _), (11, _), (2, _), (1, _)] _ _
  refine zQ (zB ?_)
  refine zA (xO rfl rfl (by omega) ?_)
  refine zA (zF rfl rfl ?_)
  refine zC (uA 7 0 rfl rfl rfl ?_)
  rw [vO (f := fun x => (us.map srtV).getD x zV0) hld (by rw [uM hdv, List.getElem_map]), vO (f := fun x => Value.string (ks.getD x ⟨#[]⟩)) hld rfl]
  exact kQ (hK1 (i3 + 1, _, _, _, _, _) (by show i3 + 1 ≤ _; omega) (by show us.length - (i3 + 1) < us.length - i3; omega)) (eC rfl (eC rfl (eC rfl (eC rfl (eC rfl (eC rfl (eN _))))))) (hD := (subc 0 rfl sQ))
 obtain rfl : i3 = us.length := by omega
 have het : es.take us.length = es := by rw [← hel]; exact List.take_length
 rw [het]
 refine uE 0 (es.map fun x => ks.getD x ⟨#[]⟩) rfl (by simp [foots, HA.foot]) (by rw [List.map_map]; rfl) (by intro s hs; obtain ⟨x, hx, rfl⟩ := List.mem_map.1 hs; rw [uM (places_lt hep2 _ hx)]; exact hszs _ (List.getElem_mem _)) (rE 0 1 (es.map fun x => (us.map srtV).getD x zV0) rfl rfl (by simp [foots, HA.foot]) (by rw [List.length_map, hel]) ?_)
 refine uB 1 0 rfl rfl (s := ⟨#[]⟩) (q := 5) (m := 0) (by decide) (yL rfl ?_)
 refine zD (zB ?_)
 refine zA (yQ 0 rfl ag25 rfl rfl ?_)
 refine zA (zS 3 (M' := [_, _, _, HA.blk _ [_, _, _, _, _] _]) rfl rfl rfl rfl si25 rfl rfl rfl ?_)
 refine zA (zE rfl rfl ?_)
 refine zC ?_
 have hsv : srtV (.mk 5 0 ⟨#[]⟩ ks us) = .mk 5 0 ⟨#[]⟩ (es.map fun x => ks.getD x ⟨#[]⟩) (es.map fun x => (us.map srtV).getD x zV0) := by
  rw [srtV_map (places_srt zV0 ks (us.map srtV) es (by rw [List.length_map]; exact hl) hnd hep2 hes), List.map_map, List.map_map]
  rfl
 rw [hsv]
 refine uH (M' := [HA.blk b2 [_, _, _, _, _] 25]) (by repeat (first | exact wJ _ | refine zU 0 rfl ?_ | refine zU 1 rfl ?_ | refine zU 2 rfl ?_ | refine zU 3 rfl ?_ | refine zU 4 rfl ?_)) ?_
 exact vK 0 Tryz.results107 rfl rfl rfl ag25 ⟨rfl, _, rfl, KA, kc, KI, ic, by simp only [V.kind, V.num, V.text, V.keys, V.items, List.length_map, hel], rfl⟩ nS (sub1 0 rfl)
theorem c107 (fb : Addr) (u : V) : Pl (srtV u) → Eql u → C107 fb u := by
  refine V.indS (p := fun u => Pl (srtV u) → Eql u → C107 fb u) (fun u IH hp he => ?_) u
  have hk := ju_kind hp
  have hD : ∀ {b : Nat} {y : Y} {v : V}, CtR Tryz.prog 166 #[ptr b] [.node b y] (RVT v) → CtR Tryz.prog 166 #[ptr b] [.node b y, ftD fb] (RVT v) := fun h => Ct.data h (fun d hd => by rw [List.mem_singleton.1 hd]; exact List.mem_cons_self)
  intro b
  by_cases h4 : u.kind = 4
  · obtain ⟨hu, h60, hit⟩ := ju_l hp he h4
    have h1 := c107l fb b u.items h60 (fun x hx => IH x (xH hx) (hit x hx).1 (hit x hx).2)
    rw [← outY_l, ← srtV_no (q := 4) (n := 0) (s := ⟨#[]⟩) (ks := []) (by decide), ← hu] at h1
    exact h1
  by_cases h5 : u.kind = 5
  · obtain ⟨hu, hl, h60, hnd, hkw, hit⟩ := ju_m hp he h5
    have h1 := c107m fb b u.keys u.items hl h60 hnd (fun k hk => by have := (hkw k hk).1.2; unfold maxLen; omega) (fun x hx => IH x (xH hx) (hit x hx).1 (hit x hx).2) _ rfl
    rw [← outY_m, ← hu] at h1
    exact h1
  obtain ⟨hpu, hu⟩ := ju_scal hp h4 h5
  rw [hu]
  have hk8 : (outY u).kind = 8 := by rw [outY_kind hk.1 hk.2, if_neg h4, if_neg h5]
  refine c107s fb b _ u hk8 ?_
  have hnum := hpu.num
  rcases (by omega : u.kind = 0 ∨ u.kind = 1 ∨ u.kind = 2 ∨ u.kind = 3 ∨ u.kind = 6) with h | h | h | h | h
  · have hs := qN hpu (by omega) (by omega)
    obtain ⟨q, m, s, ks, ts⟩ := u
    simp only [V.kind] at h
    subst h
    simp only [V.kind, V.num, V.text, V.keys, V.items] at hs
    have e : V.mk 0 m s ks ts = .mk 0 0 ⟨#[]⟩ [] [] := by
      unfold IsScal at hs
      simp at hs
      simp [hs]
    rw [e, sO]
    exact hD (c166n b)
  · obtain ⟨hl, hn⟩ := leaf_bool hpu h
    rw [hl, outY_bool]
    rcases hn with hn | hn
    · rw [hn]; exact hD (c166f b)
    · rw [hn]; exact hD (c166t b)
  · have hl := leaf_int hpu h
    obtain ⟨a1, a2⟩ := hnum.num (by omega)
    rw [hl, outY_int]
    exact hD (c166i b _ a1 a2)
  · have hl := qD hpu h
    rw [hl, qE]
    exact hD (c166s b _)
  · have hl := leaf_q hpu h
    obtain ⟨a1, a2⟩ := hnum.num (by omega)
    have h0 := hpu.frac h
    rw [hl, outY_q]
    exact c166q fb b _ h0 a1 a2
end Go.Jw

namespace Go.Jw
open Go Go.RowKit Go.Proofs
set_option maxRecDepth 8000
section rules
variable {P : Program} {n : Nat} {F : List Nat} {c : Ctx F} {ops : Array Oper} {d : Nat} {T : TypeId} {l : List Oper} {k : List KI} {Q : Post} {e : Env} {M : List HA} {D : List DA}
theorem ops_frMany (i j : Nat) {mb : Nat} {G : Gr} (hi : M[i]? = some (.many 124 (Gr.blks G))) (hj : D[j]? = some (.graph mb G)) (hF : F = []) (next : RunOps P n c ops l k Q e (M.eraseIdx i) (.gr mb G :: D)) : RunOps P n c ops l k Q e M D :=
  ops_freeze (h := .many 124 (Gr.blks G)) [.gr mb G] (fun x _ h => by rw [hF] at h; cases h) (vS hi) (fun w ok h hok hD d hd => by
    rcases List.mem_singleton.1 hd with rfl
    intro g hg
    have hm : (g.1, g.2.1) ∈ Gr.blks G := List.mem_map.2 ⟨g, hg, rfl⟩
    refine ⟨⟨hok _ ?_, h _ hm⟩, (dget hD j hj : (DA.graph mb G).p w ok) g hg⟩
    simp only [HA.foot, List.mem_map]
    exact ⟨_, hm, rfl⟩) next
end rules
def RTV (t : V) (u : Value) (D' : List DA) : Prop := ∃ A1 c1 A2 c2, u = .agg #[.int .i64 0, .int .i64 t.kind, .int .i64 t.num, .string t.text, .slice A1 t.keys.length c1, .slice A2 t.items.length c2] ∧ D' = [.val (.agg #[.int .i64 t.kind, .int .i64 t.num, .string t.text, .slice A1 t.keys.length c1, .slice A2 t.items.length c2]) t]
theorem c107A (fb : Addr) {u : V} (hp : Pl (srtV u)) (he : Eql u) (b : Nat) : CtR Tryz.prog 107 #[ptr b] [.node b (outY u), ftA fb] (RVT (srtV u)) := Ct.wide (c107 fb u hp he b) (fun w ok h d hd => by
 have h4 := h (ftA fb) (by simp)
 simp only [List.mem_cons, List.not_mem_nil, or_false] at hd
 rcases hd with rfl | rfl
 ·exact h _ List.mem_cons_self
 ·exact h4.2)

theorem c108 (ft : DA) (mb : Nat) (G : Gr) (v : V) (b : Nat) (hU : Unf G v b) (hC : C105 ft mb G v) : CtR Tryz.prog 108 #[ptr b] [.gr mb G, .tab, ft] (fun u D' => ∃ y, OutR v y ∧ RN y u D') := by
 refine Ct.of_run (args := [ptr b]) Tryz.func108 (by kernel_rfl) rfl Tryz.ntmps108 rfl (fun c => ?_)
 refine zD (zB ?_)
 refine zA (zE rfl rfl ?_)
 refine zC (zD ?_)
 refine zB (zA ?_)
 refine zF rfl rfl (zA ?_)
 refine zW rfl rfl rfl (hC b hU) (subc 0 rfl (sub2 1 2 rfl rfl)) (fun u4 D4 hv4 => ?_)
 obtain ⟨y4, hy4, b4, rfl, rfl⟩ := hv4
 refine zA (zE rfl rfl ?_)
 exact zC (zK Tryz.results108 rfl ⟨rfl, y4, hy4, b4, rfl, rfl⟩ nS (sub1 0 rfl))
theorem c60 (fb : Addr) (mb : Nat) (G : Gr) (v : V) (b : Nat) (hU : Unf G v b) (hp : Pl v) (hs : IsShape v) : CtR Tryz.prog 60 #[ptr b] [.gr mb G, .tab, ftA fb] (RTV (wr v)) := by
 refine Ct.of_run (args := [ptr b]) Tryz.func60 (by kernel_rfl) rfl Tryz.ntmps60 rfl (fun c => ?_)
 refine zD (zB ?_)
 refine zA (yN ze34 rfl (fun b2 => ?_))
 change RunOps _ _ _ _ _ _ _ _ (HA.blk _ [_, _, _, _, _, _] _ :: _) _
 refine zC (zD ?_)
 refine zD (zB ?_)
 refine zA (zF rfl rfl ?_)
 refine zA (tR pn63 rfl rfl ?_)
 refine zC (yE rfl (rfl) ?_)
 refine zL (zD ?_)
 refine zB (zA ?_)
 refine zF rfl rfl (zA ?_)
 refine zW rfl rfl rfl (c108 (ftA fb) mb G v b hU (c105 (ftA fb) mb G v (.inl (numW fb)) hp hs)) (subc 0 rfl (sub2 1 2 rfl rfl)) (fun u10 D10 hv10 => ?_)
 obtain ⟨y10, hy10, b10, rfl, rfl⟩ := hv10
 obtain ⟨u, rfl, hu, he⟩ := out_wr v hp hs y10 hy10
 have hpu : Pl (srtV u) := hu ▸ pl_wr hs hp
 refine zA (zW rfl rfl rfl (c107A fb hpu he b10) (sub2 0 3 rfl rfl) (fun u11 D11 hv11 => ?_))
 obtain ⟨_, rfl, A11, m11, B11, d11, rfl, rfl⟩ := hv11
 rw [hu]
 refine zA (zF rfl rfl ?_)
 refine zA (yD rfl rfl rfl ?_)
 refine zA (yD rfl rfl rfl ?_)
 refine zA (yN ze25 rfl (fun b3 => ?_))
 change RunOps _ _ _ _ _ _ _ _ (HA.blk _ [_, _, _, _, _] _ :: _) _
 refine zA (zS 0 (M' := [HA.blk _ [_, _, _, _, _] _, _]) rfl rfl rfl rfl si25 rfl rfl rfl ?_)
 refine zA (zE rfl rfl ?_)
 refine zC (zG [4, 3, 2] ?_)
 change Run _ _ _ _ _ [(4, _), (3, _), (2, _)] _ _
 refine zD (zD ?_)
 refine zB (zA ?_)
 refine zF rfl rfl (zA ?_)
 refine vH rfl rfl (zC ?_)
 refine yE rfl (rfl) (zL ?_)
 refine zD (zB ?_)
 refine zA (yQ 0 rfl ag25 rfl rfl ?_)
 refine zA (xT rfl rfl (bu34_1 ..) ?_)
 refine zA (zS 1 (M' := [_, HA.blk _ [_, _, _, _, _, _] _]) rfl rfl rfl rfl si34 rfl rfl rfl ?_)
 refine zC ?_
 refine uH (M' := [HA.blk b2 [_, _, _, _, _, _] 34]) (by repeat (first | exact wJ _ | refine zU 0 rfl ?_ | refine zU 1 rfl ?_ | refine zU 2 rfl ?_ | refine zU 3 rfl ?_ | refine zU 4 rfl ?_)) ?_
 exact vE 0 Tryz.results60 rfl rfl ag34 ⟨rfl, A11, m11, B11, d11, rfl, rfl⟩ nS (sub1 0 rfl)
theorem sV {D D2 : List DA} (h : ∀ d ∈ D2, d ∈ D := by first | exact sub1 0 rfl | exact sub1 1 rfl | exact sub1 2 rfl | exact sub1 3 rfl | exact sub1 4 rfl | exact sub1 5 rfl | exact sub1 6 rfl) : ∀ d ∈ D2, d ∈ D := h
theorem c27 (a b : V) (ha : Wf a) (hb : Wf b) (y : Value) (A1 A2 : Option Addr) (c1 c2 : Nat) : CtV Tryz.prog 27 #[.agg #[.int .i64 0, .int .i64 a.kind, .int .i64 a.num, .string a.text, .slice A1 a.keys.length c1, .slice A2 a.items.length c2], y] [.val (.agg #[.int .i64 a.kind, .int .i64 a.num, .string a.text, .slice A1 a.keys.length c1, .slice A2 a.items.length c2]) a, .val y b] (.bool (tb (bareV a = bareV b))) := by
 refine Ct.of_run (args := [.agg #[.int .i64 0, .int .i64 a.kind, .int .i64 a.num, .string a.text, .slice A1 a.keys.length c1, .slice A2 a.items.length c2], y]) Tryz.func27 (by kernel_rfl) rfl Tryz.ntmps27 rfl (fun c => ?_)
 refine wR 1 rfl (fun B1 m1 B2 m2 hy hsz hk1 hk2 hi1 hi2 => ?_)
 subst hy
 refine zD (zB ?_)
 refine zA (xS rfl rfl rfl (fun b2 => ?_))
 refine zA (xS rfl rfl rfl (fun b3 => ?_))
 refine zA (zE rfl rfl ?_)
 refine zC (zD ?_)
 refine wH xQ (yO ?_)
 refine tP 0 rfl wanted0 (yT fo34_0 rfl) (xE ?_)
 refine tM 1 rfl wanted0 (wB 1 sc2 rfl rfl rfl) (tM 2 rfl wanted0 (st_eql rfl rfl) ?_)
 refine yO (tP 3 rfl wanted0 (yS rfl) ?_)
 refine any_knowT (s := 8) rfl (rfl) (tP 4 rfl (wanted1 rfl rfl) (yT fo34_1 rfl) ?_)
 refine xE (tM 5 rfl (wanted1 rfl rfl) (st_loadP 1 rfl ag25 rfl rfl rfl) ?_)
 refine tM 7 rfl (wanted1 rfl rfl) (st_loadW 0 rfl ag25 rfl) (yF 6 (by decide +kernel) ?_)
 refine yH (I2 := [[7], [], [], [], []]) rfl (wanted1 rfl rfl) (by decide +kernel) (fun Kd hKd => ?_)
 refine zW rfl rfl rfl (c26 a ha _) sV (fun u11 D11 hv11 => ?_)
 obtain ⟨A11, m11, B11, d11, rfl, rfl⟩ := hv11
 refine hKd _ _ _ (hC (zP (zP (zP (zP (yI)))))) (yF 8 (by decide +kernel) ?_)
 refine yH (I2 := [[], [], [], [], []]) rfl (wanted1 rfl rfl) (by decide +kernel) (fun Kd hKd => ?_)
 refine zW rfl rfl rfl (c26 b hb _) sV (fun u13 D13 hv13 => ?_)
 obtain ⟨A13, m13, B13, d13, rfl, rfl⟩ := hv13
 refine hKd _ _ _ (zP (zP (zP (zP (zP (yI)))))) (yF 9 (by decide +kernel) ?_)
 refine yH (I2 := [[], [], [], [], []]) rfl (wanted1 rfl rfl) (by decide +kernel) (fun Kd hKd => ?_)
 refine zY rfl rfl rfl (c25 (bareV a) (bareV b) _ _) (by first | exact sub2 0 1 rfl rfl | exact sub2 0 2 rfl rfl | exact sub2 0 3 rfl rfl | exact sub2 0 4 rfl rfl | exact sub2 1 0 rfl rfl | exact sub2 1 2 rfl rfl | exact sub2 1 3 rfl rfl | exact sub2 1 4 rfl rfl | exact sub2 2 0 rfl rfl | exact sub2 2 1 rfl rfl | exact sub2 2 3 rfl rfl | exact sub2 2 4 rfl rfl | exact sub2 3 0 rfl rfl | exact sub2 3 1 rfl rfl | exact sub2 3 2 rfl rfl | exact sub2 3 4 rfl rfl | exact sub2 4 0 rfl rfl | exact sub2 4 1 rfl rfl | exact sub2 4 2 rfl rfl | exact sub2 4 3 rfl rfl) (hKd _ _ _ (zP (zP (zP (zP (zP (yI)))))) ?_)
 refine yO (tP 10 rfl wanted0 (st_pick rfl rfl) ?_)
 refine tP 11 rfl wanted0 (wK rfl) (xP (by decide +kernel) ?_)
 refine zG [4] ?_
 change Run _ _ _ _ _ [(4, _)] _ _
 exact zK Tryz.results27 rfl ⟨rfl, rfl, rfl⟩ nS (fun _ h => by cases h)
end Go.Jw

namespace Go.Jw
open Go Go.RowKit Go.Proofs
set_option maxRecDepth 8000
theorem named_of {U : Nat → V → Prop} {x : V} {fv : FVal} (h : FvRel U 9 x fv) : ∃ l ps, fv = .named l ∧ ps.Perm (x.keys.zip x.items) ∧ All2 (fun (q : ByteArray × Nat) (p : ByteArray × V) => q.1 = p.1 ∧ U q.2 p.2) l ps := by
 cases fv <;> try exact absurd h.1 (by decide)
 case any => exact absurd (show (9 : Int) = 14 from h) (by decide)
 case named l =>
  obtain ⟨_, ps, hp, hU⟩ := h
  exact ⟨l, ps, rfl, hp, hU⟩
def Fnd (G : Gr) (v : V) (key name : ByteArray) (u : Value) : Prop := (∃ x z b, getV v key = some x ∧ getV x name = some z ∧ Unf G z b ∧ u = ptr b) ∨ (u = .pointer none ∧ ∀ x, getV v key = some x → getV x name = none)
def FndL (l : List (ByteArray × Nat)) (name : ByteArray) (u : Value) : Prop := (∃ q ∈ l, q.1 = name ∧ u = ptr q.2) ∨ (u = .pointer none ∧ ∀ q ∈ l, q.1 ≠ name)
theorem fnd_of {G : Gr} {v x : V} {key name : ByteArray} {l : List (ByteArray × Nat)} {ps : List (ByteArray × V)} {u : Value} (hx : getV v key = some x) (hpx : Pl x) (hk5 : x.kind = 5) (hperm : ps.Perm (x.keys.zip x.items)) (hall : All2 (fun (q : ByteArray × Nat) (p : ByteArray × V) => q.1 = p.1 ∧ Unf G p.2 q.2) l ps)
    (h : FndL l name u) : Fnd G v key name u := by
  rcases h with ⟨q, hq, rfl, rfl⟩ | ⟨rfl, hno⟩
  · obtain ⟨i, hi, rfl⟩ := List.getElem_of_mem hq
    have hip : i < ps.length := by rw [← hall.1]; exact hi
    obtain ⟨h1, h2⟩ := hall.2 i _ _ (List.getElem?_eq_getElem hi) (List.getElem?_eq_getElem hip)
    have hm : (ps[i].1, ps[i].2) ∈ x.keys.zip x.items := hperm.mem_iff.1 (List.getElem_mem hip)
    refine .inl ⟨x, ps[i].2, _, hx, ?_, h2, rfl⟩
    rw [h1]
    exact (vR hpx hk5).1 hm
  · refine .inr ⟨rfl, fun x' hx' => ?_⟩
    obtain rfl : x = x' := by rw [hx] at hx'; exact Option.some.inj hx'
    cases hg : getV x name with
    | none => rfl
    | some z =>
      exfalso
      obtain ⟨i, hi, he⟩ := List.getElem_of_mem (hperm.mem_iff.2 ((vR hpx hk5).2 hg))
      have hil : i < l.length := by rw [hall.1]; exact hi
      have := hall.2 i _ _ (List.getElem?_eq_getElem hil) (List.getElem?_eq_getElem hi)
      exact hno _ (List.getElem_mem hil) (by rw [this.1, he])
theorem sub_of {v x : V} {key : ByteArray} (hs : IsShape v) (hp : Pl v) (h9 : shapeOf key = 9) (hx : getV v key = some x) : Pl x ∧ x.kind = 5 ∧ ∀ z ∈ x.items, z.kind = 5 ∧ IsShape z ∧ Pl z := by
 obtain ⟨j, hj1, hj2⟩ := qB hx
 obtain ⟨hf, hkid, _⟩ := ((vF v).1 hs).2 j _ _ hj1 hj2
 have hm := List.mem_of_getElem? hj2
 rw [h9] at hf hkid
 obtain ⟨h5, hi⟩ := fits9.1 ⟨hf, hkid⟩
 exact ⟨hp.item x hm, h5, fun z hz => ⟨(hi z hz).kind, hi z hz, (hp.item x hm).item z hz⟩⟩
theorem norm_zip (v : V) : (normalV v).keys.zip (normalV v).items = ((v.keys.zip v.items).filter (fun p => isKw p.1)).map (fun p => (p.1, turnV (shapeOf p.1) normalV p.2)) := by
  rw [rF]
  unfold filterV
  simp only [V.keys, V.items]
  rw [List.zip_map]
  generalize (List.filter _ _) = l
  induction l with
  | nil => rfl
  | cons a l ih => simp [ih]
theorem pl_norm {v : V} (hs : IsShape v) (hp : Pl v) : Pl (normalV v) := hp.elim fun d h => ⟨d, plain_norm v hs d h⟩
theorem norm_get {v : V} (hs : IsShape v) (hp : Pl v) (key : ByteArray) : getV (normalV v) key = if isKw key = true then (getV v key).map (turnV (shapeOf key) normalV) else none := by
  have hget : ∀ y, getV (normalV v) key = some y ↔ ∃ x, getV v key = some x ∧ isKw key = true ∧ y = turnV (shapeOf key) normalV x := by
    intro y
    rw [← vR (pl_norm hs hp) (normal_kind v), norm_zip, List.mem_map]
    constructor
    · rintro ⟨⟨k', x⟩, hm, he⟩
      injection he with e1 e2
      subst e1; subst e2
      obtain ⟨h1, h2⟩ := List.mem_filter.1 hm
      exact ⟨x, (vR hp hs.kind).1 h1, h2, rfl⟩
    · rintro ⟨x, h1, h2, rfl⟩
      exact ⟨(key, x), List.mem_filter.2 ⟨(vR hp hs.kind).2 h1, h2⟩, rfl⟩
  cases h : getV (normalV v) key with
  | some y =>
    obtain ⟨x, h1, h2, rfl⟩ := (hget y).1 h
    rw [if_pos h2, h1]
    rfl
  | none =>
    split
    · rename_i hk
      cases hv : getV v key with
      | none => rfl
      | some x =>
        have := (hget _).2 ⟨x, hv, hk, rfl⟩
        rw [h] at this
        cases this
    · rfl
theorem getV_mk (q m : Int) (s : ByteArray) (ks : List ByteArray) (ts : List V) (key : ByteArray) : getV (.mk q m s ks ts) key = if findI ks key = -1 then none else ts[(findI ks key).toNat]? := rfl
theorem turn9_get {x : V} (h5 : ∀ z ∈ x.items, z.kind = 5) (name : ByteArray) : getV (turnV 9 normalV x) name = (getV x name).map normalV := by
  have e : turnV 9 normalV x = turnAll normalV x := by simp [turnV]
  rw [e]
  obtain ⟨q, m, s, ks, ts⟩ := x
  have h5 : ∀ z ∈ ts, z.kind = 5 := h5
  rw [show turnAll normalV (.mk q m s ks ts) = .mk q 0 ⟨#[]⟩ ks (ts.map (mapKids normalV)) from rfl, getV_mk, getV_mk]
  by_cases hk : findI ks name = -1
  · rw [if_pos hk, if_pos hk]
    rfl
  · rw [if_neg hk, if_neg hk, List.getElem?_map]
    cases h : ts[(findI ks name).toNat]? with
    | none => rfl
    | some z =>
      simp only [Option.map_some]
      rw [tL (h5 z (List.mem_of_getElem? h))]
def keyK (k : Int) : ByteArray := if k = 1 then k23 else if k = 2 then k24 else if k = 3 then k32 else ⟨#[]⟩
noncomputable def get2 (v : V) (k : Int) (name : ByteArray) : Option V := (getV v (keyK k)).bind fun x => getV x name
theorem keyK_cases (k : Int) : shapeOf (keyK k) = 9 ∧ isKw (keyK k) = true ∨ isKw (keyK k) = false := by
 unfold keyK
 split
 ·exact .inl (by decide +kernel)
 split
 ·exact .inl (by decide +kernel)
 split
 ·exact .inl (by decide +kernel)
 ·exact .inr (by decide +kernel)
theorem norm_get2 {v : V} (hs : IsShape v) (hp : Pl v) (k : Int) (name : ByteArray) (hk : isKw (keyK k) = true) : get2 (normalV v) k name = (get2 v k name).map normalV := by
  have h9 : shapeOf (keyK k) = 9 := (keyK_cases k).elim (fun h => h.1) (fun h => by rw [h] at hk; cases hk)
  unfold get2
  rw [norm_get hs hp, if_pos hk, h9]
  cases h : getV v (keyK k) with
  | none => rfl
  | some x => exact turn9_get (fun z hz => ((sub_of hs hp h9 h).2.2 z hz).1) name
theorem norm_get2n {v : V} (hs : IsShape v) (hp : Pl v) (k : Int) (name : ByteArray) (hk : isKw (keyK k) = false) : get2 (normalV v) k name = none := by
 unfold get2
 rw [norm_get hs hp, hk]
 rfl
theorem get_zV (name : ByteArray) : getV zV name = none := by
 unfold zV
 rw [getV_mk]
 by_cases hk : findI [] name = -1
 ·rw [if_pos hk]
 ·rw [if_neg hk]; rfl
theorem valp_shape {w : World} {ok : Nat → Prop} {t : V} {y : Value} (h : ValP w ok t y) : ∃ A1 c1 A2 c2, y = .agg #[.int .i64 t.kind, .int .i64 t.num, .string t.text, .slice A1 t.keys.length c1, .slice A2 t.items.length c2] := by
 obtain ⟨q, r, s, ks, its⟩ := t
 simp only [ValP] at h
 obtain ⟨kv, iv, rfl, _, ⟨A1, c1, rfl, _⟩, A2, c2, rfl, _⟩ := h
 exact ⟨A1, c1, A2, c2, rfl⟩
theorem c62v (x : Value) (t : V) (key : ByteArray) (hkl : t.keys.length ≤ t.items.length) : CtR Tryz.prog 62 #[x, .string key] [.val x t] (fun u D' => ∃ y, u = .tuple #[y, .bool (getV t key).isSome] ∧ RV ((getV t key).getD zV) y D') := by
 refine ⟨(c62 x t key hkl).1, fun w ok hok hM hn hD => Calls.mono ((c62 x t key hkl).2 w ok hok hM hn hD) ?_⟩
 rintro e w' ⟨u, M', D', rfl, ⟨hM', y, rfl, rfl⟩, hchg, hm, hn', hft, hd⟩
 obtain ⟨A1, c1, A2, c2, hy⟩ := valp_shape (hd _ List.mem_cons_self)
 exact ⟨_, M', _, rfl, ⟨hM', y, rfl, A1, c1, A2, c2, hy, rfl⟩, hchg, hm, hn', hft, hd⟩
abbrev Z6 : Value := .agg #[.int .i64 1, .int .i64 0, .int .i64 0, .string ⟨#[]⟩, .slice none 0 0, .slice none 0 0]
def RO : Option V → Value → List DA → Prop
  | some z, u, D' => RTV (wr z) u D'
  | none, u, D' => D' = [] ∧ u = Z6
theorem ro_agg {o : Option V} {u : Value} {D' : List DA} (h : RO o u D') : ∃ (k0 k1 k2 : Int) (s : ByteArray) (A1 : Option Addr) (n1 c1 : Nat) (A2 : Option Addr) (n2 c2 : Nat), u = .agg #[.int .i64 k0, .int .i64 k1, .int .i64 k2, .string s, .slice A1 n1 c1, .slice A2 n2 c2] := by
  cases o with
  | none => exact ⟨_, _, _, _, _, _, _, _, _, _, h.2⟩
  | some z =>
    obtain ⟨A1, c1, A2, c2, hu, _⟩ := h
    exact ⟨_, _, _, _, _, _, _, _, _, _, hu⟩

theorem c111n (name : ByteArray) : CtV Tryz.prog 111 #[.pointer none, .string name] [] (.pointer none) := by
 refine Ct.of_run (args := [.pointer none, .string name]) Tryz.func111 (by kernel_rfl) rfl Tryz.ntmps111 rfl (fun c => ?_)
 refine zD (zB ?_)
 refine zA (zE rfl rfl ?_)
 refine zC (zD ?_)
 refine zD (zB ?_)
 refine zA (zF rfl rfl ?_)
 refine zA (tR pn118 rfl rfl ?_)
 refine zC (yG rfl (rfl) ?_)
 refine zD (zB ?_)
 refine zA (zE rfl rfl ?_)
 refine zC ?_
 exact zK Tryz.results111 rfl ⟨rfl, rfl, rfl⟩ nS (fun _ h => by cases h)
theorem c111 (p : Addr) (name : ByteArray) (l : List (ByteArray × Nat)) (hl : l.length ≤ 400000) : CtR Tryz.prog 111 #[.pointer (some p), .string name] [.fv (.pointer (some p)) (.named l)] (fun u D' => D' = [] ∧ FndL l name u) := by
 refine Ct.of_run (args := [.pointer (some p), .string name]) Tryz.func111 (by kernel_rfl) rfl Tryz.ntmps111 rfl (fun c => ?_)
 refine run_named 0 rfl (fun p2 sl nbs hx => ?_)
 cases hx
 refine run_rowp 1 rfl (fun A1 c1 hx hk1 hk2 => ?_)
 subst hx
 refine run_namLen 2 rfl (fun hnl => ?_)
 unfold maxLen at hk2
 refine zD (zB ?_)
 refine zA (zE rfl rfl ?_)
 refine zC (zD ?_)
 refine zD (zB ?_)
 refine zA (zF rfl rfl ?_)
 refine zA (tR pn118 rfl rfl ?_)
 refine zC (yE rfl (rfl) ?_)
 refine zL (zD ?_)
 refine zD (zB ?_)
 refine zA (zF rfl rfl ?_)
 refine zA (zH rfl rfl ?_)
 refine zA (yW 0 sc110 rfl rfl rfl ?_)
 refine zA (yZ sl110 rfl rfl ?_)
 refine zA (zF rfl rfl ?_)
 refine zC (zO ?_)
 refine zG [13, 12, 11, 1] ?_
 change Run _ _ _ _ _ [(13, _), (12, _), (11, _), (1, _)] _ _
 refine wN 1 (fun (i : Nat) => i ≤ nbs.length ∧ ∀ (j : Nat) q, j < i → l[j]? = some q → q.1 ≠ name) (fun (i : Nat) => [(13, .int .i64 ((i : Nat) : Int))]) (fun (i : Nat) => nbs.length - i) 0 (⟨by show 0 ≤ _; omega, fun j q h => absurd h (Nat.not_lt_zero _)⟩) (eC rfl (eN _)) ?_ (eC rfl (eC rfl (eC rfl (eN _))))
 intro i hI K hK
 change Run _ _ _ _ _ [(13, _), (12, _), (11, _), (1, _)] _ _
 obtain ⟨hi, hno⟩ := hI
 refine zD (zB ?_)
 refine zA (xX rfl rfl rfl ?_)
 refine zC (zD ?_)
 refine zT rfl (fun h14 => ?_) (fun h14 => ?_)
 ·refine zL (zD ?_)
  refine zO (zD ?_)
  refine zB (zA ?_)
  refine qM 1 sl110 rfl rfl rfl rfl h14 ?_
  have hlt : i < nbs.length := h14
  have hll : i < l.length := by omega
  refine ops_nam 2 i rfl (List.getElem?_eq_getElem hll) (List.getElem?_eq_getElem hlt) (fun hks => ?_)
  refine zA (xD sc125 rfl rfl (fun _ h => rowp_cell h (j := 2) rfl (List.getElem?_eq_getElem hlt)) ?_)
  refine zA (zE rfl rfl ?_)
  refine zC (zD ?_)
  refine zB (zA ?_)
  refine zF rfl rfl (zA ?_)
  refine zH rfl rfl (zA ?_)
  refine zJ fo179_0 rfl rfl (zA ?_)
  refine zN 0 sc9 rfl rfl rfl rfl (zA ?_)
  refine zF rfl rfl (zA ?_)
  refine zZ rfl rfl rfl (zC ?_)
  refine zT rfl (fun h22 => ?_) (fun h22 => ?_)
  ·refine zD (zB ?_)
   refine zA (zF rfl rfl ?_)
   refine zA (zH rfl rfl ?_)
   refine zA (zJ fo179_1 rfl rfl ?_)
   refine zA (zN 0 sc63 rfl rfl rfl rfl ?_)
   refine zA (zE rfl rfl ?_)
   refine zC (zG [4] ?_)
   change Run _ _ _ _ _ [(4, _)] _ _
   exact zK Tryz.results111 rfl ⟨rfl, rfl, .inl ⟨_, List.getElem_mem hll, h22, rfl⟩⟩ nS (fun _ h => by cases h)
  refine zL (zQ ?_)
  refine zB (zA ?_)
  refine xO rfl rfl (by omega) (zA ?_)
  refine zF rfl rfl (zC ?_)
  refine zG [13, 12, 11, 1] ?_
  change Run _ _ _ _ _ [(13, _), (12, _), (11, _), (1, _)] _ _
  exact sP (hK (i + 1) (⟨by show i + 1 ≤ _; omega, fun j q hj hq => by
   rcases Nat.lt_or_ge j i with h | h
   ·exact hno j q h hq
   ·obtain rfl : j = i := by omega
    rw [List.getElem?_eq_getElem hll] at hq
    injection hq with hq
    rw [← hq]
    exact h22⟩) (by show nbs.length - (i + 1) < nbs.length - i; omega)) (eC rfl (eC rfl (eC rfl (eC rfl (eN _))))) sK sQ
 refine yL rfl (zD ?_)
 refine zB (zA ?_)
 refine zE rfl rfl (zC ?_)
 exact zK Tryz.results111 rfl ⟨rfl, rfl, .inr ⟨rfl, fun q hq => by obtain ⟨j, hj, rfl⟩ := List.getElem_of_mem hq; exact hno j _ (by omega) (List.getElem?_eq_getElem hj)⟩⟩ nS (fun _ h => by cases h)
theorem c66n (mb : Nat) (G : Gr) (b : Nat) (name : ByteArray) (f : Flds) (cs : List Value) (hg : (b, cs, f) ∈ G) (hf : f 23 = none) : CtV Tryz.prog 66 #[ptr b, .string name] [.gr mb G] (.pointer none) := by
 refine Ct.of_run (args := [ptr b, .string name]) Tryz.func66 (by kernel_rfl) rfl Tryz.ntmps66 rfl (fun c => ?_)
 refine run_gr 0 rfl hg (fun hcl => ?_)
 refine yY 1 23 rfl (by decide) (by decide) (fun p hc hpp => ?_)
 obtain rfl : p = none := by rw [hf] at hpp; cases p with | none => rfl | some a => cases hpp
 refine zD (zB ?_)
 refine zA (zE rfl rfl ?_)
 refine zC (zD ?_)
 refine zB (zA ?_)
 refine zF rfl rfl (zA ?_)
 refine zH rfl rfl (zA ?_)
 refine zJ qY rfl rfl (zA ?_)
 refine xD sc118 rfl rfl (fun _ h => tO h (j := 0) rfl hc) (zA ?_)
 refine zF rfl rfl (zA ?_)
 refine zY rfl rfl rfl (c111n name) sub0 (zA ?_)
 refine zE rfl rfl (zC ?_)
 exact zK Tryz.results66 rfl ⟨rfl, rfl, rfl⟩ nS (fun _ h => by cases h)
theorem c66s (mb : Nat) (G : Gr) (v : V) (b : Nat) (name : ByteArray) (f : Flds) (cs : List Value) (hg : (b, cs, f) ∈ G) (hU : ∀ i, 1 ≤ i → i ≤ 36 → FldRel (fun b x => Unf G x b) v i (f i)) (hs : IsShape v) (hp : Pl v) (hf : (f 23).isSome = true) : CtR Tryz.prog 66 #[ptr b, .string name] [.gr mb G] (fun u D' => D' = [] ∧ Fnd G v k23 name u) := by
 refine Ct.of_run (args := [ptr b, .string name]) Tryz.func66 (by kernel_rfl) rfl Tryz.ntmps66 rfl (fun c => ?_)
 refine run_gr 0 rfl hg (fun hcl => ?_)
 refine yY 1 23 rfl (by decide) (by decide) (fun p hc hpp => ?_)
 have hps : p.isSome = true := hpp.trans hf
 refine xW 1 23 rfl (by decide) (by decide) hc hpp hps hU (fun fv x a hpa hfv hgx hkw hr => ?_)
 subst hpa
 obtain ⟨l, ps, rfl, hperm, hall⟩ := named_of hr
 obtain ⟨hpx, hx5, hit⟩ := sub_of hs hp (by decide +kernel) hgx
 refine zD (zB ?_)
 refine zA (zE rfl rfl ?_)
 refine zC (zD ?_)
 refine zB (zA ?_)
 refine zF rfl rfl (zA ?_)
 refine zH rfl rfl (zA ?_)
 refine zJ qY rfl rfl (zA ?_)
 refine xD sc118 rfl rfl (fun _ h => tO h (j := 1) rfl hc) (zA ?_)
 refine zF rfl rfl (zA ?_)
 refine zW rfl rfl rfl (c111 a name l (by rw [hall.1]; exact pK hperm hpx.len)) (sub1 0 rfl) (fun u10 D10 hv10 => ?_)
 obtain ⟨rfl, hv10⟩ := hv10
 refine zA (zE rfl rfl ?_)
 refine zC ?_
 exact zK Tryz.results66 rfl ⟨rfl, rfl, fnd_of hgx hpx hx5 hperm hall hv10⟩ nS (fun _ h => by cases h)
theorem c66 (mb : Nat) (G : Gr) (v : V) (b : Nat) (name : ByteArray) (hU : Unf G v b) (hs : IsShape v) (hp : Pl v) : CtR Tryz.prog 66 #[ptr b, .string name] [.gr mb G] (fun u D' => D' = [] ∧ Fnd G v k23 name u) := by
  obtain ⟨f, ⟨cs, hg⟩, hU2⟩ := (rL G v b).1 hU
  cases h : f 23 with
  | some fv => exact c66s mb G v b name f cs hg hU2 hs hp (by rw [h]; rfl)
  | none =>
    refine (c66n mb G b name f cs hg h).mono fun u M' D' hu => ⟨hu.2.1, hu.2.2, .inr ⟨hu.1, fun x hx => ?_⟩⟩
    have hr := hU2 23 (by decide) (by decide)
    rw [h] at hr
    have := hr k23 (by decide +kernel)
    rw [this] at hx
    cases hx
theorem c67n (mb : Nat) (G : Gr) (b : Nat) (name : ByteArray) (f : Flds) (cs : List Value) (hg : (b, cs, f) ∈ G) (hf : f 24 = none) : CtV Tryz.prog 67 #[ptr b, .string name] [.gr mb G] (.pointer none) := by
 refine Ct.of_run (args := [ptr b, .string name]) Tryz.func67 (by kernel_rfl) rfl Tryz.ntmps67 rfl (fun c => ?_)
 refine run_gr 0 rfl hg (fun hcl => ?_)
 refine yY 1 24 rfl (by decide) (by decide) (fun p hc hpp => ?_)
 obtain rfl : p = none := by rw [hf] at hpp; cases p with | none => rfl | some a => cases hpp
 refine zD (zB ?_)
 refine zA (zE rfl rfl ?_)
 refine zC (zD ?_)
 refine zB (zA ?_)
 refine zF rfl rfl (zA ?_)
 refine zH rfl rfl (zA ?_)
 refine zJ qZ rfl rfl (zA ?_)
 refine xD sc118 rfl rfl (fun _ h => tO h (j := 0) rfl hc) (zA ?_)
 refine zF rfl rfl (zA ?_)
 refine zY rfl rfl rfl (c111n name) sub0 (zA ?_)
 refine zE rfl rfl (zC ?_)
 exact zK Tryz.results67 rfl ⟨rfl, rfl, rfl⟩ nS (fun _ h => by cases h)
theorem c67s (mb : Nat) (G : Gr) (v : V) (b : Nat) (name : ByteArray) (f : Flds) (cs : List Value) (hg : (b, cs, f) ∈ G) (hU : ∀ i, 1 ≤ i → i ≤ 36 → FldRel (fun b x => Unf G x b) v i (f i)) (hs : IsShape v) (hp : Pl v) (hf : (f 24).isSome = true) : CtR Tryz.prog 67 #[ptr b, .string name] [.gr mb G] (fun u D' => D' = [] ∧ Fnd G v k24 name u) := by
 refine Ct.of_run (args := [ptr b, .string name]) Tryz.func67 (by kernel_rfl) rfl Tryz.ntmps67 rfl (fun c => ?_)
 refine run_gr 0 rfl hg (fun hcl => ?_)
 refine yY 1 24 rfl (by decide) (by decide) (fun p hc hpp => ?_)
 have hps : p.isSome = true := hpp.trans hf
 refine xW 1 24 rfl (by decide) (by decide) hc hpp hps hU (fun fv x a hpa hfv hgx hkw hr => ?_)
 subst hpa
 obtain ⟨l, ps, rfl, hperm, hall⟩ := named_of hr
 obtain ⟨hpx, hx5, hit⟩ := sub_of hs hp (by decide +kernel) hgx
 refine zD (zB ?_)
 refine zA (zE rfl rfl ?_)
 refine zC (zD ?_)
 refine zB (zA ?_)
 refine zF rfl rfl (zA ?_)
 refine zH rfl rfl (zA ?_)
 refine zJ qZ rfl rfl (zA ?_)
 refine xD sc118 rfl rfl (fun _ h => tO h (j := 1) rfl hc) (zA ?_)
 refine zF rfl rfl (zA ?_)
 refine zW rfl rfl rfl (c111 a name l (by rw [hall.1]; exact pK hperm hpx.len)) (sub1 0 rfl) (fun u10 D10 hv10 => ?_)
 obtain ⟨rfl, hv10⟩ := hv10
 refine zA (zE rfl rfl ?_)
 refine zC ?_
 exact zK Tryz.results67 rfl ⟨rfl, rfl, fnd_of hgx hpx hx5 hperm hall hv10⟩ nS (fun _ h => by cases h)
theorem c67 (mb : Nat) (G : Gr) (v : V) (b : Nat) (name : ByteArray) (hU : Unf G v b) (hs : IsShape v) (hp : Pl v) : CtR Tryz.prog 67 #[ptr b, .string name] [.gr mb G] (fun u D' => D' = [] ∧ Fnd G v k24 name u) := by
  obtain ⟨f, ⟨cs, hg⟩, hU2⟩ := (rL G v b).1 hU
  cases h : f 24 with
  | some fv => exact c67s mb G v b name f cs hg hU2 hs hp (by rw [h]; rfl)
  | none =>
    refine (c67n mb G b name f cs hg h).mono fun u M' D' hu => ⟨hu.2.1, hu.2.2, .inr ⟨hu.1, fun x hx => ?_⟩⟩
    have hr := hU2 24 (by decide) (by decide)
    rw [h] at hr
    have := hr k24 (by decide +kernel)
    rw [this] at hx
    cases hx
theorem c68n (mb : Nat) (G : Gr) (b : Nat) (name : ByteArray) (f : Flds) (cs : List Value) (hg : (b, cs, f) ∈ G) (hf : f 32 = none) : CtV Tryz.prog 68 #[ptr b, .string name] [.gr mb G] (.pointer none) := by
 refine Ct.of_run (args := [ptr b, .string name]) Tryz.func68 (by kernel_rfl) rfl Tryz.ntmps68 rfl (fun c => ?_)
 refine run_gr 0 rfl hg (fun hcl => ?_)
 refine yY 1 32 rfl (by decide) (by decide) (fun p hc hpp => ?_)
 obtain rfl : p = none := by rw [hf] at hpp; cases p with | none => rfl | some a => cases hpp
 refine zD (zB ?_)
 refine zA (zE rfl rfl ?_)
 refine zC (zD ?_)
 refine zB (zA ?_)
 refine zF rfl rfl (zA ?_)
 refine zH rfl rfl (zA ?_)
 refine zJ pA rfl rfl (zA ?_)
 refine xD sc118 rfl rfl (fun _ h => tO h (j := 0) rfl hc) (zA ?_)
 refine zF rfl rfl (zA ?_)
 refine zY rfl rfl rfl (c111n name) sub0 (zA ?_)
 refine zE rfl rfl (zC ?_)
 exact zK Tryz.results68 rfl ⟨rfl, rfl, rfl⟩ nS (fun _ h => by cases h)
theorem c68s (mb : Nat) (G : Gr) (v : V) (b : Nat) (name : ByteArray) (f : Flds) (cs : List Value) (hg : (b, cs, f) ∈ G) (hU : ∀ i, 1 ≤ i → i ≤ 36 → FldRel (fun b x => Unf G x b) v i (f i)) (hs : IsShape v) (hp : Pl v) (hf : (f 32).isSome = true) : CtR Tryz.prog 68 #[ptr b, .string name] [.gr mb G] (fun u D' => D' = [] ∧ Fnd G v k32 name u) := by
 refine Ct.of_run (args := [ptr b, .string name]) Tryz.func68 (by kernel_rfl) rfl Tryz.ntmps68 rfl (fun c => ?_)
 refine run_gr 0 rfl hg (fun hcl => ?_)
 refine yY 1 32 rfl (by decide) (by decide) (fun p hc hpp => ?_)
 have hps : p.isSome = true := hpp.trans hf
 refine xW 1 32 rfl (by decide) (by decide) hc hpp hps hU (fun fv x a hpa hfv hgx hkw hr => ?_)
 subst hpa
 obtain ⟨l, ps, rfl, hperm, hall⟩ := named_of hr
 obtain ⟨hpx, hx5, hit⟩ := sub_of hs hp (by decide +kernel) hgx
 refine zD (zB ?_)
 refine zA (zE rfl rfl ?_)
 refine zC (zD ?_)
 refine zB (zA ?_)
 refine zF rfl rfl (zA ?_)
 refine zH rfl rfl (zA ?_)
 refine zJ pA rfl rfl (zA ?_)
 refine xD sc118 rfl rfl (fun _ h => tO h (j := 1) rfl hc) (zA ?_)
 refine zF rfl rfl (zA ?_)
 refine zW rfl rfl rfl (c111 a name l (by rw [hall.1]; exact pK hperm hpx.len)) (sub1 0 rfl) (fun u10 D10 hv10 => ?_)
 obtain ⟨rfl, hv10⟩ := hv10
 refine zA (zE rfl rfl ?_)
 refine zC ?_
 exact zK Tryz.results68 rfl ⟨rfl, rfl, fnd_of hgx hpx hx5 hperm hall hv10⟩ nS (fun _ h => by cases h)
theorem c68 (mb : Nat) (G : Gr) (v : V) (b : Nat) (name : ByteArray) (hU : Unf G v b) (hs : IsShape v) (hp : Pl v) : CtR Tryz.prog 68 #[ptr b, .string name] [.gr mb G] (fun u D' => D' = [] ∧ Fnd G v k32 name u) := by
  obtain ⟨f, ⟨cs, hg⟩, hU2⟩ := (rL G v b).1 hU
  cases h : f 32 with
  | some fv => exact c68s mb G v b name f cs hg hU2 hs hp (by rw [h]; rfl)
  | none =>
    refine (c68n mb G b name f cs hg h).mono fun u M' D' hu => ⟨hu.2.1, hu.2.2, .inr ⟨hu.1, fun x hx => ?_⟩⟩
    have hr := hU2 32 (by decide) (by decide)
    rw [h] at hr
    have := hr k32 (by decide +kernel)
    rw [this] at hx
    cases hx
theorem c60n : CtR Tryz.prog 60 #[.pointer none] [] (fun u D' => D' = [] ∧ u = Z6) := by
 refine Ct.of_run (args := [.pointer none]) Tryz.func60 (by kernel_rfl) rfl Tryz.ntmps60 rfl (fun c => ?_)
 refine zD (zB ?_)
 refine zA (yN ze34 rfl (fun b2 => ?_))
 change RunOps _ _ _ _ _ _ _ _ (HA.blk _ [_, _, _, _, _, _] _ :: _) _
 refine zC (zD ?_)
 refine zD (zB ?_)
 refine zA (zF rfl rfl ?_)
 refine zA (tR pn63 rfl rfl ?_)
 refine zC (yG rfl (rfl) ?_)
 refine zD (zB ?_)
 refine zA (xT rfl rfl (bu34_0 ..) ?_)
 refine zA (zS 0 (M' := [HA.blk _ [_, _, _, _, _, _] _]) rfl rfl rfl rfl si34 rfl rfl rfl ?_)
 refine zC ?_
 refine uH (M' := [HA.blk b2 [_, _, _, _, _, _] 34]) (by repeat (first | exact wJ _ | refine zU 0 rfl ?_ | refine zU 1 rfl ?_ | refine zU 2 rfl ?_ | refine zU 3 rfl ?_ | refine zU 4 rfl ?_)) ?_
 exact vE 0 Tryz.results60 rfl rfl ag34 ⟨rfl, rfl, rfl⟩ nS (fun _ h => by cases h)
theorem c60F (fb : Addr) (mb : Nat) (G : Gr) (v : V) (key name : ByteArray) (u : Value) (h9 : shapeOf key = 9) (hs : IsShape v) (hp : Pl v) (h : Fnd G v key name u) : CtR Tryz.prog 60 #[u] [.gr mb G, .tab, ftA fb] (RO ((getV v key).bind fun x => getV x name)) := by
  rcases h with ⟨x, z, b, hx, hz, hU, rfl⟩ | ⟨rfl, hno⟩
  · obtain ⟨hpx, hx5, hit⟩ := sub_of hs hp h9 hx
    obtain ⟨_, hsz, hpz⟩ := hit z (pI hz)
    rw [hx, Option.bind_some, hz]
    exact c60 fb mb G z b hU hpz hsz
  · have e : ((getV v key).bind fun x => getV x name) = none := by
      cases hx : getV v key with
      | none => rfl
      | some x => exact hno x hx
    rw [e]
    exact Ct.data c60n (fun d hd => by cases hd)
end Go.Jw

namespace Go.Jw
open Go Go.RowKit Go.Proofs
set_option maxRecDepth 8000
noncomputable def fnd2 (v : V) (k : Int) (name : ByteArray) : Option V := if isKw (keyK k) = true then get2 v k name else none
theorem norm_fnd {v : V} (hs : IsShape v) (hp : Pl v) (k : Int) (name : ByteArray) : get2 (normalV v) k name = (fnd2 v k name).map normalV := by
 unfold fnd2
 split
 ·rename_i h
  exact norm_get2 hs hp k name h
 ·rename_i h
  exact norm_get2n hs hp k name (by simpa using h)
theorem fnd2_1 (v : V) (name : ByteArray) : fnd2 v 1 name = (getV v k23).bind fun x => getV x name := if_pos (by decide +kernel)
theorem fnd2_2 (v : V) (name : ByteArray) : fnd2 v 2 name = (getV v k24).bind fun x => getV x name := if_pos (by decide +kernel)
theorem fnd2_3 (v : V) (name : ByteArray) : fnd2 v 3 name = (getV v k32).bind fun x => getV x name := if_pos (by decide +kernel)
theorem fnd2_no (v : V) (name : ByteArray) {k : Int} (h1 : ¬ k = 1) (h2 : ¬ k = 2) (h3 : ¬ k = 3) : fnd2 v k name = none := by
 unfold fnd2 keyK
 rw [if_neg h1, if_neg h2, if_neg h3]
 exact if_neg (by decide +kernel)
theorem get2_bind (v : V) (k : Int) (name : ByteArray) : getV ((getV v (keyK k)).getD zV) name = get2 v k name := by
  unfold get2
  cases h : getV v (keyK k) with
  | none => exact get_zV name
  | some x => rfl
theorem fnd_in {v z : V} {k : Int} {name : ByteArray} (hs : IsShape v) (hp : Pl v) (h : fnd2 v k name = some z) : IsShape z ∧ Pl z := by
  unfold fnd2 at h
  split at h
  · rename_i hk
    have h9 : shapeOf (keyK k) = 9 := (keyK_cases k).elim (fun h => h.1) (fun h => by rw [h] at hk; cases hk)
    unfold get2 at h
    cases hx : getV v (keyK k) with
    | none => rw [hx] at h; cases h
    | some x =>
      rw [hx] at h
      exact ((sub_of hs hp h9 hx).2.2 z (pI h)).2
  · cases h

theorem c32 (fb : Addr) (v : V) (x : Value) (k : Int) (name : ByteArray) (hp : Pl v) (hs : IsShape v) : CtR Tryz.prog 32 #[x, .int .i64 k, .string name] [.val x v, .tab, ftA fb] (RO (fnd2 v k name)) := by
 refine Ct.of_run (args := [x, .int .i64 k, .string name]) Tryz.func32 (by kernel_rfl) rfl Tryz.ntmps32 rfl (fun c => ?_)
 refine wR 0 rfl (fun A1 c1 A2 c2 hx hsz hk1 hk2 hi1 hi2 => ?_)
 subst hx
 refine zD (zB ?_)
 refine zA (xS rfl rfl rfl (fun b3 => ?_))
 refine zA (yN ze34 rfl (fun b6 => ?_))
 change RunOps _ _ _ _ _ _ _ _ (HA.blk _ [_, _, _, _, _, _] _ :: _) _
 refine zC (zD ?_)
 refine zB (zA ?_)
 refine yQ 1 rfl ag25 rfl rfl (zA ?_)
 refine op_call (M1 := []) rfl rfl rfl (c57 (ftA fb) false v _ (.inl (numC fb)) hp hs) rfl (subc 2 rfl (sub2 3 4 rfl rfl)) (fun u9 M9 D9 hv9 => ?_)
 obtain ⟨b9, G9, mb9, es9, ck9, rfl, rfl, rfl, hU9, hO9, hN9⟩ := hv9
 refine ops_frMany 0 0 rfl rfl rfl (zA ?_)
 refine zE rfl rfl (zC ?_)
 refine zD (zD ?_)
 refine zB (zA ?_)
 refine zF rfl rfl (zA ?_)
 refine tR pn63 rfl rfl (zC ?_)
 refine yE rfl (rfl) (zL ?_)
 refine zD (zD ?_)
 refine zB (zA ?_)
 refine zF rfl rfl (zC ?_)
 refine zO (zD ?_)
 refine zB (zA ?_)
 refine yA rfl rfl rfl (zA ?_)
 refine zE rfl rfl (zC ?_)
 refine zT rfl (fun h14 => ?_) (fun h14 => ?_)
 ·refine zD (zB ?_)
  refine zA (zF rfl rfl ?_)
  refine zA (zF rfl rfl ?_)
  refine zA (zW rfl rfl rfl (c66 mb9 G9 v b9 name hU9 hs hp) (sub1 0 rfl) (fun u18 D18 hv18 => ?_))
  obtain ⟨rfl, hv18⟩ := hv18
  refine zA ?_
  refine zW rfl rfl rfl (c60F fb mb9 G9 v k23 name _ (by decide +kernel) hs hp hv18) (subc 0 rfl (sub2 5 6 rfl rfl)) (fun u19 D19 hv19 => ?_)
  obtain ⟨k0, k1, k2, s0, E1, n1, e1, E2, n2, e2, rfl⟩ := ro_agg hv19
  refine zA (zS 1 (M' := [_, HA.blk _ [_, _, _, _, _, _] _, _]) rfl rfl rfl rfl si34 rfl rfl rfl ?_)
  refine zC (zG [6] ?_)
  change Run _ _ _ _ _ [(6, _)] _ _
  subst h14
  refine uH (M' := [HA.blk b6 [_, _, _, _, _, _] 34]) (by repeat (first | exact wJ _ | refine zU 0 rfl ?_ | refine zU 1 rfl ?_ | refine zU 2 rfl ?_ | refine zU 3 rfl ?_ | refine zU 4 rfl ?_)) ?_
  exact vE 0 Tryz.results32 rfl rfl ag34 ⟨rfl, (fnd2_1 v name).symm ▸ hv19⟩ nS (fun d hd => List.mem_append_left _ hd)
 refine zD (zB ?_)
 refine zA (yA rfl rfl rfl ?_)
 refine zA (zE rfl rfl ?_)
 refine zC (zG [20, 13, 7, 6, 2] ?_)
 change Run _ _ _ _ _ [(20, _), (13, _), (7, _), (6, _), (2, _)] _ _
 refine zT rfl (fun h20 => ?_) (fun h20 => ?_)
 ·refine zD (zB ?_)
  refine zA (zF rfl rfl ?_)
  refine zA (zF rfl rfl ?_)
  refine zA (zW rfl rfl rfl (c67 mb9 G9 v b9 name hU9 hs hp) (sub1 0 rfl) (fun u24 D24 hv24 => ?_))
  obtain ⟨rfl, hv24⟩ := hv24
  refine zA ?_
  refine zW rfl rfl rfl (c60F fb mb9 G9 v k24 name _ (by decide +kernel) hs hp hv24) (subc 0 rfl (sub2 5 6 rfl rfl)) (fun u25 D25 hv25 => ?_)
  obtain ⟨k0, k1, k2, s0, E1, n1, e1, E2, n2, e2, rfl⟩ := ro_agg hv25
  refine zA (zS 1 (M' := [_, HA.blk _ [_, _, _, _, _, _] _, _]) rfl rfl rfl rfl si34 rfl rfl rfl ?_)
  refine zC ?_
  subst h20
  refine uH (M' := [HA.blk b6 [_, _, _, _, _, _] 34]) (by repeat (first | exact wJ _ | refine zU 0 rfl ?_ | refine zU 1 rfl ?_ | refine zU 2 rfl ?_ | refine zU 3 rfl ?_ | refine zU 4 rfl ?_)) ?_
  exact vE 0 Tryz.results32 rfl rfl ag34 ⟨rfl, (fnd2_2 v name).symm ▸ hv25⟩ nS (fun d hd => List.mem_append_left _ hd)
 refine zD (zB ?_)
 refine zA (yA rfl rfl rfl ?_)
 refine zA (zE rfl rfl ?_)
 refine zC (zT rfl (fun h26 => ?_) (fun h26 => ?_))
 ·refine zD (zB ?_)
  refine zA (zF rfl rfl ?_)
  refine zA (zF rfl rfl ?_)
  refine zA (zW rfl rfl rfl (c68 mb9 G9 v b9 name hU9 hs hp) (sub1 0 rfl) (fun u30 D30 hv30 => ?_))
  obtain ⟨rfl, hv30⟩ := hv30
  refine zA ?_
  refine zW rfl rfl rfl (c60F fb mb9 G9 v k32 name _ (by decide +kernel) hs hp hv30) (subc 0 rfl (sub2 5 6 rfl rfl)) (fun u31 D31 hv31 => ?_)
  obtain ⟨k0, k1, k2, s0, E1, n1, e1, E2, n2, e2, rfl⟩ := ro_agg hv31
  refine zA (zS 1 (M' := [_, HA.blk _ [_, _, _, _, _, _] _, _]) rfl rfl rfl rfl si34 rfl rfl rfl ?_)
  refine zC (zG [6] ?_)
  change Run _ _ _ _ _ [(6, _)] _ _
  subst h26
  refine uH (M' := [HA.blk b6 [_, _, _, _, _, _] 34]) (by repeat (first | exact wJ _ | refine zU 0 rfl ?_ | refine zU 1 rfl ?_ | refine zU 2 rfl ?_ | refine zU 3 rfl ?_ | refine zU 4 rfl ?_)) ?_
  exact vE 0 Tryz.results32 rfl rfl ag34 ⟨rfl, (fnd2_3 v name).symm ▸ hv31⟩ nS (fun d hd => List.mem_append_left _ hd)
 refine zL (zQ ?_)
 refine zD (zB ?_)
 refine zA (xT rfl rfl (bu34_0 ..) ?_)
 refine zA (zS 1 (M' := [_, HA.blk _ [_, _, _, _, _, _] _, _]) rfl rfl rfl rfl si34 rfl rfl rfl ?_)
 refine zC ?_
 rw [fnd2_no v name h14 h20 h26]
 refine uH (M' := [HA.blk b6 [_, _, _, _, _, _] 34]) (by repeat (first | exact wJ _ | refine zU 0 rfl ?_ | refine zU 1 rfl ?_ | refine zU 2 rfl ?_ | refine zU 3 rfl ?_ | refine zU 4 rfl ?_)) ?_
 exact vE 0 Tryz.results32 rfl rfl ag34 ⟨rfl, rfl, rfl⟩ nS (fun _ h => by cases h)
theorem c31 (v : V) (x : Value) (k : Int) (name : ByteArray) (hp : Pl v) (hs : IsShape v) : CtR Tryz.prog 31 #[x, .int .i64 k, .string name] [.val x v] (fun u D' => ∃ y, u = .tuple #[y, .bool (get2 (normalV v) k name).isSome] ∧ RV ((get2 (normalV v) k name).getD zV) y D') := by
 have hle : ((getV (normalV v) (keyK k)).getD zV).keys.length ≤ ((getV (normalV v) (keyK k)).getD zV).items.length := by
  cases hg : getV (normalV v) (keyK k) with
  | none => exact Nat.le_refl _
  | some z => exact ((pl_norm hs hp).item z (pI hg)).wf.le
 refine Ct.of_run (args := [x, .int .i64 k, .string name]) Tryz.func31 (by kernel_rfl) rfl Tryz.ntmps31 rfl (fun c => ?_)
 refine wR 0 rfl (fun A1 c1 A2 c2 hx hsz hk1 hk2 hi1 hi2 => ?_)
 subst hx
 have hpn := pl_norm hs hp
 refine zD (zB ?_)
 refine zA (xS rfl rfl rfl (fun b3 => ?_))
 refine zA (yN ze25 rfl (fun b6 => ?_))
 change RunOps _ _ _ _ _ _ _ _ (HA.blk _ [_, _, _, _, _] _ :: _) _
 refine zA (zE rfl rfl ?_)
 refine zC (zD ?_)
 refine zB (zA ?_)
 refine zE rfl rfl (zC ?_)
 refine zD (zD ?_)
 refine zB (zA ?_)
 refine zF rfl rfl (zC ?_)
 refine zG [11, 8, 6, 3, 2] ?_
 change Run _ _ _ _ _ [(11, _), (8, _), (6, _), (3, _), (2, _)] _ _
 refine xA [6, 3, 2] (fun (s : ByteArray) => s = keyK k) (fun (s : ByteArray) => [(8, .string s)]) (fun (s : ByteArray) => HA.blk b6 [.int .i64 0, .int .i64 0, .string ⟨#[]⟩, .slice none 0 0, .slice none 0 0] 25 :: HA.blk b3 [.int .i64 v.kind, .int .i64 v.num, .string v.text, .slice A1 v.keys.length c1, .slice A2 v.items.length c2] 25 :: []) (fun (s : ByteArray) => .strs (.slice A1 v.keys.length c1) v.keys :: .vals (.slice A2 v.items.length c2) v.items :: .val (.agg #[.int .i64 v.kind, .int .i64 v.num, .string v.text, .slice A1 v.keys.length c1, .slice A2 v.items.length c2]) v :: []) ?_ ?_
 ·intro K hK
  refine zO (zD ?_)
  refine zB (zA ?_)
  refine yA rfl rfl rfl (zA ?_)
  refine zE rfl rfl (zC ?_)
  refine zT rfl (fun h12 => ?_) (fun h12 => ?_)
  ·refine zB (zA ?_)
   refine zE rfl rfl (zC ?_)
   refine zQ ?_
   exact kQ (hK _ (by show _ = keyK k; unfold keyK; repeat (first | rw [if_pos (by assumption)] | rw [if_neg (by assumption)]))) (eC rfl (eC rfl (eC rfl (eC rfl (eN _)))))
  refine zD (zB ?_)
  refine zA (yA rfl rfl rfl ?_)
  refine zA (zE rfl rfl ?_)
  refine zC (zT rfl (fun h14 => ?_) (fun h14 => ?_))
  ·refine zB (zA ?_)
   refine zE rfl rfl (zC ?_)
   refine zQ ?_
   exact kQ (hK _ (by show _ = keyK k; unfold keyK; repeat (first | rw [if_pos (by assumption)] | rw [if_neg (by assumption)]))) (eC rfl (eC rfl (eC rfl (eC rfl (eN _)))))
  refine zD (zB ?_)
  refine zA (yA rfl rfl rfl ?_)
  refine zA (zE rfl rfl ?_)
  refine zC (zT rfl (fun h16 => ?_) (fun h16 => ?_))
  ·refine zB (zA ?_)
   refine zE rfl rfl (zC ?_)
   refine zQ ?_
   exact kQ (hK _ (by show _ = keyK k; unfold keyK; repeat (first | rw [if_pos (by assumption)] | rw [if_neg (by assumption)]))) (eC rfl (eC rfl (eC rfl (eC rfl (eN _)))))
  refine zL (zQ ?_)
  exact kQ (hK _ (by show _ = keyK k; unfold keyK; repeat (first | rw [if_pos (by assumption)] | rw [if_neg (by assumption)]))) (eC rfl (eC rfl (eC rfl (eC rfl (eN _)))))
 intro s hI
 replace hI : s = keyK k := hI
 change Run _ _ _ _ _ [(8, .string s), (6, _), (3, _), (2, _)] (HA.blk b6 [.int .i64 0, .int .i64 0, .string ⟨#[]⟩, .slice none 0 0, .slice none 0 0] 25 :: HA.blk b3 [.int .i64 v.kind, .int .i64 v.num, .string v.text, .slice A1 v.keys.length c1, .slice A2 v.items.length c2] 25 :: []) (.strs (.slice A1 v.keys.length c1) v.keys :: .vals (.slice A2 v.items.length c2) v.items :: .val (.agg #[.int .i64 v.kind, .int .i64 v.num, .string v.text, .slice A1 v.keys.length c1, .slice A2 v.items.length c2]) v :: [])
 obtain rfl : s = keyK k := hI
 refine zD (zB ?_)
 refine zA (yQ 1 rfl ag25 rfl rfl ?_)
 refine zA ?_
 refine zW rfl rfl rfl (c22 v hp.wf _) sV (fun u20 D20 hv20 => ?_)
 obtain ⟨A20, m20, B20, d20, rfl, rfl⟩ := hv20
 refine zA (zF rfl rfl ?_)
 refine zA ?_
 refine zW rfl rfl rfl (c62v _ (normalV v) (keyK k) (hpn.wf.le)) sV (fun u22 D22 hv22 => ?_)
 obtain ⟨_, rfl, A22, m22, B22, d22, rfl, rfl⟩ := hv22
 refine zA (zF rfl rfl ?_)
 refine zA (yD rfl rfl rfl ?_)
 refine zA (yD rfl rfl rfl ?_)
 refine zA (yN ze25 rfl (fun b9 => ?_))
 change RunOps _ _ _ _ _ _ _ _ (HA.blk _ [_, _, _, _, _] _ :: _) _
 refine zA (zS 0 (M' := [HA.blk _ [_, _, _, _, _] _, _, _]) rfl rfl rfl rfl si25 rfl rfl rfl ?_)
 refine zA (zE rfl rfl ?_)
 refine zC (zG [9, 6, 2] ?_)
 change Run _ _ _ _ _ [(9, _), (6, _), (2, _)] _ _
 refine zD (zB ?_)
 refine zA (yQ 0 rfl ag25 rfl rfl ?_)
 refine zA (zF rfl rfl ?_)
 refine zA ?_
 refine zW rfl rfl rfl (c62v _ ((getV (normalV v) (keyK k)).getD zV) name hle) sV (fun u27 D27 hv27 => ?_)
 rw [get2_bind] at hv27
 obtain ⟨_, rfl, A27, m27, B27, d27, rfl, rfl⟩ := hv27
 refine zA (yD rfl rfl rfl ?_)
 refine zA (yD rfl rfl rfl ?_)
 refine zA (zS 1 (M' := [_, HA.blk _ [_, _, _, _, _] _, _]) rfl rfl rfl rfl si25 rfl rfl rfl ?_)
 refine zA (zE rfl rfl ?_)
 refine zC ?_
 refine uH (M' := [HA.blk b6 [_, _, _, _, _] 25]) (by repeat (first | exact wJ _ | refine zU 0 rfl ?_ | refine zU 1 rfl ?_ | refine zU 2 rfl ?_ | refine zU 3 rfl ?_ | refine zU 4 rfl ?_)) ?_
 exact vK 0 Tryz.results31 rfl rfl rfl ag25 ⟨rfl, _, rfl, A27, m27, B27, d27, rfl, rfl⟩ nS (sub1 0 rfl)
theorem l7s (fb : Addr) (v : V) (x : Value) (k : Int) (name : ByteArray) (hnm : name.size ≤ maxLen) (z : V) (hz : fnd2 v k name = some z) : CtV Tryz.prog 7 #[x, .int .i64 k, .string name] [.val x v, .tab, ftA fb] (.bool true) := by
 refine Ct.of_run (args := [x, .int .i64 k, .string name]) Tryz.func7 (by kernel_rfl) rfl Tryz.ntmps7 rfl (fun c => ?_)
 refine wR 0 rfl (fun A1 c1 A2 c2 hx hsz hk1 hk2 hi1 hi2 => ?_)
 subst hx
 refine zD (zB ?_)
 refine zA (xS rfl rfl rfl (fun b3 => ?_))
 refine zA (zE rfl rfl ?_)
 refine zC (zD ?_)
 refine zD (zB ?_)
 refine zA (yQ 0 rfl ag25 rfl rfl ?_)
 refine zA (zY rfl rfl rfl (c19 _ v) sV ?_)
 refine zA (vH rfl rfl ?_)
 refine zA (zF rfl rfl ?_)
 refine xG (s := 13) rfl (fun h13 => ?_) (fun h13 => ?_)
 ·refine zI rfl rfl rfl rfl (zI rfl rfl rfl rfl ?_)
  refine zI rfl rfl rfl rfl (zA ?_)
  refine zR rfl rfl rfl (zC ?_)
  refine zG [17, 3, 1, 2] ?_
  change Run _ _ _ _ _ [(17, _), (3, _), (1, _), (2, _)] _ _
  refine xL rfl (zD ?_)
  refine zB (zA ?_)
  refine zE rfl rfl (zC ?_)
  exact zK Tryz.results7 rfl ⟨rfl, rfl, rfl⟩ nS (fun _ h => by cases h)
 refine zM rfl rfl (zF rfl rfl ?_)
 refine zM rfl rfl (vC st9 rfl rfl ?_)
 refine zM rfl rfl (vI rfl rfl rfl ?_)
 refine zA (zR rfl rfl rfl ?_)
 refine zC (zG [17, 3, 1, 2] ?_)
 change Run _ _ _ _ _ [(17, _), (3, _), (1, _), (2, _)] _ _
 refine zT rfl (fun h17 => ?_) (fun h17 => ?_)
 ·refine zD (zB ?_)
  refine zA (zE rfl rfl ?_)
  refine zC ?_
  exact zK Tryz.results7 rfl ⟨rfl, rfl, rfl⟩ nS (fun _ h => by cases h)
 refine zL (zD ?_)
 refine zD (zB ?_)
 refine zA (yQ 0 rfl ag25 rfl rfl ?_)
 refine zA (zY rfl rfl rfl (c20 v _) sV ?_)
 refine zA (vH rfl rfl ?_)
 refine zC (yM rfl (fun h20 => ?_) (fun h20 => ?_))
 ·refine zD (zB ?_)
  refine zA (zE rfl rfl ?_)
  refine zC ?_
  exact zK Tryz.results7 rfl ⟨rfl, rfl, rfl⟩ nS (fun _ h => by cases h)
 have hsv := xI.1 (by simpa using h20)
 have hp : Pl v := ⟨12, hsv.1.1⟩
 have hs := hsv.2
 obtain ⟨hsz2, hpz⟩ := fnd_in hs hp hz
 have hwn : Wf (normalV z) := (pl_norm hsz2 hpz).wf
 have hpw := pl_wr hsz2 hpz
 refine zL (zD ?_)
 refine zB (zA ?_)
 refine yQ 0 rfl ag25 rfl rfl (zA ?_)
 refine zF rfl rfl (zA ?_)
 refine zF rfl rfl (zA ?_)
 refine zW rfl rfl rfl (c31 v _ k name hp hs) sV (fun u25 D25 hv25 => ?_)
 rw [norm_fnd hs hp, hz] at hv25
 obtain ⟨_, rfl, A25, m25, B25, d25, rfl, rfl⟩ := hv25
 refine zA (zF rfl rfl ?_)
 refine zA (yD rfl rfl rfl ?_)
 refine zA (yD rfl rfl rfl ?_)
 refine zA (yN ze25 rfl (fun b7 => ?_))
 change RunOps _ _ _ _ _ _ _ _ (HA.blk _ [_, _, _, _, _] _ :: _) _
 refine zA (zS 0 (M' := [HA.blk _ [_, _, _, _, _] _, _]) rfl rfl rfl rfl si25 rfl rfl rfl ?_)
 refine zA (zE rfl rfl ?_)
 refine zC (zG [8, 7, 3, 1, 2] ?_)
 change Run _ _ _ _ _ [(8, _), (7, _), (3, _), (1, _), (2, _)] _ _
 refine zD (zB ?_)
 refine zA (yQ 1 rfl ag25 rfl rfl ?_)
 refine zA (zF rfl rfl ?_)
 refine zA (zF rfl rfl ?_)
 refine zA ?_
 refine zW rfl rfl rfl (c32 fb v _ k name hp hs) (by intro d hd; simp only [List.mem_cons, List.not_mem_nil, or_false] at hd ⊢; rcases hd with rfl | rfl | rfl <;> simp) (fun u31 D31 hv31 => ?_)
 rw [hz] at hv31
 obtain ⟨A31, m31, B31, d31, rfl, rfl⟩ := hv31
 refine zA (yN ze34 rfl (fun b9 => ?_))
 change RunOps _ _ _ _ _ _ _ _ (HA.blk _ [_, _, _, _, _, _] _ :: _) _
 refine zA (zS 0 (M' := [HA.blk _ [_, _, _, _, _, _] _, _, _]) rfl rfl rfl rfl si34 rfl rfl rfl ?_)
 refine zC (zD ?_)
 refine zD (zB ?_)
 refine zA (zF rfl rfl ?_)
 refine zA (vH rfl rfl ?_)
 refine zC (zG [33, 9, 7] ?_)
 change Run _ _ _ _ _ [(33, _), (9, _), (7, _)] _ _
 refine yE rfl (rfl) (zL ?_)
 refine zD (zB ?_)
 refine zA (yQ 0 rfl ag34 rfl rfl ?_)
 refine zA (yQ 1 rfl ag25 rfl rfl ?_)
 refine zA (zY rfl rfl rfl (c27 (wr z) (normalV z) hpw.wf hwn _ _ _ _ _) (by first | exact sub2 0 1 rfl rfl | exact sub2 0 2 rfl rfl | exact sub2 0 3 rfl rfl | exact sub2 0 4 rfl rfl | exact sub2 0 5 rfl rfl | exact sub2 1 0 rfl rfl | exact sub2 1 2 rfl rfl | exact sub2 1 3 rfl rfl | exact sub2 1 4 rfl rfl | exact sub2 1 5 rfl rfl | exact sub2 2 0 rfl rfl | exact sub2 2 1 rfl rfl | exact sub2 2 3 rfl rfl | exact sub2 2 4 rfl rfl | exact sub2 2 5 rfl rfl | exact sub2 3 0 rfl rfl | exact sub2 3 1 rfl rfl | exact sub2 3 2 rfl rfl | exact sub2 3 4 rfl rfl | exact sub2 3 5 rfl rfl | exact sub2 4 0 rfl rfl | exact sub2 4 1 rfl rfl | exact sub2 4 2 rfl rfl | exact sub2 4 3 rfl rfl | exact sub2 4 5 rfl rfl | exact sub2 5 0 rfl rfl | exact sub2 5 1 rfl rfl | exact sub2 5 2 rfl rfl | exact sub2 5 3 rfl rfl | exact sub2 5 4 rfl rfl) ?_)
 refine zA (zE rfl rfl ?_)
 refine zC ?_
 exact zK Tryz.results7 rfl ⟨congrArg Value.bool (tb_t (bare_wr z)), rfl, rfl⟩ nS (fun _ h => by cases h)
theorem l7n (fb : Addr) (v : V) (x : Value) (k : Int) (name : ByteArray) (hnm : name.size ≤ maxLen) (hz : fnd2 v k name = none) : CtV Tryz.prog 7 #[x, .int .i64 k, .string name] [.val x v, .tab, ftA fb] (.bool true) := by
 refine Ct.of_run (args := [x, .int .i64 k, .string name]) Tryz.func7 (by kernel_rfl) rfl Tryz.ntmps7 rfl (fun c => ?_)
 refine wR 0 rfl (fun A1 c1 A2 c2 hx hsz hk1 hk2 hi1 hi2 => ?_)
 subst hx
 refine zD (zB ?_)
 refine zA (xS rfl rfl rfl (fun b3 => ?_))
 refine zA (zE rfl rfl ?_)
 refine zC (zD ?_)
 refine zD (zB ?_)
 refine zA (yQ 0 rfl ag25 rfl rfl ?_)
 refine zA (zY rfl rfl rfl (c19 _ v) sV ?_)
 refine zA (vH rfl rfl ?_)
 refine zA (zF rfl rfl ?_)
 refine xG (s := 13) rfl (fun h13 => ?_) (fun h13 => ?_)
 ·refine zI rfl rfl rfl rfl (zI rfl rfl rfl rfl ?_)
  refine zI rfl rfl rfl rfl (zA ?_)
  refine zR rfl rfl rfl (zC ?_)
  refine zG [17, 3, 1, 2] ?_
  change Run _ _ _ _ _ [(17, _), (3, _), (1, _), (2, _)] _ _
  refine xL rfl (zD ?_)
  refine zB (zA ?_)
  refine zE rfl rfl (zC ?_)
  exact zK Tryz.results7 rfl ⟨rfl, rfl, rfl⟩ nS (fun _ h => by cases h)
 refine zM rfl rfl (zF rfl rfl ?_)
 refine zM rfl rfl (vC st9 rfl rfl ?_)
 refine zM rfl rfl (vI rfl rfl rfl ?_)
 refine zA (zR rfl rfl rfl ?_)
 refine zC (zG [17, 3, 1, 2] ?_)
 change Run _ _ _ _ _ [(17, _), (3, _), (1, _), (2, _)] _ _
 refine zT rfl (fun h17 => ?_) (fun h17 => ?_)
 ·refine zD (zB ?_)
  refine zA (zE rfl rfl ?_)
  refine zC ?_
  exact zK Tryz.results7 rfl ⟨rfl, rfl, rfl⟩ nS (fun _ h => by cases h)
 refine zL (zD ?_)
 refine zD (zB ?_)
 refine zA (yQ 0 rfl ag25 rfl rfl ?_)
 refine zA (zY rfl rfl rfl (c20 v _) sV ?_)
 refine zA (vH rfl rfl ?_)
 refine zC (yM rfl (fun h20 => ?_) (fun h20 => ?_))
 ·refine zD (zB ?_)
  refine zA (zE rfl rfl ?_)
  refine zC ?_
  exact zK Tryz.results7 rfl ⟨rfl, rfl, rfl⟩ nS (fun _ h => by cases h)
 have hsv := xI.1 (by simpa using h20)
 have hp : Pl v := ⟨12, hsv.1.1⟩
 have hs := hsv.2
 
 refine zL (zD ?_)
 refine zB (zA ?_)
 refine yQ 0 rfl ag25 rfl rfl (zA ?_)
 refine zF rfl rfl (zA ?_)
 refine zF rfl rfl (zA ?_)
 refine zW rfl rfl rfl (c31 v _ k name hp hs) sV (fun u25 D25 hv25 => ?_)
 rw [norm_fnd hs hp, hz] at hv25
 obtain ⟨_, rfl, A25, m25, B25, d25, rfl, rfl⟩ := hv25
 refine zA (zF rfl rfl ?_)
 refine zA (yD rfl rfl rfl ?_)
 refine zA (yD rfl rfl rfl ?_)
 refine zA (yN ze25 rfl (fun b7 => ?_))
 change RunOps _ _ _ _ _ _ _ _ (HA.blk _ [_, _, _, _, _] _ :: _) _
 refine zA (zS 0 (M' := [HA.blk _ [_, _, _, _, _] _, _]) rfl rfl rfl rfl si25 rfl rfl rfl ?_)
 refine zA (zE rfl rfl ?_)
 refine zC (zG [8, 7, 3, 1, 2] ?_)
 change Run _ _ _ _ _ [(8, _), (7, _), (3, _), (1, _), (2, _)] _ _
 refine zD (zB ?_)
 refine zA (yQ 1 rfl ag25 rfl rfl ?_)
 refine zA (zF rfl rfl ?_)
 refine zA (zF rfl rfl ?_)
 refine zA ?_
 refine zW rfl rfl rfl (c32 fb v _ k name hp hs) (by intro d hd; simp only [List.mem_cons, List.not_mem_nil, or_false] at hd ⊢; rcases hd with rfl | rfl | rfl <;> simp) (fun u31 D31 hv31 => ?_)
 rw [hz] at hv31
 obtain ⟨rfl, rfl⟩ := hv31
 refine zA (yN ze34 rfl (fun b9 => ?_))
 change RunOps _ _ _ _ _ _ _ _ (HA.blk _ [_, _, _, _, _, _] _ :: _) _
 refine zA (zS 0 (M' := [HA.blk _ [_, _, _, _, _, _] _, _, _]) rfl rfl rfl rfl si34 rfl rfl rfl ?_)
 refine zC (zD ?_)
 refine zD (zB ?_)
 refine zA (zF rfl rfl ?_)
 refine zA (vH rfl rfl ?_)
 refine zC (zG [33, 9, 7] ?_)
 change Run _ _ _ _ _ [(33, _), (9, _), (7, _)] _ _
 refine yG rfl (rfl) (zD ?_)
 refine zB (zA ?_)
 refine zJ fo34_0 rfl rfl (zA ?_)
 refine zX 0 sc2 rfl rfl rfl rfl (zA ?_)
 refine yA rfl rfl rfl (zA ?_)
 refine zE rfl rfl (zC ?_)
 exact zK Tryz.results7 rfl ⟨rfl, rfl, rfl⟩ nS (fun _ h => by cases h)
theorem l7 (fb : Addr) (v : V) (x : Value) (k : Int) (name : ByteArray) (hnm : name.size ≤ maxLen) : CtV Tryz.prog 7 #[x, .int .i64 k, .string name] [.val x v, .tab, ftA fb] (.bool true) := by
  cases hz : fnd2 v k name with
  | none => exact l7n fb v x k name hnm hz
  | some z => exact l7s fb v x k name hnm z hz
end Go.Jw

namespace Go.Jw
open Go Go.RowKit Go.Proofs Go.ChangeShapes Go.WideShapes Go.Proofs.YtlcfillobkdnmaaGreatDoor
set_option maxRecDepth 8000
theorem lt_of_cell {w : World} {a : Addr} {v : Value} (h : w.cell? a = some v) : a.block < w.heap.size := by
 rcases Nat.lt_or_ge a.block w.heap.size with hlt | hge
 ·exact hlt
 ·unfold World.cell? at h
  rw [Array.getElem?_eq_none hge] at h
  simp at h
theorem ce9 : Tryz.prog.cellsOf 9 = 1 := by kernel_rfl
theorem ce25 : Tryz.prog.cellsOf 25 = 5 := by kernel_rfl
theorem ce2 : Tryz.prog.cellsOf 2 = 1 := by kernel_rfl
theorem ce22 : Tryz.prog.cellsOf 22 = 1 := by kernel_rfl
theorem ce23 : Tryz.prog.cellsOf 23 = 1 := by kernel_rfl
section
variable {H : Type} {enc : TypeId × Value → H} {W : World} {held : Bool}
theorem strs_of_trod {n : Nat} {kv : Value} {x : DataW H × List MemPlace} (h : DataW.trod enc Tryz.prog W 0 (fun _ => true) held n 22 [kv] = some x) : ∃ ks, StrsP W (· < W.heap.size) kv ks := by
 rcases open_strings Tryz.underlying22 Tryz.underlying9 ce9 h with ⟨h1, _⟩ | ⟨a, len, cap, ss, h1, _, hl, hc, hs, _, hg, hsz⟩
 ·injection h1 with h1
  exact ⟨[], none, 0, h1, Nat.le_refl _, Nat.zero_le _, (fun s hs => by cases hs), fun i s hi => by simp at hi⟩
 ·injection h1 with h1
  simp only [if_true] at hs
  have hlen : (ss.take len).length = len := by rw [List.length_take]; omega
  refine ⟨ss.take len, some a, cap, by rw [hlen]; exact h1, by omega, hc, fun s hm => hsz s (List.mem_of_mem_take hm), fun i s hi => ?_⟩
  have hil : i < len := by
   have := (List.getElem?_eq_some_iff.1 hi).1
   omega
  have hi' : ss[i]? = some s := by rw [← hi, List.getElem?_take]; simp [hil]
  have hcell := hg i (by omega)
  have hd : ss.getD i ByteArray.empty = s := by rw [List.getD_eq_getElem?_getD, hi']; rfl
  rw [hd] at hcell
  exact ⟨a, rfl, by have := lt_of_cell hcell; rwa [uU] at this, by rw [Nat.mul_one]; exact hcell⟩
theorem bulk_sum : ∀ (l : List V) (l' : List (DataW H)), l.length = l'.length → (∀ (i : Nat) t d, l[i]? = some t → l'[i]? = some d → 2 * nodes t ≤ Rows.uptoBulk d) → 2 * (l.map nodes).sum ≤ Rows.uptoBulkAll l'
  | [], _, _, _ => Nat.zero_le _
  | t :: l, [], h, _ => by simp at h
  | t :: l, d :: l', h, hi => by
    have h1 := hi 0 t d rfl rfl
    have h2 := bulk_sum l l' (by simpa using h) (fun i t d a b => hi (i + 1) t d (by simpa using a) (by simpa using b))
    simp only [List.map_cons, List.sum_cons, Rows.uptoBulkAll]
    omega
theorem val_of_trod (n : Nat) : ∀ (cs : List Value) (x : DataW H × List MemPlace), DataW.trod enc Tryz.prog W 0 (fun _ => true) held n 25 cs = some x → ∃ t, ValP W (· < W.heap.size) t (.agg cs.toArray) ∧ 2 * nodes t ≤ Rows.uptoBulk x.1 := by
  induction n using Nat.strongRecOn with
  | _ n IH =>
    intro cs x h
    obtain ⟨xs, m, hm, rfl, hl, hlen, hf⟩ := DataW.trod_struct Tryz.underlying25 h
    rw [ce25] at hl
    match cs, hl with
    | [c0, c1, c2, c3, c4], _ =>
    match xs, hlen with
    | [y0, y1, y2, y3, y4], _ =>
    have h0 : DataW.trod enc Tryz.prog W 0 (fun _ => true) held m 2 [c0] = some y0 := by simpa [ce2] using hf 0 _ rfl
    have h1 : DataW.trod enc Tryz.prog W 0 (fun _ => true) held m 2 [c1] = some y1 := by simpa [ce2] using hf 1 _ rfl
    have h2 : DataW.trod enc Tryz.prog W 0 (fun _ => true) held m 9 [c2] = some y2 := by simpa [ce9] using hf 2 _ rfl
    have h3 : DataW.trod enc Tryz.prog W 0 (fun _ => true) held m 22 [c3] = some y3 := by simpa [ce22] using hf 3 _ rfl
    have h4 : DataW.trod enc Tryz.prog W 0 (fun _ => true) held m 23 [c4] = some y4 := by simpa [ce23] using hf 4 _ rfl
    obtain ⟨k, e0, g0⟩ := DataW.trod_int Tryz.underlying2 h0
    obtain ⟨q, e1, _⟩ := DataW.trod_int Tryz.underlying2 h1
    obtain ⟨s, e2, _, hs⟩ := DataW.trod_string Tryz.underlying9 h2
    obtain ⟨ks, hks⟩ := strs_of_trod h3
    injection e0 with e0; injection e1 with e1; injection e2 with e2
    subst e0; subst e1; subst e2
    have hy0 : Rows.uptoBulk y0.1 = 1 := by rw [g0.1]; simp [Rows.uptoBulk]
    have hbulk : Rows.uptoBulk y4.1 + 2 ≤ Rows.uptoBulk (DataW.agg [y0.1, y1.1, y2.1, y3.1, y4.1]) := by
      simp only [Rows.uptoBulk, Rows.uptoBulkAll]
      omega
    show ∃ t, _ ∧ 2 * nodes t ≤ Rows.uptoBulk (DataW.agg [y0.1, y1.1, y2.1, y3.1, y4.1])
    rcases DataW.trod_slice Tryz.underlying23 h4 with ⟨h5, _⟩ | ⟨a, len, cap, elems, rest, m', hm', h5, h6, hb, hle, hc, hln, hel, hsp, _⟩
    · injection h5 with h5
      refine ⟨.mk k q s ks [], ?_, ?_⟩
      · simp only [ValP]
        exact ⟨_, _, rfl, hs, hks, none, 0, h5, Nat.le_refl _, Nat.zero_le _, by simp [ItemsP]⟩
      · rw [nodes_eq]; simp only [imk, List.map_nil, List.sum_nil]; omega
    · injection h5 with h5
      have hall : ∀ i, ∃ t, i < len → ∃ csi, ∃ y, elems[i]? = some y ∧ W.cells? 0 (a.add (i * 5)) 5 = some csi ∧ ValP W (· < W.heap.size) t (.agg csi.toArray) ∧ 2 * nodes t ≤ Rows.uptoBulk y.1 := by
        intro i
        by_cases hi : i < len
        · have he := hel i hi
          rw [ce25, List.getElem?_eq_getElem (by omega)] at he
          obtain ⟨csi, hcs, htr⟩ := Option.bind_eq_some_iff.1 he
          obtain ⟨t, ht, hnt⟩ := IH m' (by omega) csi _ htr
          exact ⟨t, fun _ => ⟨csi, _, List.getElem?_eq_getElem (by omega), hcs, ht, hnt⟩⟩
        · exact ⟨zV0, fun h => absurd h hi⟩
      obtain ⟨f, hfa⟩ := Classical.axiomOfChoice hall
      have hget : ∀ j t, ((List.range len).map f)[j]? = some t → j < len ∧ t = f j := by
        intro j t hj
        rw [List.getElem?_map] at hj
        obtain ⟨z, hz, rfl⟩ := Option.map_eq_some_iff.1 hj
        obtain ⟨h1, h2⟩ := List.getElem?_eq_some_iff.1 hz
        rw [List.getElem_range] at h2
        rw [List.length_range] at h1
        exact ⟨h1, by rw [h2]⟩
      refine ⟨.mk k q s ks ((List.range len).map f), ?_, ?_⟩
      · simp only [ValP]
        refine ⟨_, _, rfl, hs, hks, some a, cap, by rw [List.length_map, List.length_range]; exact h5, by rw [List.length_map, List.length_range]; exact hle, hc, ItemsP.of_get fun j t hj => ?_⟩
        obtain ⟨hjl, rfl⟩ := hget j t hj
        obtain ⟨csi, y, _, hcs, hv, _⟩ := hfa j hjl
        obtain ⟨_, hcl, hcc⟩ := World.cells?_some hcs
        have hadd : ∀ q, (a.add (j * 5)).add q = a.add ((0 + j) * 5 + q) := fun q => by rw [Nat.zero_add]; exact add_add' a _ _
        refine ⟨a, .agg csi.toArray, rfl, ?_, fun q u hq => ?_, hv⟩
        · have := hcc 0 (by omega)
          rw [List.getElem?_eq_getElem (by omega)] at this
          have := lt_of_cell this
          rwa [uU, uU] at this
        · have hq' : csi[q]? = some u := by simpa [Value.cells] using hq
          have hql := (List.getElem?_eq_some_iff.1 hq').1
          rw [← hadd, hcc q (by omega)]
          exact hq'
      · have hsum := bulk_sum ((List.range len).map f) (elems.map (·.1)) (by simp; omega) (fun i t d ht hd => by
          obtain ⟨hil, rfl⟩ := hget i t ht
          obtain ⟨csi, y, hy, _, _, hn⟩ := hfa i hil
          rw [List.getElem?_map, hy] at hd
          injection hd with hd
          rw [← hd]; exact hn)
        rw [nodes_eq]
        simp only [imk]
        have : Rows.uptoBulkAll (elems.map (·.1)) ≤ Rows.uptoBulk y4.1 := by
          rw [h6]
          simp only [Rows.uptoBulk]
          omega
        omega
end
end Go.Jw

namespace Go.Jw
open Go Go.RowKit Go.Proofs Go.ChangeShapes Go.WideShapes Go.Proofs.YtlcfillobkdnmaaGreatDoor
set_option maxRecDepth 8000
theorem qR {P : Program} {w : World} {n : String} {d : DataW Unit} : ∀ {l : List (String × DataW Unit)} {ps : List MemPlace}, DataW.LaidVars P w l ps → (n, d) ∈ l →
    ∃ g t cs fuel p, P.globalNamed n = some g ∧ (P.globals[g]?).map (·.type) = some t ∧ w.var? P n = some cs ∧ DataW.trod (fun _ => ()) P w 0 (fun _ => true) false fuel t cs.toList = some (d, p)
  | [], _, _, h => by cases h
  | (n', d') :: l, ps, ⟨g, t, cs, fuel, p, q, h1, h2, h3, h4, h5, _⟩, h => by
    rcases List.mem_cons.1 h with h | h
    · injection h with h h'
      subst h; subst h'
      exact ⟨g, t, cs, fuel, p, h1, h2, h3, h4⟩
    · exact qR h5 h
theorem gU : Tryz.prog.globalNamed "internal/strconv.uint64pow10" = some 0 := by kernel_rfl
theorem gUt : (Tryz.prog.globals[0]?).map (·.type) = some 270 := by kernel_rfl
theorem ce235 : Tryz.prog.cellsOf 235 = 1 := by kernel_rfl
theorem ce270 : Tryz.prog.cellsOf 270 = 20 := by kernel_rfl
theorem tab_of {W : World} {l : List (String × DataW Unit)} (h : laidMet Tryz.prog l W) (hm : ("internal/strconv.uint64pow10", Rows.laid_internal_strconv_uint64pow10) ∈ l) : DA.tab.p W (· < W.heap.size) := by
  obtain ⟨ps, hv, _⟩ := h
  obtain ⟨g, t, cs, fuel, p, h1, h2, h3, h4⟩ := qR hv hm
  obtain rfl := Option.some.inj (gU.symm.trans h1)
  obtain rfl := Option.some.inj (gUt.symm.trans h2)
  have hc := Lib.cells_of_tab (zs := Lib.pow10Tab) Tryz.underlying270 Tryz.underlying235 ce235 ce270 h4
  unfold World.var? at h3
  rw [h1] at h3
  simp only [Option.bind_some] at h3
  cases hh : W.heap[0]? with
  | none => rw [hh] at h3; cases h3
  | some o =>
    rw [hh] at h3
    cases o with
    | cells c T fz =>
      simp at h3
      subst h3
      refine ⟨0, T, fz, gU, (Array.getElem?_eq_some_iff.1 hh).1, ?_⟩
      rw [hh, ← hc]
    | _ => simp at h3
def DA.any : DA := ⟨fun _ _ => True, fun _ _ _ => trivial⟩
theorem calls_of {f : FuncId} {args : Array Value} {D : List DA} {v : Value} {W : World} (h : CtV Tryz.prog f args D v) (hD : ∀ d ∈ D, d.p W (· < W.heap.size)) : Calls Tryz.prog f args W fun e W' => e = .returned v ∧ Below W.heap.size W W' :=
 (h.2 W (· < W.heap.size) (fun k hk => ⟨hk, by simp [foots]⟩) (by simp) (by simp [foots]) hD).mono fun e W' ⟨u, M', D', he, ⟨hu, hM, hd⟩, hc, _⟩ => ⟨by rw [he, hu], hc.below⟩
theorem laidOut : laidOutB Tryz.prog = true := by kernel_rfl
end Go.Jw

namespace Go.Jw
open Go Go.RowKit Go.Proofs Go.ChangeShapes Go.WideShapes Go.Proofs.YtlcfillobkdnmaaGreatDoor
set_option maxRecDepth 20000
section
variable {W : World}
noncomputable abbrev trodU (W : World) (fuel : Nat) (t : TypeId) (cs : List Value) := DataW.trod (fun _ => ()) Tryz.prog W 0 (fun _ => true) false fuel t cs
theorem var_of {l : List (String × DataW Unit)} (h : laidMet Tryz.prog l W) {n : String} {d : DataW Unit} (hm : (n, d) ∈ l) {g t : Nat} (hg : Tryz.prog.globalNamed n = some g) (ht : (Tryz.prog.globals[g]?).map (·.type) = some t) :
    ∃ (c : Array Value) (fuel : Nat) (p : List MemPlace), (∀ (i : Nat) v, c.toList[i]? = some v → W.cell? ⟨g, i, none⟩ = some v) ∧ trodU W fuel t c.toList = some (d, p) := by
  obtain ⟨ps, hv, _⟩ := h
  obtain ⟨g', t', cs, fuel, p, h1, h2, h3, h4⟩ := qR hv hm
  obtain rfl := Option.some.inj (hg.symm.trans h1)
  obtain rfl := Option.some.inj (ht.symm.trans h2)
  refine ⟨cs, fuel, p, fun i v hi => ?_, h4⟩
  unfold World.var? at h3
  rw [h1] at h3
  simp only [Option.bind_some] at h3
  unfold World.cell?
  cases hh : W.heap[g]? with
  | none => rw [hh] at h3; cases h3
  | some o =>
    rw [hh] at h3
    cases o with
    | cells c T fz =>
      simp at h3
      subst h3
      simpa using hi
    | _ => simp at h3
theorem trod_fl {fuel : Nat} {t : TypeId} {cs : List Value} {x : DataW Unit × List MemPlace} (ht : Tryz.prog.underlying t = some (.float .f64)) (h : trodU W fuel t cs = some x) : ∃ b, cs = [.float .f64 b] ∧ x = (.lit (.float .f64 b), []) := by
  cases fuel with
  | zero => simp [trodU, DataW.trod] at h
  | succ n =>
    unfold trodU DataW.trod at h
    rw [ht] at h
    split at h <;> simp_all
theorem ce359 : Tryz.prog.cellsOf 359 = 2 := by kernel_rfl
theorem ce360 : Tryz.prog.cellsOf 360 = 1392 := by kernel_rfl
theorem ce214 : Tryz.prog.cellsOf 214 = 1 := by kernel_rfl
theorem get1 {cs : List Value} {o : Nat} {v : Value} (h : (cs.drop o).take 1 = [v]) : cs[o]? = some v := by
 have := congrArg (·[0]?) h
 simpa [List.getElem?_take, List.getElem?_drop] using this
theorem pair_of {fuel : Nat} {cs : List Value} {x : DataW Unit × List MemPlace} {a b : Int} (h : trodU W fuel 359 cs = some x) (hx : x.1 = .agg [.lit (.int .u64 a), .lit (.int .u64 b)]) : cs[0]? = some (.int .u64 a) ∧ cs[1]? = some (.int .u64 b) := by
  obtain ⟨xs, n, _, rfl, _, hl, hf⟩ := DataW.trod_struct Tryz.underlying359 h
  have h0 := hf 0 _ rfl
  have h1 := hf 1 _ rfl
  have hxs : xs.map (·.1) = [.lit (.int .u64 a), .lit (.int .u64 b)] := by
    have := hx
    simpa using this
  match xs, hxs with
  | [y0, y1], hxs =>
    simp only [List.map_cons, List.map_nil, List.cons.injEq, and_true] at hxs
    obtain ⟨m0, e0, f0, _⟩ := DataW.trod_int Tryz.underlying235 h0
    obtain ⟨m1, e1, f1, _⟩ := DataW.trod_int Tryz.underlying235 h1
    subst f0; subst f1
    simp only [DataW.lit.injEq, Lit.int.injEq, true_and] at hxs
    obtain ⟨rfl, rfl⟩ := hxs
    exact ⟨get1 (o := 0) e0, get1 (o := 1) e1⟩
theorem row_of {fuel : Nat} {cs : List Value} {p : List MemPlace} (h : trodU W fuel 360 cs = some (Go.Pinned.pow10Tab, p)) (i : Nat) (hi : i < 696) {a b : Nat} (hr : Go.Pinned.pow10Rows[i]? = some (a, b)) : cs[2 * i]? = some (.int .u64 a) ∧ cs[2 * i + 1]? = some (.int .u64 b) := by
  cases fuel with
  | zero => simp [trodU, DataW.trod] at h
  | succ fuel =>
    simp only [trodU, DataW.trod, Tryz.underlying360, ce359, ce360] at h
    split at h
    · obtain ⟨xs, hm, hx⟩ := Option.map_eq_some_iff.1 h
      obtain ⟨y, hy, hf⟩ := Lib.mapM_at hm i i (by simp [hi])
      have hxs : xs.map (·.1) = Go.Pinned.pow10Rows.map fun x => .agg [.lit (.int .u64 x.1), .lit (.int .u64 x.2)] := by
        have := congrArg Prod.fst hx
        simpa [Go.Pinned.pow10Tab] using this
      have hy1 : y.1 = .agg [.lit (.int .u64 (a : Int)), .lit (.int .u64 (b : Int))] := by
        have := congrArg (·[i]?) hxs
        simp only [List.getElem?_map, hy, hr, Option.map_some, Option.some.injEq] at this
        exact this
      obtain ⟨h0, h1⟩ := pair_of hf hy1
      rw [List.getElem?_take, if_pos (by omega), List.getElem?_drop] at h0 h1
      rw [Nat.mul_comm 2 i]
      exact ⟨h0, h1⟩
    · cases h
theorem p10Tab (i : Nat) (h : i < 20) : Lib.pow10Tab[i]? = some ((10 ^ i : Nat) : Int) := (show ∀ i, i < 20 → Lib.pow10Tab[i]? = some ((10 ^ i : Nat) : Int) by decide) i h
theorem g4 : Tryz.prog.globalNamed "internal/strconv.optimize" = some 4 := by kernel_rfl
theorem g4t : (Tryz.prog.globals[4]?).map (·.type) = some 4 := by kernel_rfl
theorem g5 : Tryz.prog.globalNamed "internal/strconv.float64info" = some 5 := by kernel_rfl
theorem g5t : (Tryz.prog.globals[5]?).map (·.type) = some 305 := by kernel_rfl
theorem g10 : Tryz.prog.globalNamed "internal/strconv.float64pow10" = some 10 := by kernel_rfl
theorem g10t : (Tryz.prog.globals[10]?).map (·.type) = some 349 := by kernel_rfl
theorem g11 : Tryz.prog.globalNamed "internal/strconv.pow10Tab" = some 11 := by kernel_rfl
theorem g11t : (Tryz.prog.globals[11]?).map (·.type) = some 360 := by kernel_rfl
theorem r354 : Go.Pinned.pow10Rows[354]? = some (17592186044416000000, 0) := by kernel_rfl
theorem r355 : Go.Pinned.pow10Rows[355]? = some (10995116277760000000, 0) := by kernel_rfl
theorem ft_of {l : List (String × DataW Unit)} (h : laidMet Tryz.prog l W) (m0 : ("internal/strconv.uint64pow10", Rows.laid_internal_strconv_uint64pow10) ∈ l) (m4 : ("internal/strconv.optimize", Rows.laid_internal_strconv_optimize) ∈ l)
  (m5 : ("internal/strconv.float64info", Rows.laid_internal_strconv_float64info) ∈ l) (m10 : ("internal/strconv.float64pow10", Rows.laid_internal_strconv_float64pow10) ∈ l) (m11 : ("internal/strconv.pow10Tab", Rows.laid_internal_strconv_pow10Tab) ∈ l) :
  ∃ fb, (ftA fb).p W (· < W.heap.size) := by
 obtain ⟨c0, fu0, p0, k0, t0⟩ := var_of h m0 gU gUt
 obtain ⟨c4, fu4, p4, k4, t4⟩ := var_of h m4 g4 g4t
 obtain ⟨c5, fu5, p5, k5, t5⟩ := var_of h m5 g5 g5t
 obtain ⟨c10, fu10, p10, k10, t10⟩ := var_of h m10 g10 g10t
 obtain ⟨c11, fu11, p11, k11, t11⟩ := var_of h m11 g11 g11t
 have e0 := Lib.cells_of_tab (zs := Lib.pow10Tab) Tryz.underlying270 Tryz.underlying235 ce235 ce270 t0
 obtain ⟨b4, e4, f4⟩ := DataW.trod_bool Tryz.underlying4 t4
 have hb4 : b4 = true := by
  have := congrArg Prod.fst f4
  simp only [Rows.laid_internal_strconv_optimize, DataW.lit.injEq, Lit.bool.injEq] at this
  exact this.symm
 obtain ⟨xs5, n5, _, f5, _, _, hf5⟩ := DataW.trod_struct Tryz.underlying305 t5
 have h50 := hf5 0 _ rfl
 have hx5 : (xs5.map (·.1))[0]? = some (.lit (.int .u64 52)) := by
  have := congrArg Prod.fst f5
  simp only [Rows.laid_internal_strconv_float64info, DataW.agg.injEq] at this
  rw [← this]; rfl
 rw [List.getElem?_map] at hx5
 obtain ⟨y5, hy5, hy51⟩ := Option.map_eq_some_iff.1 hx5
 rw [hy5] at h50
 obtain ⟨m5v, e5, fy5, _⟩ := DataW.trod_int Tryz.underlying206 h50
 have hm5 : m5v = 52 := by
  rw [fy5] at hy51
  simp only [DataW.lit.injEq, Lit.int.injEq, true_and] at hy51
  exact hy51
 obtain ⟨h708, h709⟩ := row_of t11 354 (by decide) r354
 obtain ⟨h710, h711⟩ := row_of t11 355 (by decide) r355
 rcases DataW.trod_slice Tryz.underlying349 t10 with ⟨_, hx⟩ | ⟨a, len, cap, elems, rest, n10, _, e10, f10, _, hlc, _, hel, hell, hrest, _⟩
 ·have := congrArg Prod.fst hx
  simp [Rows.laid_internal_strconv_float64pow10] at this
 have hd := congrArg Prod.fst f10
 simp only [Rows.laid_internal_strconv_float64pow10, DataW.slice.injEq] at hd
 obtain ⟨hd1, hd2⟩ := hd
 have hlen : len = 23 := by
  rw [← hel]
  have := congrArg List.length hd1
  simpa using this.symm
 have hcap : cap = 23 := by
  have h1 := (hrest rfl).1
  have h2 : rest = [] := List.map_eq_nil_iff.1 hd2.symm
  rw [h2] at h1
  simp only [List.length_nil] at h1
  omega
 have hfl : ∀ i m, i < 23 → (elems.map (·.1))[i]? = some (.lit (.float .f64 m)) → W.cell? (a.add i) = some (.float .f64 m) := fun i m hi hm => by
  rw [List.getElem?_map] at hm
  obtain ⟨y, hy, hy1⟩ := Option.map_eq_some_iff.1 hm
  have h1 := hell i (by omega)
  rw [hy, ce214, Nat.mul_one] at h1
  obtain ⟨cs, hcs, ht⟩ := Option.bind_eq_some_iff.1 h1
  obtain ⟨q, rfl, fq⟩ := trod_fl Tryz.underlying214 ht
  rw [fq] at hy1
  simp only [DataW.lit.injEq, Lit.float.injEq, true_and] at hy1
  subst hy1
  unfold World.cells? at hcs
  split at hcs
  ·obtain ⟨v, hv, hv2⟩ := Lib.mapM_at hcs 0 0 rfl
   simp only [List.getElem?_cons_zero, Option.some.injEq] at hv
   rw [hv]
   simpa [Addr.add] using hv2
  ·cases hcs
 rw [← hd1] at hfl
 refine ⟨a, tab_of h m0, fun q hq => ?_⟩
 suffices hc : W.cell? q.1 = some q.2 from ⟨lt_of_cell hc, hc⟩
 simp only [ftL, List.cons_append, List.nil_append, List.mem_cons, List.mem_map, List.mem_range] at hq
 rcases hq with rfl | rfl | rfl | rfl | rfl | rfl | rfl | rfl | rfl | rfl | ⟨i, hi, rfl⟩
 ·exact k4 0 _ (by rw [e4, hb4]; rfl)
 ·exact k5 0 _ (by rw [← hm5]; exact get1 (o := 0) e5)
 ·exact k10 0 _ (by rw [e10, hlen, hcap]; rfl)
 ·exact hfl 1 _ (by decide) rfl
 ·exact hfl 2 _ (by decide) rfl
 ·exact hfl 6 _ (by decide) rfl
 ·exact k11 708 _ h708
 ·exact k11 709 _ h709
 ·exact k11 710 _ h710
 ·exact k11 711 _ h711
 ·exact k0 i _ (by rw [e0, List.getElem?_map, p10Tab i hi]; rfl)
end
end Go.Jw

namespace Go.Jw
open Go Go.RowKit Go.Proofs Go.ChangeShapes Go.WideShapes Go.ChangeAt Go.Proofs.YtlcfillobkdnmaaGreatDoor
set_option maxRecDepth 8000
theorem post_of_below {H : Type} {enc : TypeId × Value → H} {P : Program} {f : Func} {s : ChangeSpec} {apart fresh handsOn again : Bool} {W W' : World} {args : Array Value} {v : Value} {ds gs : List (DataW H)} {before pa pv : List MemPlace}
  (hW : DataW.Whole enc P f.params.toList s.vars apart W args.toList ds gs before)
  (hres : ∀ (b : Nat) (sp : Nat → Bool) (hd : Bool), DataW.TrodAll enc P W' b sp hd f.resultTypes.toList (v.resultList f.resultTypes.size) (s.fn H (ds ++ gs)).results [])
  (hargs : ∀ sp : Nat → Bool, (∀ p ∈ before, sp p.block = true) → DataW.TrodAll enc P W' 0 sp true f.params.toList args.toList (s.fn H (ds ++ gs)).args pa)
  (hvars : ∀ sp : Nat → Bool, (∀ p ∈ before, sp p.block = true) → DataW.TrodVars enc P W' sp s.vars (s.fn H (ds ++ gs)).vars pv)
  (hps : before = pa ++ pv) (hb : Below W.heap.size W W')
  (hok : ∀ (j : Nat) (t : TypeId) (r : Value), f.resultTypes[j]? = some t → (v.resultList f.resultTypes.size)[j]? = some r → Value.okWide P W' .any 0 t r) :
  s.post enc P f apart fresh handsOn again W args v W' := by
 have hlt := hW.lt
 have hold : ∀ p ∈ before, (fun b => decide (b < W.heap.size)) p.block = true := fun p hp => by simpa using hlt p hp
 refine ⟨ds, gs, before, [], pa, pv, hW, hres _ _ _, hargs _ hold, hvars _ hold, hb.frame _, fun _ => ?_⟩
 obtain ⟨_, _, _, _, _, hz, hn⟩ := hW
 refine ⟨hok, _, _, ([] ++ pa) ++ pv, ⟨[] ++ pa, pv, trodAll_append (hargs _ (fun _ _ => rfl)) (hres _ _ _), hvars _ (fun _ _ => rfl), rfl, ?_, ?_⟩, ?_⟩
 ·intro b off hp
  have hp' : MemPlace.cell b off ∈ before := by rw [hps]; simpa using hp
  rw [hb.frozen (p := ⟨b, off, none⟩) (hlt _ hp')]
  exact hz b off hp'
 ·intro ha
  have := hn ha
  rw [hps] at this
  simpa using this
 ·intro p hp _
  rw [hps]
  simpa using hp
theorem own : ownKnob Tryz.prog.godebug = none := by kernel_rfl
theorem rd25 : Tryz.prog.readableRec 25 = true := by kernel_rfl
theorem lt25 : 25 < Tryz.prog.types.size := of_decide_eq_true (by kernel_rfl)
theorem met_eq (W : World) : laidMetH Tryz.prog Rows.fnTextedUptoRow.laid W = laidMet Tryz.prog Rows.fnTextedUptoRow.laid W := by kernel_rfl
end Go.Jw

namespace Go.Jw
open Go Go.RowKit Go.Proofs Go.ChangeShapes Go.WideShapes Go.Proofs.YtlcfillobkdnmaaGreatDoor
set_option maxRecDepth 100000
def setG (h : Array Obj) (g : Nat) (cs : List Value) : Array Obj := h.modify g fun
  | .cells _ t fr => .cells cs.toArray t fr
  | o => o
def wBlocks : Array Obj := #[.cells #[.string ⟨#[105, 110, 118, 97, 108, 105, 100, 32, 115, 121, 110, 116, 97, 120]⟩] 228 (0, 0), .cells #[.string ⟨#[118, 97, 108, 117, 101, 32, 111, 117, 116, 32, 111, 102, 32, 114, 97, 110, 103, 101]⟩] 228 (0, 0),
 .cells ([.float .f32 1065353216, .float .f32 1092616192, .float .f32 1120403456, .float .f32 1148846080, .float .f32 1176256512, .float .f32 1203982336, .float .f32 1232348160, .float .f32 1259902592, .float .f32 1287568416, .float .f32 1315859240, .float .f32 1343554297] : List Value).toArray 288 (0, 0), .cells ([.int .i64 1, .int .i64 3, .int .i64 6, .int .i64 9, .int .i64 13, .int .i64 16, .int .i64 19, .int .i64 23, .int .i64 26] : List Value).toArray 3 (0, 0), .cells ([.float .f64 4607182418800017408, .float .f64 4621819117588971520, .float .f64 4636737291354636288, .float .f64 4652007308841189376, .float .f64 4666723172467343360, .float .f64 4681608360884174848, .float .f64 4696837146684686336, .float .f64 4711630319722168320, .float .f64 4726483295884279808, .float .f64 4741671816366391296, .float .f64 4756540486875873280, .float .f64 4771362005757984768, .float .f64 4786511204640096256, .float .f64 4801453603149578240, .float .f64 4816244402031689728, .float .f64 4831355200913801216, .float .f64 4846369599423283200, .float .f64 4861130398305394688, .float .f64 4876203697187506176, .float .f64 4891288408196988160, .float .f64 4906019910204099648, .float .f64 4921056587992461136, .float .f64 4936209963552724370] : List Value).toArray 214 (0, 0),
 .cells (Pinned.cheatRows.flatMap fun x => [Value.int .i64 x.1, Value.string ⟨x.2.toArray⟩]).toArray 365 (0, 0)]
noncomputable def laidWorld (os : Os) : World := { World.holding Tryz.prog os ⟨wBlocks, #[], []⟩ with heap := (setG (setG (setG (setG (setG (setG (setG (setG (setG (setG (setG (setG (setG (World.holding Tryz.prog os ⟨wBlocks, #[], []⟩).heap 0 [.int .u64 1, .int .u64 10, .int .u64 100, .int .u64 1000, .int .u64 10000, .int .u64 100000, .int .u64 1000000, .int .u64 10000000, .int .u64 100000000, .int .u64 1000000000, .int .u64 10000000000, .int .u64 100000000000, .int .u64 1000000000000, .int .u64 10000000000000, .int .u64 100000000000000, .int .u64 1000000000000000, .int .u64 10000000000000000, .int .u64 100000000000000000, .int .u64 1000000000000000000, .int .u64 10000000000000000000]) 1 [.iface 226 (.pointer (some ⟨18, 0, none⟩))]) 2 [.iface 226 (.pointer (some ⟨19, 0, none⟩))]) 3 [.int .u64 23, .int .u64 8, .int .i64 (-127)]) 4 [.bool true]) 5 [.int .u64 52, .int .u64 11, .int .i64 (-1023)]) 6 [.int .u8 0, .int .u8 1, .int .u8 28, .int .u8 2, .int .u8 29, .int .u8 14, .int .u8 24, .int .u8 3, .int .u8 30, .int .u8 22, .int .u8 20, .int .u8 15, .int .u8 25, .int .u8 17, .int .u8 4, .int .u8 8, .int .u8 31, .int .u8 27, .int .u8 13, .int .u8 23, .int .u8 21, .int .u8 19, .int .u8 16, .int .u8 7, .int .u8 26, .int .u8 12, .int .u8 18, .int .u8 6, .int .u8 11, .int .u8 5, .int .u8 10, .int .u8 9]) 7 [.int .u8 0, .int .u8 1, .int .u8 56, .int .u8 2, .int .u8 57, .int .u8 49, .int .u8 28, .int .u8 3, .int .u8 61, .int .u8 58, .int .u8 42, .int .u8 50, .int .u8 38, .int .u8 29, .int .u8 17, .int .u8 4, .int .u8 62, .int .u8 47, .int .u8 59, .int .u8 36, .int .u8 45, .int .u8 43, .int .u8 51, .int .u8 22, .int .u8 53, .int .u8 39, .int .u8 33, .int .u8 30, .int .u8 24, .int .u8 18, .int .u8 12, .int .u8 5, .int .u8 63, .int .u8 55, .int .u8 48, .int .u8 27, .int .u8 60, .int .u8 41, .int .u8 37, .int .u8 16, .int .u8 46, .int .u8 35, .int .u8 44, .int .u8 21, .int .u8 52, .int .u8 32, .int .u8 23, .int .u8 11, .int .u8 54, .int .u8 26, .int .u8 40, .int .u8 15, .int .u8 34, .int .u8 20, .int .u8 31, .int .u8 10, .int .u8 25, .int .u8 14, .int .u8 19, .int .u8 9, .int .u8 13, .int .u8 8, .int .u8 7, .int .u8 6]) 8 [.slice (some ⟨20, 0, none⟩) 11 11]) 9 [.slice (some ⟨21, 0, none⟩) 9 9]) 10 [.slice (some ⟨22, 0, none⟩) 23 23]) 11 (Pinned.pow10Rows.flatMap fun x => [Value.int .u64 x.1, Value.int .u64 x.2])) 12 [.slice (some ⟨23, 0, none⟩) Pinned.cheatRows.length Pinned.cheatRows.length]) }
def inB (bs : List Nat) (ps : List MemPlace) : Bool := ps.all fun
  | .cell b _ => bs.contains b
  | .map _ => true
end Go.Jw

namespace Go.Jw
open Go Go.RowKit Go.Proofs Go.Proofs.YtlcfillobkdnmaaGreatDoor
set_option maxRecDepth 100000
theorem okRow_of {P : Program} {w : World} {t u : TypeId} {cs : List Value} {n : Nat} (ht : P.cellTypes P.depth t = some (List.replicate n u)) (hn : cs.length = n) (h0 : 0 < n) (h : cs.all (Cell.okRefB P w u) = true) : Row.okRefB P w t cs.toArray = true := by
 unfold Row.okRefB
 rw [ht]
 simp only [List.length_replicate, List.size_toArray, Bool.and_eq_true, List.all_eq_true, List.mem_range]
 refine ⟨by rw [hn]; simp, fun i hi => ?_⟩
 have hm : i % n < n := Nat.mod_lt _ h0
 rw [List.getElem?_toArray, List.getElem?_eq_getElem hi, List.getElem?_replicate, if_pos hm]
 exact List.all_eq_true.1 h _ (List.getElem_mem hi)
end Go.Jw

namespace Go.Jw
open Go Go.RowKit Go.Proofs Go.Proofs.YtlcfillobkdnmaaGreatDoor
set_option maxRecDepth 100000
def oneB (P : Program) (w₀ w : World) (g : Nat) : Bool := match (w₀.heap[g]?).bind Obj.row? with
  | none => true
  | some (zero, t) => match w.heap[g]? with
    | some (.cells cs t' frozen) => decide (t' = t) && decide (frozen = (0, 0)) && cs.size == zero.size && (!P.buildable t || Row.okRefB P w t cs)
    | _ => false
theorem vars_of {P : Program} {w : World} (h : ∀ g, g < P.globals.size → oneB P (begin P (fun _ _ => 0) default).world w g = true) : w.variablesRefB P = true := by
 unfold World.variablesRefB
 exact List.all_eq_true.2 fun g hg => h g (List.mem_range.1 hg)
theorem oneB_of {P : Program} {w₀ w : World} {g : Nat} {zero : Array Value} {t : TypeId} {cs : List Value} (h0 : (w₀.heap[g]?).bind Obj.row? = some (zero, t)) (h1 : w.heap[g]? = some (.cells cs.toArray t (0, 0))) (hz : cs.length = zero.size) (h2 : Row.okRefB P w t cs.toArray = true) : oneB P w₀ w g = true := by
 unfold oneB
 rw [h0, h1]
 simp [hz, h2]
end Go.Jw

namespace Go.Jw
open Go Go.RowKit Go.Proofs Go.Proofs.YtlcfillobkdnmaaGreatDoor
set_option maxRecDepth 100000
theorem vg0 (os : Os) (args : Array Value) : oneB Tryz.prog (begin Tryz.prog (fun _ _ => 0) default).world ((laidWorld os).forCall (fun _ _ => 0) ⟨#[], args, []⟩) 0 = true := by kernel_rfl
theorem vg1 (os : Os) (args : Array Value) : oneB Tryz.prog (begin Tryz.prog (fun _ _ => 0) default).world ((laidWorld os).forCall (fun _ _ => 0) ⟨#[], args, []⟩) 1 = true := by kernel_rfl
theorem vg2 (os : Os) (args : Array Value) : oneB Tryz.prog (begin Tryz.prog (fun _ _ => 0) default).world ((laidWorld os).forCall (fun _ _ => 0) ⟨#[], args, []⟩) 2 = true := by kernel_rfl
theorem vg3 (os : Os) (args : Array Value) : oneB Tryz.prog (begin Tryz.prog (fun _ _ => 0) default).world ((laidWorld os).forCall (fun _ _ => 0) ⟨#[], args, []⟩) 3 = true := by kernel_rfl
theorem vg4 (os : Os) (args : Array Value) : oneB Tryz.prog (begin Tryz.prog (fun _ _ => 0) default).world ((laidWorld os).forCall (fun _ _ => 0) ⟨#[], args, []⟩) 4 = true := by kernel_rfl
theorem vg5 (os : Os) (args : Array Value) : oneB Tryz.prog (begin Tryz.prog (fun _ _ => 0) default).world ((laidWorld os).forCall (fun _ _ => 0) ⟨#[], args, []⟩) 5 = true := by kernel_rfl
theorem vg6 (os : Os) (args : Array Value) : oneB Tryz.prog (begin Tryz.prog (fun _ _ => 0) default).world ((laidWorld os).forCall (fun _ _ => 0) ⟨#[], args, []⟩) 6 = true := by kernel_rfl
theorem vg7 (os : Os) (args : Array Value) : oneB Tryz.prog (begin Tryz.prog (fun _ _ => 0) default).world ((laidWorld os).forCall (fun _ _ => 0) ⟨#[], args, []⟩) 7 = true := by kernel_rfl
theorem vg8 (os : Os) (args : Array Value) : oneB Tryz.prog (begin Tryz.prog (fun _ _ => 0) default).world ((laidWorld os).forCall (fun _ _ => 0) ⟨#[], args, []⟩) 8 = true := by kernel_rfl
theorem vg9 (os : Os) (args : Array Value) : oneB Tryz.prog (begin Tryz.prog (fun _ _ => 0) default).world ((laidWorld os).forCall (fun _ _ => 0) ⟨#[], args, []⟩) 9 = true := by kernel_rfl
theorem vg10 (os : Os) (args : Array Value) : oneB Tryz.prog (begin Tryz.prog (fun _ _ => 0) default).world ((laidWorld os).forCall (fun _ _ => 0) ⟨#[], args, []⟩) 10 = true := by kernel_rfl
theorem vg12 (os : Os) (args : Array Value) : oneB Tryz.prog (begin Tryz.prog (fun _ _ => 0) default).world ((laidWorld os).forCall (fun _ _ => 0) ⟨#[], args, []⟩) 12 = true := by kernel_rfl
def pw : List Value := Pinned.pow10Rows.flatMap fun x => [Value.int .u64 x.1, Value.int .u64 x.2]
theorem v11z : ∃ zero, ((begin Tryz.prog (fun _ _ => 0) default).world.heap[11]?).bind Obj.row? = some (zero, 360) ∧ zero.size = 1392 := ⟨(Array.replicate 1392 (.int .u64 0)), by kernel_rfl, by kernel_rfl⟩
theorem v11h (os : Os) (args : Array Value) : ((laidWorld os).forCall (fun _ _ => 0) ⟨#[], args, []⟩).heap[11]? = some (.cells pw.toArray 360 (0, 0)) := by kernel_rfl
theorem v11t : Tryz.prog.cellTypes Tryz.prog.depth 360 = some (List.replicate 1392 235) := by kernel_rfl
theorem v11l : pw.length = 1392 := by kernel_rfl
theorem v11a (w : World) : pw.all (Cell.okRefB Tryz.prog w 235) = true := by kernel_rfl
theorem vg11 (os : Os) (args : Array Value) : oneB Tryz.prog (begin Tryz.prog (fun _ _ => 0) default).world ((laidWorld os).forCall (fun _ _ => 0) ⟨#[], args, []⟩) 11 = true := by
 obtain ⟨z, h0, hz⟩ := v11z
 exact oneB_of h0 (v11h os args) (by rw [hz]; exact v11l) (okRow_of v11t v11l (by decide) (v11a _))
theorem vars_ref (os : Os) (args : Array Value) : World.variablesRefB Tryz.prog ((laidWorld os).forCall (fun _ _ => 0) ⟨#[], args, []⟩) = true := vars_of fun g hg => by
  have h13 : Tryz.prog.globals.size = 13 := by kernel_rfl
  rw [h13] at hg
  match g, hg with
  | 0, _ => exact vg0 os args
  | 1, _ => exact vg1 os args
  | 2, _ => exact vg2 os args
  | 3, _ => exact vg3 os args
  | 4, _ => exact vg4 os args
  | 5, _ => exact vg5 os args
  | 6, _ => exact vg6 os args
  | 7, _ => exact vg7 os args
  | 8, _ => exact vg8 os args
  | 9, _ => exact vg9 os args
  | 10, _ => exact vg10 os args
  | 11, _ => exact vg11 os args
  | 12, _ => exact vg12 os args
end Go.Jw

