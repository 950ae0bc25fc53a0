/- the law FnAdded, as its card FnAddedCardSaid: part 5, the proof's texts, made small by a program. -/
import Derived.Test.YtlcfillobkdnmaaGreatDoorTd4
import Derived.Test.YtlcfillobkdnmaaGreatDoorRows
import Derived.ProofKit
import Derived.Deep.Slices
import Derived.SliceStrings
import Derived.Lib.LaidTab
import Derived.LaidByTextLater
import Derived.SevenTiedAt
import Derived.LaidSub
import Derived.LaidOnce
import Derived.Test.YtlcfillobkdnmaaGreatDoorCards
import Derived.OpenShut
import Derived.Deep.DeepHandedRow
import Derived.Deep.DeepWitnessRowRef
import Derived.ChangeMaps5
import Derived.RowKit
import Derived.DataWitness
import Derived.LaidLaws
set_option linter.unusedVariables false
set_option linter.unusedSimpArgs false
set_option maxHeartbeats 4000000
namespace Go.Jw
open Go Go.RowKit Go.Proofs
set_option maxRecDepth 8000
def RVT (t : V) (r : Value) (D' : List DA) : Prop := ∃ x, r = .tuple #[x, .bool true] ∧ RV t x D'
section rules
variable {P : Program} {n : Nat} {F : List Nat} {c : Ctx F} {ops : Array Oper} {d : Nat} {T : TypeId} {l : List Oper} {k : List KI} {Q : Post} {e : Env} {M : List HA} {D : List DA}
variable {x y : Operand} {S S' : TypeId}
theorem st_eqlNN (hS : P.underlying S = some (.interface (P.methodsAt S))) (hx : ev e x = some .nilIface) : St P n c (.binOp .eql S x (.const .nilIface) S') T e M D (.bool true) :=
 fun _ a w hf => by
  have h1 := run_eql_nil_nil (P := P) (w := w) S hS
  have h2 : a.eval (.const .nilIface) = .nilIface := rfl
  simp only [execOp, opr, hf.ev hx, h2, eqGuard_nil_constR, Sem.run_bind, Sem.run_pure, Result.andThen_ok, h1]
end rules

theorem c166s (b : Nat) (s : ByteArray) : CtR Tryz.prog 166 #[ptr b] [.node b (scal tStr s)] (RVT (.mk 3 0 s [] [])) := by
 refine Ct.of_run (args := [ptr b]) Tryz.func166 (by kernel_rfl) rfl Tryz.ntmps166 rfl (fun c => ?_)
 refine yZ 0 rfl (fun A0 cap0 ht0 hv0 hl0 hc0 => ?_)
 refine rO 3 rfl (zT ze25 rfl (fun b2 => ?_))
 change RunOps _ _ _ _ _ _ _ _ (HA.blk _ [_, _, _, _, _] _ :: _) _
 refine oO 11 rfl (zB tA rfl rfl ?_)
 refine zA (zF 0 sc9 rfl rfl rfl rfl ?_)
 refine oO 17 rfl (zB xR rfl rfl ?_)
 refine zA (zF 0 sc9 rfl rfl rfl rfl ?_)
 refine zA (yF rfl rfl (bu25_0_2 ..) ?_)
 refine zA (zG 0 (M' := [HA.blk _ [_, _, _, _, _] _]) rfl rfl rfl rfl si25 rfl rfl rfl ?_)
 refine oK 3 [3, 2] rfl rfl (tI ?_)
 refine sD (wN 1 0 rfl rfl (s := s) (q := 3) (m := 0) hv0 ?_)
 exact xU 0 Tryz.results166 rfl rfl rfl ag25 ⟨rfl, _, rfl, none, 0, none, 0, rfl, rfl⟩ nS (sub1 0 rfl)
theorem c166t (b : Nat)  : CtR Tryz.prog 166 #[ptr b] [.node b (scal tBool (fbB true))] (RVT (.mk 1 1 ⟨#[]⟩ [] [])) := by
 refine Ct.of_run (args := [ptr b]) Tryz.func166 (by kernel_rfl) rfl Tryz.ntmps166 rfl (fun c => ?_)
 refine yZ 0 rfl (fun A0 cap0 ht0 hv0 hl0 hc0 => ?_)
 refine rO 3 rfl (zT ze25 rfl (fun b2 => ?_))
 change RunOps _ _ _ _ _ _ _ _ (HA.blk _ [_, _, _, _, _] _ :: _) _
 refine oO 11 rfl (zB tA rfl rfl ?_)
 refine zA (zF 0 sc9 rfl rfl rfl rfl ?_)
 refine oR 9 rfl (yO rfl (decide_eq_false (by decide)) ?_)
 refine rK 13 [4, 2, 0] rfl rfl (rO 8 rfl ?_)
 refine zB xR rfl rfl (zA ?_)
 refine zF 0 sc9 rfl rfl rfl rfl (oR 9 rfl ?_)
 refine yU yG (zQ ?_)
 refine tP 0 rfl wanted0 (zU rfl) (tP 2 rfl wanted0 (zU rfl) ?_)
 refine tP 3 rfl wanted0 (yR rfl) (tP 4 rfl wanted0 (zX xR rfl) ?_)
 refine yD (tM 1 rfl wanted0 (sO rfl (bu25_0_1 ..)) ?_)
 refine any_grpD (any_takeD 5 (xB _ _ _ _) rfl wanted0 (by decide +kernel) (by decide +kernel) (by decide +kernel) rfl (uN 0 sc9 rfl rfl rfl) ?_)
 refine zQ (tP 6 rfl wanted0 (st_seql rfl rfl) ?_)
 refine tP 7 rfl wanted0 (zU rfl) (any_knowT (s := 34) rfl (rfl) ?_)
 refine rQ 8 (xB _ _ _ _) rfl rfl rfl rfl (by decide +kernel) (by decide +kernel) (by decide +kernel) rfl (rQ 9 (xB _ _ _ _) rfl rfl rfl rfl (by decide +kernel) (by decide +kernel) (by decide +kernel) rfl ?_)
 refine rQ 10 (xB _ _ _ _) rfl rfl rfl rfl (by decide +kernel) (by decide +kernel) (by decide +kernel) rfl (rQ 11 (xB _ _ _ _) rfl rfl rfl rfl (by decide +kernel) (by decide +kernel) (by decide +kernel) rfl ?_)
 refine rQ 12 (xB _ _ _ _) rfl rfl rfl rfl (by decide +kernel) (by decide +kernel) (by decide +kernel) rfl (tP 13 rfl wanted0 (st_pick rfl rfl) ?_)
 refine zN 14 (by decide +kernel) ?_
 refine zO (I2 := [[13, 12, 11, 10, 9, 8], [], [], [], []]) rfl wanted0 (by decide +kernel) (fun Kd hKd => ?_)
 refine zG 0 (M' := [HA.blk _ [_, _, _, _, _] _]) rfl rfl rfl rfl si25 rfl rfl rfl (hKd _ _ _ (hC (zE (zE (zE (zE (zP)))))) ?_)
 refine tP 15 rfl wanted0 (yY rfl) (yH (by decide +kernel) ?_)
 refine rK 0 [3, 2] rfl rfl (tI ?_)
 refine sD (wN 1 0 rfl rfl (s := ⟨#[]⟩) (q := 1) (m := 1) (by decide) ?_)
 exact xU 0 Tryz.results166 rfl rfl rfl ag25 ⟨rfl, _, rfl, none, 0, none, 0, rfl, rfl⟩ nS (sub1 0 rfl)
theorem c166f (b : Nat)  : CtR Tryz.prog 166 #[ptr b] [.node b (scal tBool (fbB false))] (RVT (.mk 1 0 ⟨#[]⟩ [] [])) := by
 refine Ct.of_run (args := [ptr b]) Tryz.func166 (by kernel_rfl) rfl Tryz.ntmps166 rfl (fun c => ?_)
 refine yZ 0 rfl (fun A0 cap0 ht0 hv0 hl0 hc0 => ?_)
 refine rO 3 rfl (zT ze25 rfl (fun b2 => ?_))
 change RunOps _ _ _ _ _ _ _ _ (HA.blk _ [_, _, _, _, _] _ :: _) _
 refine oO 11 rfl (zB tA rfl rfl ?_)
 refine zA (zF 0 sc9 rfl rfl rfl rfl ?_)
 refine oR 9 rfl (yO rfl (decide_eq_false (by decide)) ?_)
 refine rK 13 [4, 2, 0] rfl rfl (rO 8 rfl ?_)
 refine zB xR rfl rfl (zA ?_)
 refine zF 0 sc9 rfl rfl rfl rfl (oR 6 rfl ?_)
 refine yU yG (zQ ?_)
 refine tP 0 rfl wanted0 (zU rfl) (tP 2 rfl wanted0 (zU rfl) ?_)
 refine tP 3 rfl wanted0 (yR rfl) (tP 4 rfl wanted0 (zX xR rfl) ?_)
 refine yD (tM 1 rfl wanted0 (sO rfl (bu25_0_1 ..)) ?_)
 refine any_grpD (any_takeD 5 (xB _ _ _ _) rfl wanted0 (by decide +kernel) (by decide +kernel) (by decide +kernel) rfl (uN 0 sc9 rfl rfl rfl) ?_)
 refine zQ (tP 6 rfl wanted0 (st_seql rfl rfl) ?_)
 refine tP 7 rfl wanted0 (zU rfl) (any_knowF (s := 34) rfl (rfl) ?_)
 refine tP 8 rfl (wanted1 rfl rfl) (zU rfl) (tP 9 rfl (wanted1 rfl rfl) (yR rfl) ?_)
 refine tP 10 rfl (wanted1 rfl rfl) (zX xR rfl) (any_grpD ?_)
 refine any_takeD 11 (xB _ _ _ _) rfl (wanted1 rfl rfl) (by decide +kernel) (by decide +kernel) (by decide +kernel) rfl (uN 0 sc9 rfl rfl rfl) (zQ ?_)
 refine tP 12 rfl (wanted1 rfl rfl) (st_seql rfl rfl) (tP 13 rfl wanted0 (st_pick rfl rfl) ?_)
 refine zN 14 (by decide +kernel) ?_
 refine zO (I2 := [[13, 12], [11], [10, 9, 8], [], [], [], []]) rfl wanted0 (by decide +kernel) (fun Kd hKd => ?_)
 refine zG 0 (M' := [HA.blk _ [_, _, _, _, _] _]) rfl rfl rfl rfl si25 rfl rfl rfl (hKd _ _ _ (hC (hC (hC (zE (zE (zE (zE (zP)))))))) ?_)
 refine tP 15 rfl wanted0 (yY rfl) (yH (by decide +kernel) ?_)
 refine rK 0 [3, 2] rfl rfl (tI ?_)
 refine sD (wN 1 0 rfl rfl (s := ⟨#[]⟩) (q := 1) (m := 0) (by decide) ?_)
 exact xU 0 Tryz.results166 rfl rfl rfl ag25 ⟨rfl, _, rfl, none, 0, none, 0, rfl, rfl⟩ nS (sub1 0 rfl)
theorem c166n (b : Nat)  : CtR Tryz.prog 166 #[ptr b] [.node b (scal tNull sNull)] (RVT (.mk 0 0 ⟨#[]⟩ [] [])) := by
 refine Ct.of_run (args := [ptr b]) Tryz.func166 (by kernel_rfl) rfl Tryz.ntmps166 rfl (fun c => ?_)
 refine yZ 0 rfl (fun A0 cap0 ht0 hv0 hl0 hc0 => ?_)
 refine rO 3 rfl (zT ze25 rfl (fun b2 => ?_))
 change RunOps _ _ _ _ _ _ _ _ (HA.blk _ [_, _, _, _, _] _ :: _) _
 refine oO 11 rfl (zB tA rfl rfl ?_)
 refine zA (zF 0 sc9 rfl rfl rfl rfl ?_)
 refine oR 9 rfl (yO rfl (decide_eq_false (by decide)) ?_)
 refine rR 7 rfl (yO rfl (decide_eq_false (by decide)) ?_)
 refine rK 7 [41, 12, 2, 0] rfl rfl (rO 4 rfl ?_)
 refine yF rfl rfl (bu25 ..) (zA ?_)
 refine zG 0 (M' := [HA.blk _ [_, _, _, _, _] _]) rfl rfl rfl rfl si25 rfl rfl rfl (oR 3 rfl ?_)
 refine tI (sD ?_)
 exact wN 1 0 rfl rfl (s := ⟨#[]⟩) (q := 0) (m := 0) (by decide) (xU 0 Tryz.results166 rfl rfl rfl ag25 ⟨rfl, _, rfl, none, 0, none, 0, rfl, rfl⟩ nS (sub1 0 rfl))
theorem c166i (b : Nat) (n : Int) (h1 : -1000000000 < n) (h2 : n < 1000000000) : CtR Tryz.prog 166 #[ptr b] [.node b (scal tInt (itoaB n))] (RVT (.mk 2 n ⟨#[]⟩ [] [])) := by
 refine Ct.of_run (args := [ptr b]) Tryz.func166 (by kernel_rfl) rfl Tryz.ntmps166 rfl (fun c => ?_)
 refine yZ 0 rfl (fun A0 cap0 ht0 hv0 hl0 hc0 => ?_)
 refine rO 3 rfl (zT ze25 rfl (fun b2 => ?_))
 change RunOps _ _ _ _ _ _ _ _ (HA.blk _ [_, _, _, _, _] _ :: _) _
 refine oO 11 rfl (zB tA rfl rfl ?_)
 refine zA (zF 0 sc9 rfl rfl rfl rfl ?_)
 refine oR 9 rfl (yO rfl (decide_eq_false (by decide)) ?_)
 refine rR 7 rfl (yO rfl (decide_eq_false (by decide)) ?_)
 refine rK 7 [41, 12, 2, 0] rfl rfl (yO rfl (decide_eq_false (by decide)) ?_)
 refine rO 15 rfl (zB xR rfl rfl ?_)
 refine zA (zF 0 sc9 rfl rfl rfl rfl ?_)
 refine zA (zJ rfl rfl rfl (c180 n h1 h2) sub0 ?_)
 refine oK 11 [6, 5, 2] rfl rfl (run_seq ?_)
 refine yU yG (zQ ?_)
 refine tP 0 rfl wanted0 (zU rfl) (tP 2 rfl wanted0 (zU rfl) ?_)
 refine yD (tM 1 rfl wanted0 (sO rfl (bu25_0_1 ..)) ?_)
 refine zQ (tP 3 rfl wanted0 (st_eqlNN if77 rfl) ?_)
 refine zN 4 (by decide +kernel) ?_
 refine zO (I2 := [[3], [], [2], []]) rfl wanted0 (by decide +kernel) (fun Kd hKd => ?_)
 refine zG 0 (M' := [HA.blk _ [_, _, _, _, _] _]) rfl rfl rfl rfl si25 rfl rfl rfl (hKd _ _ _ (hC (zE (hC (zE (zP))))) ?_)
 refine tP 5 rfl wanted0 (yY rfl) (yH (by decide +kernel) ?_)
 refine tI (sD ?_)
 exact wN 1 0 rfl rfl (s := ⟨#[]⟩) (q := 2) (m := n) (by decide) (xU 0 Tryz.results166 rfl rfl rfl ag25 ⟨rfl, _, rfl, none, 0, none, 0, rfl, rfl⟩ nS (sub1 0 rfl))
theorem c166q (fb : Addr) (b : Nat) (n : Int) (h0 : n.tmod 4 ≠ 0) (h1 : -1000000000 < n) (h2 : n < 1000000000) : CtR Tryz.prog 166 #[ptr b] [.node b (scal tFloat (quartF n)), ftD fb] (RVT (.mk 6 n ⟨#[]⟩ [] [])) := by
 refine Ct.of_run (args := [ptr b]) Tryz.func166 (by kernel_rfl) rfl Tryz.ntmps166 rfl (fun c => ?_)
 refine yZ 0 rfl (fun A0 cap0 ht0 hv0 hl0 hc0 => ?_)
 have hz : n ≠ 0 := fun h => by subst h; exact h0 rfl
 have hd4 : -1000000000 < n.tdiv 4 ∧ n.tdiv 4 < 1000000000 := by have := Int.mul_tdiv_add_tmod n 4; have h5 : (n.tdiv 4).natAbs = n.natAbs / 4 := Int.natAbs_tdiv n 4; omega
 refine rO 3 rfl (zT ze25 rfl (fun b2 => ?_))
 change RunOps _ _ _ _ _ _ _ _ (HA.blk _ [_, _, _, _, _] _ :: _) _
 refine oO 11 rfl (zB tA rfl rfl ?_)
 refine zA (zF 0 sc9 rfl rfl rfl rfl ?_)
 refine oR 9 rfl (yO rfl (decide_eq_false (by decide)) ?_)
 refine rR 7 rfl (yO rfl (decide_eq_false (by decide)) ?_)
 refine rK 7 [41, 12, 2, 0] rfl rfl (yO rfl (decide_eq_false (by decide)) ?_)
 refine rR 7 rfl (yO rfl (decide_eq_false (by decide)) ?_)
 refine rO 15 rfl (zB xR rfl rfl ?_)
 refine zA (zF 0 sc9 rfl rfl rfl rfl ?_)
 refine zA (zJ rfl rfl rfl (c179 fb (quartF n) n (qtxt_F h0 h1 h2)) (sub1 3 rfl) ?_)
 refine oK 11 [8, 7, 2] rfl rfl (rO 6 rfl ?_)
 refine op_neqNN if77 rfl rfl (oS 2 rfl ?_)
 refine wB (s := 70) rfl (rfl) (oO 3 rfl ?_)
 refine op_flss rfl rfl rfl (b := false) (by rw [← c_1e12n, qw_big hz h1 h2]; rfl) (oS 4 rfl ?_)
 refine wB (s := 74) rfl (rfl) (oO 3 rfl ?_)
 refine op_fgtr rfl rfl rfl (b := false) (by rw [← c_1e12, qw_big hz h1 h2]; rfl) (oS 4 rfl ?_)
 refine wB (s := 78) rfl (rfl) (oO 3 rfl ?_)
 refine op_fmul rfl rfl rfl (by rw [← c_4]; exact qw_mul4 hz h1 h2) (oO 3 rfl ?_)
 refine op_fmul rfl rfl rfl (by rw [← c_4]; exact qw_mul4 hz h1 h2) (zH rfl rfl ?_)
 refine op_convFI (by rw [Tryz.underlying214]; rfl) Tryz.underlying2 rfl rfl (q4_int hz h1 h2) (by show (-9223372036854775808 : Int) ≤ _; omega) (by show _ ≤ (9223372036854775807 : Int); omega) (zH rfl rfl ?_)
 refine op_convIF (by rw [Tryz.underlying2]; rfl) Tryz.underlying214 rfl rfl (zH rfl rfl ?_)
 refine op_fneq rfl rfl rfl (b := false) (by rw [q4_eq hz h1 h2]; rfl) (oK 3 [86, 7, 2] rfl rfl ?_)
 refine rO 10 rfl (op_convFI (by rw [Tryz.underlying214]; rfl) Tryz.underlying2 rfl rfl (qw_int hz h1 h2) (by show (-9223372036854775808 : Int) ≤ _; omega) (by show _ ≤ (9223372036854775807 : Int); omega) ?_)
 refine zA (op_convIF (by rw [Tryz.underlying2]; rfl) Tryz.underlying214 rfl rfl ?_)
 refine zA (op_feql rfl rfl rfl (b := false) (by rw [beq_eq_false_iff_ne]; exact qw_ne hz h1 h2 h0) ?_)
 refine oO 8 rfl (op_fmul rfl rfl rfl (by rw [← c_4]; exact qw_mul4 hz h1 h2) ?_)
 refine zA (op_convFI (by rw [Tryz.underlying214]; rfl) Tryz.underlying2 rfl rfl (q4_int hz h1 h2) (by show (-9223372036854775808 : Int) ≤ _; omega) (by show _ ≤ (9223372036854775807 : Int); omega) ?_)
 refine zA (yF rfl rfl (bu25_0_1 ..) ?_)
 refine zA (zG 0 (M' := [HA.blk _ [_, _, _, _, _] _]) rfl rfl rfl rfl si25 rfl rfl rfl ?_)
 refine oK 3 [3, 2] rfl rfl (tI ?_)
 refine sD (wN 1 0 rfl rfl (s := ⟨#[]⟩) (q := 6) (m := n) (by decide) ?_)
 exact xU 0 Tryz.results166 rfl rfl rfl ag25 ⟨rfl, _, rfl, none, 0, none, 0, rfl, rfl⟩ nS (sub1 0 rfl)
end Go.Jw

namespace Go.Jw
open Go Go.RowKit Go.Proofs
set_option maxRecDepth 8000
open Go.Sort (SWO)
section rules
variable {P : Program} {n : Nat} {F : List Nat} {c : Ctx F} {ops : Array Oper} {d : Nat} {T : TypeId} {l : List Oper} {k : List KI} {Q : Post} {e : Env} {M : List HA} {D : List DA}
theorem qH (i : Nat) {b : Nat} {cs : List Value} {U : TypeId} (hi : M[i]? = some (.blk b cs U)) (hF : F = []) (next : RunOps P n c ops l k Q e (M.eraseIdx i) (.dblk b cs U :: D)) : RunOps P n c ops l k Q e M D :=
  ops_freeze (h := .blk b cs U) [.dblk b cs U] (fun x _ h => by rw [hF] at h; cases h) (xQ hi) (fun w ok h hok hD d hd => by
    rcases List.mem_singleton.1 hd with rfl
    exact ⟨hok _ (by simp [HA.foot]), h⟩) next
theorem op_idxRow (i : Nat) {x y : Operand} {A : Option Addr} {m cap j : Nat} {kd : IntKind} {S E sz by_ U : Nat} {xs : List Value} (hS : SliceOf P S E sz by_) (hd : Nat.blt d n = true) (hx : ev e x = some (.slice A m cap)) (hy : ev e y = some (.int kd (j : Nat))) (hi : M[i]? = some (.row A m cap U 1 xs)) (hj : j < m)
  (next : RunOps P n c ops l k Q ((d, .pointer (some (At A (j * sz)))) :: e) M D) : RunOp P n c ops (some d) (.indexAddr S x y) T l k Q e M D := by
 intro a w hf
 obtain ⟨_, _, h3⟩ := uG (hf.toFitsW.mem hi)
 have hl : xs.length = m := by have := (hf.toFitsW.mem hi : (HA.row A m cap U 1 xs).holds w).1; omega
 obtain ⟨a', ha, _⟩ := h3 j xs[j] (List.getElem?_eq_getElem (by omega))
 subst ha
 exact xV hS hd hx hy hj next a w hf
end rules
abbrev encE (x : Nat) : Value := encN (2 * x)
def vals (ys : List Y) : List ByteArray := ys.map Y.val
theorem rangeE_snoc (i : Nat) : (List.range i).map encE ++ [encE i] = (List.range (i + 1)).map encE := by rw [List.range_succ, List.map_append]; rfl
theorem rangeE (n : Nat) : (List.range n).map encE = ((List.range n).map (2 * ·)).map encN := by rw [List.map_map]; rfl
theorem c107len {ks : List ByteArray} {us : List V} (hl : ks.length = us.length) : (ks.zip (us.map outY)).length = us.length := by rw [List.length_zip, List.length_map]; omega
theorem c107key {ks : List ByteArray} {us : List V} (hl : ks.length = us.length) {i : Nat} (h : i < us.length) : ((ks.zip (us.map outY)).flatMap prY)[2 * i]? = some (scal tStr (ks.getD i ⟨#[]⟩)) := by
 rw [flat_get0 (by rw [c107len hl]; exact h), List.getElem_zip, vT (by omega)]
theorem c107val {ks : List ByteArray} {us : List V} (hl : ks.length = us.length) {i : Nat} (h : i < us.length) : ((ks.zip (us.map outY)).flatMap prY)[2 * i + 1]? = some (outY (us[i])) := by
 rw [flat_get1 (by rw [c107len hl]; exact h), List.getElem_zip, List.getElem_map]
theorem halves {ks : List ByteArray} {us : List V} (hl : ks.length = us.length) {ds : List Nat} (hp : ds.Perm ((List.range us.length).map (2 * ·))) (hs : ds.Pairwise (fun x y => ltK (vals ((ks.zip (us.map outY)).flatMap prY)) y x = false)) :
  ∃ es : List Nat, es.Perm (List.range us.length) ∧ es.Pairwise (fun x y => ltK ks y x = false) ∧ ds.map encN = es.map encE := by
 have hev : ∀ x ∈ ds, ∃ y, y < us.length ∧ x = 2 * y := fun x hx => by
  obtain ⟨y, hy, rfl⟩ := List.mem_map.1 (hp.mem_iff.1 hx)
  exact ⟨y, List.mem_range.1 hy, rfl⟩
 have hkey : ∀ y, y < us.length → (vals ((ks.zip (us.map outY)).flatMap prY)).getD (2 * y) ⟨#[]⟩ = ks.getD y ⟨#[]⟩ := fun y hy => by
  unfold vals
  rw [List.getD_eq_getElem?_getD, List.getElem?_map, c107key hl hy]
  rfl
 refine ⟨ds.map (· / 2), ?_, ?_, ?_⟩
 ·have := hp.map (· / 2)
  rw [List.map_map] at this
  have e : ((fun x => x / 2) ∘ fun x => 2 * x) = (id : Nat → Nat) := by funext x; simp only [Function.comp, id]; omega
  rwa [e, List.map_id] at this
 ·rw [List.pairwise_map]
  refine hs.imp_of_mem fun {x y} hx hy h => ?_
  obtain ⟨a, ha, rfl⟩ := hev x hx
  obtain ⟨b, hb, rfl⟩ := hev y hy
  unfold ltK at h ⊢
  rw [hkey a ha, hkey b hb] at h
  rw [show 2 * a / 2 = a by omega, show 2 * b / 2 = b by omega]
  exact h
 ·rw [List.map_map]
  refine List.map_congr_left fun x hx => ?_
  obtain ⟨y, _, rfl⟩ := hev x hx
  show encN (2 * y) = encN (2 * (2 * y / 2))
  congr 1
  omega
set_option maxHeartbeats 2000000 in
theorem less167 (W : World) (keys : List ByteArray) (dk : List Nat) (b1 nb b9 b n c m : Nat) (ka : Addr) (kc : Nat) (hn1 : W.cell? ⟨b1, 0, none⟩ = some (ptr nb)) (hks : W.cell? ⟨nb, 6, none⟩ = some (.slice (some ka) m kc)) (hm : m = keys.length) (hps : W.cell? ⟨b9, 0, none⟩ = some (.slice (some ⟨b, 0, none⟩) n c)) (hn : dk.length = n)
  (hdk : ∀ j x, dk[j]? = some x → W.cell? ⟨b, j, none⟩ = some (encN x)) (hkk : ∀ j s, keys[j]? = some s → ∃ q, W.cell? (ka.add j) = some (ptr q) ∧ W.cell? ⟨q, 3, none⟩ = some (.string s)) (hlt : ∀ x ∈ dk, x < keys.length) (i j : Nat) (hi : i < dk.length) (hj : j < dk.length) :
  Calls Tryz.prog 167 #[.int .i64 i, .int .i64 j, ptr b1, ptr b9] W fun e w' => e = .returned (.bool (ltK keys dk[i] dk[j])) ∧ ∃ q, w' = W.drewN q := by
 have hxi := hlt _ (List.getElem_mem hi)
 have hxj := hlt _ (List.getElem_mem hj)
 have ci := hdk i _ (List.getElem?_eq_getElem hi)
 have cj := hdk j _ (List.getElem?_eq_getElem hj)
 obtain ⟨qi, ki, vi⟩ := hkk _ _ (List.getElem?_eq_getElem hxi)
 obtain ⟨qj, kj, vj⟩ := hkk _ _ (List.getElem?_eq_getElem hxj)
 have hin : i < n := by omega
 have hjn : j < n := by omega
 have him : dk[i] < m := by omega
 have hjm : dk[j] < m := by omega
 have hlk : ltK keys dk[i] dk[j] = Op.bytesLess keys[dk[i]].toList keys[dk[j]].toList := by
  unfold ltK
  rw [pX, vT hxi, vT hxj, sI, sI]
 go_enter Tryz.func167, Tryz.ntmps167
 go_wp2
 go_quiet (fail)
 go_wp2
 go_ret
 refine ⟨?_, nq, rfl⟩
 rw [hlk]
 rfl
theorem fun167 : Fun Tryz.prog 167 := ⟨_, Tryz.func167, by kernel_rfl, rfl⟩
theorem less_okE (ys : List Y) (A : Option Addr) (m ca nb b1 b9 pb n c9 : Nat) (t v : ByteArray) (k : Int) (hm : m = ys.length) : ∀ (W : World) (dk : List Nat), dk.length = n → (∀ x ∈ dk, x < ys.length) → (∀ x ∈ [HA.blk b9 [.slice (some ⟨pb, 0, none⟩) n c9] 139], x.holds W) → (∀ j x, dk[j]? = some x → W.cell? ⟨pb, j, none⟩ = some (encN x)) →
  (∃ ok, ∀ d ∈ [DA.dblk b1 [ptr nb] 102, .dblk nb (ycells k t v A m ca) 150, .kids (.slice A m ca) ys], d.p W ok) → ∀ (i j : Nat) (hi : i < dk.length) (hj : j < dk.length),
   Calls Tryz.prog 167 (#[.int .i64 i, .int .i64 j] ++ #[ptr b1, ptr b9]) W fun e w' => e = .returned (.bool (ltK (vals ys) dk[i] dk[j])) ∧ ∃ q, w' = W.drewN q := by
 intro W dk hn hlt hM hdk hD i j hi hj
 obtain ⟨ok, hD⟩ := hD
 have h1 : BlkP W ok b1 [ptr nb] 102 := hD _ List.mem_cons_self
 have h2 : BlkP W ok nb (ycells k t v A m ca) 150 := hD _ (List.mem_cons_of_mem _ List.mem_cons_self)
 obtain ⟨A', c', hv, _, _, hk⟩ : KidsV W ok (.slice A m ca) ys := hD _ (List.mem_cons_of_mem _ (List.mem_cons_of_mem _ List.mem_cons_self))
 injection hv with e1 e2 e3
 subst e1; subst e3
 have hkid : ∀ (x : Nat) (y : Y), ys[x]? = some y → ∃ a b, A = some a ∧ ok a.block ∧ W.cell? (a.add x) = some (ptr b) ∧ NodeP W ok y b := fun x y hx => by
  have := hk.get hx
  simpa using this
 obtain ⟨a, _, rfl, _⟩ := hkid _ _ (List.getElem?_eq_getElem (hlt _ (List.getElem_mem hi)))
 refine less167 W (vals ys) dk b1 nb b9 pb n c9 m a ca ?_ ?_ (by unfold vals; rw [List.length_map]; exact hm) ?_ hn hdk (fun j s hj => ?_) (fun x hx => by unfold vals; rw [List.length_map]; exact hlt x hx) i j hi hj
 ·rw [uJ h1.2]; rfl
 ·rw [uJ h2.2]; rfl
 ·have := hM _ List.mem_cons_self
  rw [uJ this]; rfl
 ·unfold vals at hj
  rw [List.getElem?_map] at hj
  obtain ⟨y, hy, rfl⟩ := Option.map_eq_some_iff.1 hj
  obtain ⟨a', b', ha, _, hc, hnode⟩ := hkid _ _ hy
  cases ha
  refine ⟨b', hc, ?_⟩
  obtain ⟨q, tt, vv, zs⟩ := y
  obtain ⟨_, _, _, A2, c2, hb, _⟩ := hnode
  rw [uJ hb]
  rfl
def C107 (fb : Addr) (u : V) : Prop := ∀ b, CtR Tryz.prog 107 #[ptr b] [.node b (outY u), ftD fb] (RVT (srtV u))

theorem c107s (fb : Addr) (b : Nat) (y : Y) (v : V) (hk : y.kind = 8) (H : CtR Tryz.prog 166 #[ptr b] [.node b y, ftD fb] (RVT v)) : CtR Tryz.prog 107 #[ptr b] [.node b y, ftD fb] (RVT v) := by
 refine Ct.of_run (args := [ptr b]) Tryz.func107 (by kernel_rfl) rfl Tryz.ntmps107 rfl (fun c => ?_)
 refine run_node 0 rfl (fun A0 cap0 ht0 hv0 hl0 hc0 => ?_)
 refine rO 3 rfl (yJ rfl rfl rfl (fun b1 => ?_))
 refine qH 0 rfl rfl (zA ?_)
 refine zT ze25 rfl (fun b2 => ?_)
 change RunOps _ _ _ _ _ _ _ _ (HA.blk _ [_, _, _, _, _] _ :: _) _
 refine oO 7 rfl (zF 0 sc102 rfl rfl rfl rfl ?_)
 refine zA (sG pn102 rfl rfl ?_)
 refine oO 7 rfl (zF 0 sc102 rfl rfl rfl rfl ?_)
 refine oO 3 rfl (zB xO rfl rfl ?_)
 refine zA (zF 1 sc146 rfl rfl rfl rfl ?_)
 refine oR 9 rfl (wF rfl (decide_eq_true (by exact_mod_cast hk)) ?_)
 refine rO 3 rfl (zF 0 sc102 rfl rfl rfl rfl ?_)
 refine zA (zR rfl rfl rfl H (sub2 3 4 rfl rfl) (fun u27 D27 hv27 => ?_))
 obtain ⟨_, rfl, A27, c27, B27, d27, rfl, rfl⟩ := hv27
 refine oO 5 rfl (zG 0 (M' := [HA.blk _ [_, _, _, _, _] _]) rfl rfl rfl rfl si25 rfl rfl rfl ?_)
 refine oK 3 [3, 2] rfl rfl ?_
 refine wG (M' := [HA.blk b2 [_, _, _, _, _] 25]) (by repeat (first | exact yB _ | refine zD 0 rfl ?_ | refine zD 1 rfl ?_ | refine zD 2 rfl ?_ | refine zD 3 rfl ?_ | refine zD 4 rfl ?_)) ?_
 exact xU 0 Tryz.results107 rfl rfl rfl ag25 ⟨rfl, _, rfl, _, _, _, _, rfl, rfl⟩ nS (sub1 0 rfl)
theorem c107l (fb : Addr) (b : Nat) (us : List V) (h60 : us.length ≤ 60) (H : ∀ x ∈ us, C107 fb x) : CtR Tryz.prog 107 #[ptr b] [.node b (RKids 2 (us.map outY)), ftD fb] (RVT (.mk 4 0 ⟨#[]⟩ [] (us.map srtV))) := by
 refine Ct.of_run (args := [ptr b]) Tryz.func107 (by kernel_rfl) rfl Tryz.ntmps107 rfl (fun c => ?_)
 refine yZ 0 rfl (fun A0 cap0 ht0 hv0 hl0 hc0 => ?_)
 rw [List.length_map]
 rw [List.length_map] at hl0
 unfold maxLen at hc0
 refine rO 3 rfl (yJ rfl rfl rfl (fun b1 => ?_))
 refine qH 0 rfl rfl (zA ?_)
 refine zT ze25 rfl (fun b2 => ?_)
 change RunOps _ _ _ _ _ _ _ _ (HA.blk _ [_, _, _, _, _] _ :: _) _
 refine oO 7 rfl (zF 0 sc102 rfl rfl rfl rfl ?_)
 refine zA (sG pn102 rfl rfl ?_)
 refine oO 7 rfl (zF 0 sc102 rfl rfl rfl rfl ?_)
 refine oO 3 rfl (zB xO rfl rfl ?_)
 refine zA (zF 1 sc146 rfl rfl rfl rfl ?_)
 refine oK 17 [30, 23, 2, 1] rfl rfl (rO 4 rfl ?_)
 refine yF rfl rfl (bu25_0 ..) (zA ?_)
 refine zT ze25 rfl (fun b4 => ?_)
 change RunOps _ _ _ _ _ _ _ _ (HA.blk _ [_, _, _, _, _] _ :: _) _
 refine zA (zG 0 (M' := [HA.blk _ [_, _, _, _, _] _, _]) rfl rfl rfl rfl si25 rfl rfl rfl ?_)
 refine oO 5 rfl (zF 0 sc102 rfl rfl rfl rfl ?_)
 refine oO 3 rfl (zB xG rfl rfl ?_)
 refine zA (zF 1 sc148 rfl rfl rfl rfl ?_)
 refine zA (zZ sl148 rfl rfl ?_)
 refine oK 4 [38, 37, 36, 4, 2] rfl rfl (wD 25 5 ?_)
 refine rU ?_
 refine yS 1 (fun (⟨i, A, ca, xs⟩ : Nat × Option Addr × Nat × List Value) => i ≤ us.length) (fun (⟨i, A, ca, xs⟩ : Nat × Option Addr × Nat × List Value) => [(38, .int .i64 ((i : Nat) : Int))]) (fun (⟨i, A, ca, xs⟩ : Nat × Option Addr × Nat × List Value) => HA.row A i ca 25 5 xs :: HA.blk b4 [.int .i64 4, .int .i64 0, .string ⟨#[]⟩, .slice none 0 0, .slice A i ca] 25 :: HA.blk b2 [.int .i64 0, .int .i64 0, .string ⟨#[]⟩, .slice none 0 0, .slice none 0 0] 25 :: []) (fun (⟨i, A, ca, xs⟩ : Nat × Option Addr × Nat × List Value) => .its xs ((us.take i).map srtV) :: .dblk b1 [ptr b] 102 :: .dblk b (ycells 2 ⟨#[]⟩ ⟨#[]⟩ A0 us.length cap0) 150 :: .kids (.slice A0 us.length cap0) (us.map outY) :: .node b (RKids 2 (us.map outY)) :: ftD fb :: []) (fun (⟨i, A, ca, xs⟩ : Nat × Option Addr × Nat × List Value) => us.length - i) (0, none, 0, []) (by show 0 ≤ _; omega) (eC rfl (eN _)) rfl rfl ?_ (eC rfl (eC rfl (eC rfl (eC rfl (eN _)))))
 intro ⟨i, A, ca, xs⟩ hI K hK
 change Run _ _ _ _ _ [(38, _), (37, _), (36, _), (4, _), (2, _)] [_, _, _] [_, _, _, _, _, _]
 have hi : i ≤ us.length := hI
 refine rO 3 rfl (yT rfl rfl rfl ?_)
 refine oR 2 rfl (zM rfl (fun h39 => ?_) (fun h39 => ?_))
 ·refine rO 6 rfl (xK 3 sl148 rfl rfl rfl rfl h39 ?_)
  refine wK 3 i rfl (qL h39) (fun bk => ?_)
  refine zA (yN sc102 rfl rfl (fun _ h => wL h (j := 0) rfl) ?_)
  refine oO 8 rfl (zR rfl rfl rfl (H _ (List.getElem_mem h39) bk) (sub2 1 7 rfl rfl) (fun u44 D44 hv44 => ?_))
  obtain ⟨_, rfl, A44, c44, B44, d44, rfl, rfl⟩ := hv44
  refine oO 7 rfl (zT ze25 rfl (fun b7 => ?_))
  change RunOps _ _ _ _ _ _ _ _ (HA.blk _ [_, _, _, _, _] _ :: _) _
  refine zA (zG 0 (M' := [HA.blk _ [_, _, _, _, _] _, _, _, _]) rfl rfl rfl rfl si25 rfl rfl rfl ?_)
  refine oK 3 [8, 7, 38, 37, 36, 4, 2] rfl rfl (rO 12 rfl ?_)
  refine zB yX rfl rfl (zA ?_)
  refine zI 2 sc23 rfl rfl rfl rfl (zA ?_)
  refine zW 0 rfl ag25 rfl rfl (zA ?_)
  refine zK sl23 rfl rfl rfl rfl rfl (fun b53 => ?_)
  refine zA ?_
  refine op_apd 2 0 sl23 (fun A54 c54 => ?_)
  refine zA (zB yX rfl rfl ?_)
  refine zA (zG 3 (M' := [_, _, _, HA.blk _ [_, _, _, _, _] _, _]) rfl rfl rfl rfl si23 rfl rfl rfl ?_)
  refine oK 1 [38, 37, 36, 4, 2] rfl rfl (rO 3 rfl ?_)
  refine yL rfl rfl (by omega) (oR 3 rfl ?_)
  refine wP 3 0 rfl rfl rfl ?_
  rw [uM (f := srtV) h39]
  exact kQ (hK (i + 1, _, _, _) (by show i + 1 ≤ _; omega) (by show us.length - (i + 1) < us.length - i; omega)) (eC rfl (eC rfl (eC rfl (eC rfl (eC rfl (eN _)))))) (hD := (subc 0 rfl sQ))
 obtain rfl : i = us.length := by omega
 rw [List.take_length]
 refine rO 4 rfl (zW 1 rfl ag25 rfl rfl ?_)
 refine zA (zG 2 (M' := [_, _, HA.blk _ [_, _, _, _, _] _]) rfl rfl rfl rfl si25 rfl rfl rfl ?_)
 refine oR 3 rfl (tI ?_)
 refine uT 0 1 (us.map srtV) rfl rfl (by simp [foots, HA.foot]) (by rw [List.length_map]) (wN 1 0 rfl rfl (s := ⟨#[]⟩) (q := 4) (m := 0) (by decide) ?_)
 refine wG (M' := [HA.blk b2 [_, _, _, _, _] 25]) (by repeat (first | exact yB _ | refine zD 0 rfl ?_ | refine zD 1 rfl ?_ | refine zD 2 rfl ?_ | refine zD 3 rfl ?_ | refine zD 4 rfl ?_)) ?_
 exact xU 0 Tryz.results107 rfl rfl rfl ag25 ⟨rfl, _, rfl, none, 0, _, _, by simp only [V.kind, V.num, V.text, V.keys, V.items, List.length_map, List.length_nil]; rfl, rfl⟩ nS (sub1 0 rfl)
theorem sK {M M2 : List HA} (h : Pick M2 M := by repeat (first | exact wT _ | exact yB _ | refine zD 0 rfl ?_ | refine zD 1 rfl ?_ | refine zD 2 rfl ?_ | refine zD 3 rfl ?_ | refine zD 4 rfl ?_ | refine zD 5 rfl ?_ | refine zD 6 rfl ?_ | refine zD 7 rfl ?_ | refine zD 8 rfl ?_)) : Pick M2 M := h
set_option maxHeartbeats 4000000 in
theorem c107m (fb : Addr) (b : Nat) (ks : List ByteArray) (us : List V) (hl : ks.length = us.length) (h60 : us.length ≤ 60) (hnd : ks.Nodup) (hszs : ∀ s ∈ ks, s.size ≤ maxLen) (H : ∀ x ∈ us, C107 fb x) (ys : List Y) (hys : ys = (ks.zip (us.map outY)).flatMap prY) : CtR Tryz.prog 107 #[ptr b] [.node b (RKids 4 ys), ftD fb] (RVT (srtV (.mk 5 0 ⟨#[]⟩ ks us))) := by
 refine Ct.of_run (args := [ptr b]) Tryz.func107 (by kernel_rfl) rfl Tryz.ntmps107 rfl (fun c => ?_)
 have hfl : ys.length = 2 * us.length := by rw [hys, flat_len, c107len hl]
 have hk0 : ∀ x, x < us.length → ys[2 * x]? = some (scal tStr (ks.getD x ⟨#[]⟩)) := fun x hx => by rw [hys]; exact c107key hl hx
 have hk1 : ∀ x (h : x < us.length), ys[2 * x + 1]? = some (outY us[x]) := fun x hx => by rw [hys]; exact c107val hl hx
 have h2t : ((2 * us.length : Nat) : Int).tmod 2 = 0 := by rw [show ((2 * us.length : Nat) : Int) = 2 * (us.length : Int) by omega]; exact Int.mul_tmod_right _ _
 refine yZ 0 rfl (fun A0 cap0 ht0 hv0 hl0 hc0 => ?_)
 rw [hfl]
 rw [hfl] at hl0
 unfold maxLen at hc0
 refine rO 3 rfl (yJ rfl rfl rfl (fun b1 => ?_))
 refine qH 0 rfl rfl (zA ?_)
 refine zT ze25 rfl (fun b2 => ?_)
 change RunOps _ _ _ _ _ _ _ _ (HA.blk _ [_, _, _, _, _] _ :: _) _
 refine oO 7 rfl (zF 0 sc102 rfl rfl rfl rfl ?_)
 refine zA (sG pn102 rfl rfl ?_)
 refine oO 7 rfl (zF 0 sc102 rfl rfl rfl rfl ?_)
 refine oO 3 rfl (zB xO rfl rfl ?_)
 refine zA (zF 1 sc146 rfl rfl rfl rfl ?_)
 refine oK 17 [30, 23, 2, 1] rfl rfl (rO 13 rfl ?_)
 refine zF 0 sc102 rfl rfl rfl rfl (oO 3 rfl ?_)
 refine zB xG rfl rfl (zA ?_)
 refine zF 1 sc148 rfl rfl rfl rfl (zA ?_)
 refine zZ sl148 rfl rfl (zA ?_)
 refine op_rem rfl rfl rfl (by decide) ?_
 rw [h2t]
 refine zA (uR rfl rfl rfl ?_)
 refine oK 1 [66, 2, 1] rfl rfl (rO 5 rfl ?_)
 refine sR sl139 rfl (fun b68 => ?_)
 refine zA (zT ze139 rfl (fun b9 => ?_))
 change RunOps _ _ _ _ _ _ _ _ (HA.blk _ [_] _ :: _) _
 refine zA (zG 0 (M' := [HA.blk _ [_] _, _, _]) rfl rfl rfl rfl si139 rfl rfl rfl ?_)
 refine oK 8 [10, 9, 2, 1] rfl rfl ?_
 refine yS 1 (fun (⟨i, pb, c9⟩ : Nat × Nat × Nat) => i ≤ us.length) (fun (⟨i, pb, c9⟩ : Nat × Nat × Nat) => [(10, .int .i64 ((2 * i : Nat) : Int))]) (fun (⟨i, pb, c9⟩ : Nat × Nat × Nat) => HA.blk b9 [.slice (some ⟨pb, 0, none⟩) i c9] 139 :: HA.row (some ⟨pb, 0, none⟩) i c9 3 1 ((List.range i).map encE) :: HA.blk b2 [.int .i64 0, .int .i64 0, .string ⟨#[]⟩, .slice none 0 0, .slice none 0 0] 25 :: []) (fun (⟨i, pb, c9⟩ : Nat × Nat × Nat) => .dblk b1 [ptr b] 102 :: .dblk b (ycells 4 ⟨#[]⟩ ⟨#[]⟩ A0 (2 * us.length) cap0) 150 :: .kids (.slice A0 (2 * us.length) cap0) ys :: .node b (RKids 4 ys) :: ftD fb :: []) (fun (⟨i, pb, c9⟩ : Nat × Nat × Nat) => us.length - i) (0, _, _) (by show 0 ≤ _; omega) (eC rfl (eN _)) rfl rfl ?_ (eC rfl (eC rfl (eC rfl (eN _))))
 intro ⟨i, pb, c9⟩ hI K hK
 change Run _ _ _ _ _ [(10, _), (9, _), (2, _), (1, _)] [_, _, _] [_, _, _, _, _]
 have hi : i ≤ us.length := hI
 refine rO 6 rfl (zF 0 sc102 rfl rfl rfl rfl ?_)
 refine oO 3 rfl (zB xG rfl rfl ?_)
 refine zA (zF 1 sc148 rfl rfl rfl rfl ?_)
 refine zA (zZ sl148 rfl rfl ?_)
 refine zA (yT rfl rfl rfl ?_)
 refine yK (zM rfl (fun h75 => ?_) (fun h75 => ?_))
 ·refine rO 5 rfl (zI 0 sc139 rfl rfl rfl rfl ?_)
  refine oO 3 rfl (zK sl139 rfl rfl rfl rfl rfl (fun b80 => ?_))
  refine zA ?_
  refine op_apd 2 0 sl139 (fun A81 c81 => ?_)
  refine zA (zG 1 (M' := [_, HA.blk _ [_] _, _, _]) rfl rfl rfl rfl si139 rfl rfl rfl ?_)
  refine oK 1 [10, 9, 2, 1] rfl rfl (rO 5 rfl ?_)
  refine yP (s := ((2 * (i + 1) : Nat) : Int)) rfl rfl rfl (by omega) (by omega) (by omega) (oR 3 rfl ?_)
  refine run_rowA 2 rfl (by omega) (fun pb1 hpb => ?_)
  subst hpb
  rw [rangeE_snoc]
  exact kQ (hK (i + 1, pb1, _) (by show i + 1 ≤ _; omega) (by show us.length - (i + 1) < us.length - i; omega)) (eC rfl (eC rfl (eC rfl (eC rfl (eN _)))))
 obtain rfl : i = us.length := by omega
 rw [rangeE]
 refine rO 4 rfl (zI 0 sc139 rfl rfl rfl rfl ?_)
 refine zA (op_makeIface (by kernel_rfl) rfl rfl ?_)
 refine zA (qX rfl rfl rfl ?_)
 refine zA ?_
 refine tW 1 0 rfl rfl rfl (c130 167 #[ptr b1, ptr b9] pb us.length c9 ys.length ((List.range us.length).map (2 * ·)) (fun x hx => by obtain ⟨z, hz, rfl⟩ := List.mem_map.1 hx; have := List.mem_range.1 hz; omega) (ltK (vals ys)) (ltK_swo _) [HA.blk b9 [.slice (some ⟨pb, 0, none⟩) us.length c9] 139] [.dblk b1 [ptr b] 102, .dblk b (ycells 4 ⟨#[]⟩ ⟨#[]⟩ A0 (2 * us.length) cap0) 150, .kids (.slice A0 (2 * us.length) cap0) ys] (by omega) (fun args w => run_callFunc fun167 args w) (fun W dk h1 h2 => less_okE ys A0 (2 * us.length) cap0 b b1 b9 pb us.length c9 _ _ _ hfl.symm W dk h1 h2)) rfl rfl (subc 0 rfl (sub2 1 2 rfl rfl)) (fun u85 M85 D85 hv85 => ?_)
 obtain ⟨rfl, ⟨ds, hdp, hds, rfl⟩, rfl⟩ := hv85
 rw [hys] at hds
 obtain ⟨es, hep, hes, hee⟩ := halves hl hdp hds
 rw [hee]
 have hel : es.length = us.length := by rw [hep.length_eq, List.length_range]
 have hep2 : es.Perm (List.range ks.length) := by rw [hl]; exact hep
 refine oK 1 [9, 2, 1] rfl rfl (rO 3 rfl ?_)
 refine yF rfl rfl (bu25_0 ..) (zA ?_)
 refine zT ze25 rfl (fun b11 => ?_)
 change RunOps _ _ _ _ _ _ _ _ (HA.blk _ [_, _, _, _, _] _ :: _) _
 refine zA (zG 0 (M' := [HA.blk _ [_, _, _, _, _] _, _, _, _]) rfl rfl rfl rfl si25 rfl rfl rfl ?_)
 refine oO 5 rfl (zI 2 sc139 rfl rfl rfl rfl ?_)
 refine zA (zZ sl139 rfl rfl ?_)
 refine oK 4 [89, 88, 87, 11, 2, 1] rfl rfl (wD 25 5 ?_)
 refine wD 9 1 (rU ?_)
 refine yS 1 (fun (⟨i3, KA, kc, KI, ic, xv⟩ : Nat × Option Addr × Nat × Option Addr × Nat × List Value) => i3 ≤ us.length) (fun (⟨i3, KA, kc, KI, ic, xv⟩ : Nat × Option Addr × Nat × Option Addr × Nat × List Value) => [(89, .int .i64 ((i3 : Nat) : Int))]) (fun (⟨i3, KA, kc, KI, ic, xv⟩ : Nat × Option Addr × Nat × Option Addr × Nat × List Value) => HA.row KA i3 kc 9 1 ((es.take i3).map (fun x => Value.string (ks.getD x ⟨#[]⟩))) :: HA.row KI i3 ic 25 5 xv :: HA.blk b11 [.int .i64 5, .int .i64 0, .string ⟨#[]⟩, .slice KA i3 kc, .slice KI i3 ic] 25 :: HA.row (some ⟨pb, 0, none⟩) us.length c9 3 1 (es.map encE) :: HA.blk b9 [.slice (some ⟨pb, 0, none⟩) us.length c9] 139 :: HA.blk b2 [.int .i64 0, .int .i64 0, .string ⟨#[]⟩, .slice none 0 0, .slice none 0 0] 25 :: []) (fun (⟨i3, KA, kc, KI, ic, xv⟩ : Nat × Option Addr × Nat × Option Addr × Nat × List Value) => .its xv ((es.take i3).map (fun x => (us.map srtV).getD x zV0)) :: .dblk b1 [ptr b] 102 :: .dblk b (ycells 4 ⟨#[]⟩ ⟨#[]⟩ A0 (2 * us.length) cap0) 150 :: .kids (.slice A0 (2 * us.length) cap0) ys :: .node b (RKids 4 ys) :: ftD fb :: []) (fun (⟨i3, KA, kc, KI, ic, xv⟩ : Nat × Option Addr × Nat × Option Addr × Nat × List Value) => us.length - i3) (0, none, 0, none, 0, []) (by show 0 ≤ _; omega) (eC rfl (eN _)) rfl rfl ?_ (eC rfl (eC rfl (eC rfl (eC rfl (eC rfl (eN _))))))
 intro ⟨i3, KA, kc, KI, ic, xv⟩ hI K hK1
 change Run _ _ _ _ _ [(89, _), (88, _), (87, _), (11, _), (2, _), (1, _)] [_, _, _, _, _, _] [_, _, _, _, _, _]
 have hi3 : i3 ≤ us.length := hI
 refine rO 3 rfl (yT rfl rfl rfl ?_)
 refine oR 2 rfl (zM rfl (fun h90 => ?_) (fun h90 => ?_))
 ·have hld : i3 < es.length := by omega
  have hde : es[i3] < us.length := places_lt hep _ (List.getElem_mem hld)
  have hdk : es[i3] < ks.length := by omega
  have hdv : es[i3] < (us.map srtV).length := by rw [List.length_map]; exact hde
  refine rO 8 rfl (xV sl139 rfl rfl rfl h90 ?_)
  refine zA ?_
  refine yN sc3 rfl rfl (fun _ h => row_at h (i := 3) rfl (by rw [List.getElem?_map, List.getElem?_eq_getElem hld]; rfl)) ?_
  refine oO 8 rfl (zF 1 sc102 rfl rfl rfl rfl ?_)
  refine oO 3 rfl (zB xG rfl rfl ?_)
  refine zA (zF 2 sc148 rfl rfl rfl rfl ?_)
  refine oO 3 rfl (xK (i := 2 * es[i3]) 3 sl148 rfl rfl rfl rfl (by omega) ?_)
  refine wK 3 (2 * es[i3]) rfl (hk0 _ hde) (fun bk => ?_)
  refine vP 1 rfl (fun A1 cap1 ht1 hv1 hl1 hc1 => ?_)
  refine zA (yN sc102 rfl rfl (fun _ h => wL h (j := 2) rfl) ?_)
  refine oO 3 rfl (zB xR rfl rfl ?_)
  refine zA (zF 0 sc9 rfl rfl rfl rfl ?_)
  refine oK 3 [14, 13, 12, 89, 88, 87, 11, 2, 1] rfl rfl (rO 3 rfl ?_)
  refine zF 5 sc102 rfl rfl rfl rfl (oO 3 rfl ?_)
  refine zB xG rfl rfl (zA ?_)
  refine zF 6 sc148 rfl rfl rfl rfl (oO 3 rfl ?_)
  refine yL rfl rfl (by omega) (zA ?_)
  refine xK (i := 2 * es[i3] + 1) 7 sl148 rfl rfl rfl rfl (by omega) (wK 7 (2 * es[i3] + 1) rfl (hk1 _ hde) (fun bv => ?_))
  refine zA (yN sc102 rfl rfl (fun _ h => wL h (j := 0) rfl) ?_)
  refine zA (zR rfl rfl rfl (H _ (List.getElem_mem hde) bv) (sub2 1 11 rfl rfl) (fun u113 D113 hv113 => ?_))
  obtain ⟨_, rfl, A113, c113, B113, d113, rfl, rfl⟩ := hv113
  refine oO 7 rfl (zT ze25 rfl (fun b15 => ?_))
  change RunOps _ _ _ _ _ _ _ _ (HA.blk _ [_, _, _, _, _] _ :: _) _
  refine zA (zG 0 (M' := [HA.blk _ [_, _, _, _, _] _, _, _, _, _, _, _]) rfl rfl rfl rfl si25 rfl rfl rfl ?_)
  refine oK 3 [16, 15, 14, 12, 89, 88, 87, 11, 2, 1] rfl rfl (rS 9 rfl ?_)
  refine wB (s := 118) rfl (rfl) (oO 3 rfl ?_)
  refine wJ rfl rfl rfl (oS 2 rfl ?_)
  refine yA (s := 121) rfl (fun h121 => ?_) (fun h121 => ?_)
  ·refine zH rfl rfl (zB xN rfl rfl ?_)
   refine zH rfl rfl (zI 3 sc22 rfl rfl rfl rfl ?_)
   refine oO 3 rfl (xI (s := ((i3 - 1 : Nat) : Int)) rfl rfl rfl (by omega) (by omega) (by omega) ?_)
   refine zH rfl rfl (op_idxRow 1 sl22 rfl rfl rfl rfl (by omega) ?_)
   refine zH rfl rfl (yN (v := .string (ks.getD (es[i3 - 1]'(by omega)) ⟨#[]⟩)) sc9 rfl rfl (fun _ h => row_atA h (i := 1) rfl (take_get (by omega) (by omega))) ?_)
   refine oK 9 [131, 15, 14, 89, 88, 87, 11, 2, 1] rfl rfl (yO rfl (decide_eq_false (fun he => places_ne hnd hep2 (i := i3 - 1) (j := i3) (by omega) (by omega) he)) ?_)
   refine rM (yU yG ?_)
   refine zQ (tP 0 rfl wanted0 (zX xN rfl) ?_)
   refine tP 2 rfl wanted0 (zU rfl) (tP 5 rfl wanted0 (zX yX rfl) ?_)
   refine qZ (zD 0 rfl (zD 2 rfl (yB _))) (vO (zD 0 rfl (zD 2 rfl (yB _))) 1 (xB _ _ _ _) rfl wanted0 (by decide +kernel) (by decide +kernel) (by decide +kernel) rfl (xA 1 sc22 rfl rfl rfl) ?_)
   refine vO (zD 0 rfl (zD 2 rfl (yB _))) 6 (xB _ _ _ _) rfl wanted0 (by decide +kernel) (by decide +kernel) (by decide +kernel) rfl (xA 1 sc23 rfl rfl rfl) (vO (zD 0 rfl (zD 2 rfl (yB _))) 7 (xB _ _ _ _) rfl wanted0 (by decide +kernel) (by decide +kernel) (by decide +kernel) rfl (vH 0 rfl ag25 rfl) ?_)
   refine tQ (rs := [3, 8]) (by decide +kernel) (by simp) ?_
   intro j hj
   simp only [List.mem_cons, List.not_mem_nil, or_false] at hj
   rcases hj with rfl | rfl
   ·refine zO (I2 := [[7, 6, 1], [5, 0], []]) rfl wanted0 (by decide +kernel) (fun Kd hKd => ?_)
    refine zK sl22 rfl rfl rfl rfl rfl (fun b136 => ?_)
    refine hKd _ _ _ (wS sK sQ (hC (zE (zP)))) ?_
    refine tQ (rs := [4, 8]) (by decide +kernel) (by simp) ?_
    intro j hj
    simp only [List.mem_cons, List.not_mem_nil, or_false] at hj
    rcases hj with rfl | rfl
    ·refine zO (I2 := [[7, 6], [5], []]) rfl wanted0 (by decide +kernel) (fun Kd hKd => ?_)
     refine op_apd 2 0 sl22 (fun A137 c137 => ?_)
     refine hKd _ _ _ (wS sK sQ (hC (zE (zP)))) ?_
     refine zQ (tP 10 rfl wanted0 (zX xN rfl) ?_)
     refine zN 8 (by decide +kernel) ?_
     refine zO (I2 := [[10], [6], [5], []]) rfl wanted0 (by decide +kernel) (fun Kd hKd => ?_)
     refine zK sl23 rfl rfl rfl rfl rfl (fun b141 => ?_)
     refine hKd _ _ _ (hC (wS sK sQ (hC (zE (zP))))) ?_
     refine zN 9 (by decide +kernel) ?_
     refine zO (I2 := [[10], [], [], []]) rfl wanted0 (by decide +kernel) (fun Kd hKd => ?_)
     refine op_apd 4 0 sl23 (fun A142 c142 => ?_)
     refine hKd _ _ _ (hC (zE (zE (zE (zP))))) (zN 11 (by decide +kernel) ?_)
     refine zO (I2 := [[], [], [], []]) rfl wanted0 (by decide +kernel) (fun Kd hKd => ?_)
     refine zG 5 (M' := [_, _, _, _, _, HA.blk _ [_, _, _, _, _] _, _, _, _]) rfl rfl rfl rfl si22 rfl rfl rfl (hKd _ _ _ (zE (zE (zE (zE (zP))))) ?_)
     refine tP 12 rfl wanted0 (zX yX rfl) (zN 13 (by decide +kernel) ?_)
     refine zO (I2 := [[], [], [], []]) rfl wanted0 (by decide +kernel) (fun Kd hKd => ?_)
     refine zG 5 (M' := [_, _, _, _, _, HA.blk _ [_, _, _, _, _] _, _, _, _]) rfl rfl rfl rfl si23 rfl rfl rfl (hKd _ _ _ (zE (zE (zE (zE (zP))))) ?_)
     refine yH (by decide +kernel) (rK 0 [89, 88, 87, 11, 2, 1] rfl rfl ?_)
     refine rO 3 rfl (yL rfl rfl (by omega) ?_)
     refine oR 3 rfl (wP 7 0 rfl rfl rfl ?_)
     rw [wX (f := fun x => (us.map srtV).getD x zV0) hld (by rw [vT hdv, List.getElem_map]), wX (f := fun x => Value.string (ks.getD x ⟨#[]⟩)) hld rfl]
     exact kQ (hK1 (i3 + 1, _, _, _, _, _) (by show i3 + 1 ≤ _; omega) (by show us.length - (i3 + 1) < us.length - i3; omega)) (eC rfl (eC rfl (eC rfl (eC rfl (eC rfl (eC rfl (eN _))))))) (hD := (subc 0 rfl sQ))
    refine zO (I2 := [[6, 1], [5, 0], []]) rfl wanted0 (by decide +kernel) (fun Kd hKd => ?_)
    refine zK sl23 rfl rfl rfl rfl rfl (fun b141 => ?_)
    refine hKd _ _ _ (wS sK sQ (hC (zE (zP)))) ?_
    refine zN 4 (by decide +kernel) ?_
    refine zO (I2 := [[6], [5], []]) rfl wanted0 (by decide +kernel) (fun Kd hKd => ?_)
    refine op_apd 3 1 sl22 (fun A137 c137 => ?_)
    refine hKd _ _ _ (wS sK sQ (hC (zE (zP)))) ?_
    refine zQ (tP 10 rfl wanted0 (zX xN rfl) ?_)
    refine zN 9 (by decide +kernel) ?_
    refine zO (I2 := [[10], [], [], []]) rfl wanted0 (by decide +kernel) (fun Kd hKd => ?_)
    refine op_apd 4 0 sl23 (fun A142 c142 => ?_)
    refine hKd _ _ _ (hC (zE (zE (zE (zP))))) (zN 11 (by decide +kernel) ?_)
    refine zO (I2 := [[], [], [], []]) rfl wanted0 (by decide +kernel) (fun Kd hKd => ?_)
    refine zG 5 (M' := [_, _, _, _, _, HA.blk _ [_, _, _, _, _] _, _, _, _]) rfl rfl rfl rfl si22 rfl rfl rfl (hKd _ _ _ (zE (zE (zE (zE (zP))))) ?_)
    refine tP 12 rfl wanted0 (zX yX rfl) (zN 13 (by decide +kernel) ?_)
    refine zO (I2 := [[], [], [], []]) rfl wanted0 (by decide +kernel) (fun Kd hKd => ?_)
    refine zG 5 (M' := [_, _, _, _, _, HA.blk _ [_, _, _, _, _] _, _, _, _]) rfl rfl rfl rfl si23 rfl rfl rfl (hKd _ _ _ (zE (zE (zE (zE (zP))))) ?_)
    refine yH (by decide +kernel) (rK 0 [89, 88, 87, 11, 2, 1] rfl rfl ?_)
    refine rO 3 rfl (yL rfl rfl (by omega) ?_)
    refine oR 3 rfl (wP 7 0 rfl rfl rfl ?_)
    rw [wX (f := fun x => (us.map srtV).getD x zV0) hld (by rw [vT hdv, List.getElem_map]), wX (f := fun x => Value.string (ks.getD x ⟨#[]⟩)) hld rfl]
    exact kQ (hK1 (i3 + 1, _, _, _, _, _) (by show i3 + 1 ≤ _; omega) (by show us.length - (i3 + 1) < us.length - i3; omega)) (eC rfl (eC rfl (eC rfl (eC rfl (eC rfl (eC rfl (eN _))))))) (hD := (subc 0 rfl sQ))
   refine zO (I2 := [[6, 1], [5, 2, 0], []]) rfl wanted0 (by decide +kernel) (fun Kd hKd => ?_)
   refine zK sl23 rfl rfl rfl rfl rfl (fun b141 => ?_)
   refine hKd _ _ _ (wS sK sQ (hC (zE (zP)))) ?_
   refine zN 3 (by decide +kernel) ?_
   refine zO (I2 := [[6, 1], [5, 0], []]) rfl wanted0 (by decide +kernel) (fun Kd hKd => ?_)
   refine zK sl22 rfl rfl rfl rfl rfl (fun b136 => ?_)
   refine hKd _ _ _ (wS sK sQ (hC (zE (zP)))) ?_
   refine zN 4 (by decide +kernel) ?_
   refine zO (I2 := [[6], [5], []]) rfl wanted0 (by decide +kernel) (fun Kd hKd => ?_)
   refine op_apd 3 0 sl22 (fun A137 c137 => ?_)
   refine hKd _ _ _ (wS sK sQ (hC (zE (zP)))) ?_
   refine zQ (tP 10 rfl wanted0 (zX xN rfl) ?_)
   refine zN 9 (by decide +kernel) ?_
   refine zO (I2 := [[10], [], [], []]) rfl wanted0 (by decide +kernel) (fun Kd hKd => ?_)
   refine op_apd 4 1 sl23 (fun A142 c142 => ?_)
   refine hKd _ _ _ (hC (zE (zE (zE (zP))))) (zN 11 (by decide +kernel) ?_)
   refine zO (I2 := [[], [], [], []]) rfl wanted0 (by decide +kernel) (fun Kd hKd => ?_)
   refine zG 5 (M' := [_, _, _, _, _, HA.blk _ [_, _, _, _, _] _, _, _, _]) rfl rfl rfl rfl si22 rfl rfl rfl (hKd _ _ _ (zE (zE (zE (zE (zP))))) ?_)
   refine tP 12 rfl wanted0 (zX yX rfl) (zN 13 (by decide +kernel) ?_)
   refine zO (I2 := [[], [], [], []]) rfl wanted0 (by decide +kernel) (fun Kd hKd => ?_)
   refine zG 5 (M' := [_, _, _, _, _, HA.blk _ [_, _, _, _, _] _, _, _, _]) rfl rfl rfl rfl si23 rfl rfl rfl (hKd _ _ _ (zE (zE (zE (zE (zP))))) ?_)
   refine yH (by decide +kernel) (rK 0 [89, 88, 87, 11, 2, 1] rfl rfl ?_)
   refine rO 3 rfl (yL rfl rfl (by omega) ?_)
   refine oR 3 rfl (wP 7 0 rfl rfl rfl ?_)
   rw [wX (f := fun x => (us.map srtV).getD x zV0) hld (by rw [vT hdv, List.getElem_map]), wX (f := fun x => Value.string (ks.getD x ⟨#[]⟩)) hld rfl]
   exact kQ (hK1 (i3 + 1, _, _, _, _, _) (by show i3 + 1 ≤ _; omega) (by show us.length - (i3 + 1) < us.length - i3; omega)) (eC rfl (eC rfl (eC rfl (eC rfl (eC rfl (eC rfl (eN _))))))) (hD := (subc 0 rfl sQ))
  refine oK 13 [131, 15, 14, 89, 88, 87, 11, 2, 1] rfl rfl (rR 2 rfl ?_)
  refine yU yG (zQ ?_)
  refine tP 0 rfl wanted0 (zX xN rfl) (tP 2 rfl wanted0 (zU rfl) ?_)
  refine tP 5 rfl wanted0 (zX yX rfl) (qZ (zD 0 rfl (zD 2 rfl (yB _))) ?_)
  refine vO (zD 0 rfl (zD 2 rfl (yB _))) 1 (xB _ _ _ _) rfl wanted0 (by decide +kernel) (by decide +kernel) (by decide +kernel) rfl (xA 1 sc22 rfl rfl rfl) (vO (zD 0 rfl (zD 2 rfl (yB _))) 6 (xB _ _ _ _) rfl wanted0 (by decide +kernel) (by decide +kernel) (by decide +kernel) rfl (xA 1 sc23 rfl rfl rfl) ?_)
  refine vO (zD 0 rfl (zD 2 rfl (yB _))) 7 (xB _ _ _ _) rfl wanted0 (by decide +kernel) (by decide +kernel) (by decide +kernel) rfl (vH 0 rfl ag25 rfl) (tQ (rs := [3, 8]) (by decide +kernel) (by simp) ?_)
  intro j hj
  simp only [List.mem_cons, List.not_mem_nil, or_false] at hj
  rcases hj with rfl | rfl
  ·refine zO (I2 := [[7, 6, 1], [5, 0], []]) rfl wanted0 (by decide +kernel) (fun Kd hKd => ?_)
   refine zK sl22 rfl rfl rfl rfl rfl (fun b136 => ?_)
   refine hKd _ _ _ (wS sK sQ (hC (zE (zP)))) ?_
   refine tQ (rs := [4, 8]) (by decide +kernel) (by simp) ?_
   intro j hj
   simp only [List.mem_cons, List.not_mem_nil, or_false] at hj
   rcases hj with rfl | rfl
   ·refine zO (I2 := [[7, 6], [5], []]) rfl wanted0 (by decide +kernel) (fun Kd hKd => ?_)
    refine op_apd 2 0 sl22 (fun A137 c137 => ?_)
    refine hKd _ _ _ (wS sK sQ (hC (zE (zP)))) ?_
    refine zQ (tP 10 rfl wanted0 (zX xN rfl) ?_)
    refine zN 8 (by decide +kernel) ?_
    refine zO (I2 := [[10], [6], [5], []]) rfl wanted0 (by decide +kernel) (fun Kd hKd => ?_)
    refine zK sl23 rfl rfl rfl rfl rfl (fun b141 => ?_)
    refine hKd _ _ _ (hC (wS sK sQ (hC (zE (zP))))) ?_
    refine zN 9 (by decide +kernel) ?_
    refine zO (I2 := [[10], [], [], []]) rfl wanted0 (by decide +kernel) (fun Kd hKd => ?_)
    refine op_apd 4 0 sl23 (fun A142 c142 => ?_)
    refine hKd _ _ _ (hC (zE (zE (zE (zP))))) (zN 11 (by decide +kernel) ?_)
    refine zO (I2 := [[], [], [], []]) rfl wanted0 (by decide +kernel) (fun Kd hKd => ?_)
    refine zG 5 (M' := [_, _, _, _, _, HA.blk _ [_, _, _, _, _] _, _, _, _]) rfl rfl rfl rfl si22 rfl rfl rfl (hKd _ _ _ (zE (zE (zE (zE (zP))))) ?_)
    refine tP 12 rfl wanted0 (zX yX rfl) (zN 13 (by decide +kernel) ?_)
    refine zO (I2 := [[], [], [], []]) rfl wanted0 (by decide +kernel) (fun Kd hKd => ?_)
    refine zG 5 (M' := [_, _, _, _, _, HA.blk _ [_, _, _, _, _] _, _, _, _]) rfl rfl rfl rfl si23 rfl rfl rfl (hKd _ _ _ (zE (zE (zE (zE (zP))))) ?_)
    refine yH (by decide +kernel) (rK 0 [89, 88, 87, 11, 2, 1] rfl rfl ?_)
    refine rO 3 rfl (yL rfl rfl (by omega) ?_)
    refine oR 3 rfl (wP 7 0 rfl rfl rfl ?_)
    rw [wX (f := fun x => (us.map srtV).getD x zV0) hld (by rw [vT hdv, List.getElem_map]), wX (f := fun x => Value.string (ks.getD x ⟨#[]⟩)) hld rfl]
    exact kQ (hK1 (i3 + 1, _, _, _, _, _) (by show i3 + 1 ≤ _; omega) (by show us.length - (i3 + 1) < us.length - i3; omega)) (eC rfl (eC rfl (eC rfl (eC rfl (eC rfl (eC rfl (eN _))))))) (hD := (subc 0 rfl sQ))
   refine zO (I2 := [[6, 1], [5, 0], []]) rfl wanted0 (by decide +kernel) (fun Kd hKd => ?_)
   refine zK sl23 rfl rfl rfl rfl rfl (fun b141 => ?_)
   refine hKd _ _ _ (wS sK sQ (hC (zE (zP)))) ?_
   refine zN 4 (by decide +kernel) ?_
   refine zO (I2 := [[6], [5], []]) rfl wanted0 (by decide +kernel) (fun Kd hKd => ?_)
   refine op_apd 3 1 sl22 (fun A137 c137 => ?_)
   refine hKd _ _ _ (wS sK sQ (hC (zE (zP)))) ?_
   refine zQ (tP 10 rfl wanted0 (zX xN rfl) ?_)
   refine zN 9 (by decide +kernel) ?_
   refine zO (I2 := [[10], [], [], []]) rfl wanted0 (by decide +kernel) (fun Kd hKd => ?_)
   refine op_apd 4 0 sl23 (fun A142 c142 => ?_)
   refine hKd _ _ _ (hC (zE (zE (zE (zP))))) (zN 11 (by decide +kernel) ?_)
   refine zO (I2 := [[], [], [], []]) rfl wanted0 (by decide +kernel) (fun Kd hKd => ?_)
   refine zG 5 (M' := [_, _, _, _, _, HA.blk _ [_, _, _, _, _] _, _, _, _]) rfl rfl rfl rfl si22 rfl rfl rfl (hKd _ _ _ (zE (zE (zE (zE (zP))))) ?_)
   refine tP 12 rfl wanted0 (zX yX rfl) (zN 13 (by decide +kernel) ?_)
   refine zO (I2 := [[], [], [], []]) rfl wanted0 (by decide +kernel) (fun Kd hKd => ?_)
   refine zG 5 (M' := [_, _, _, _, _, HA.blk _ [_, _, _, _, _] _, _, _, _]) rfl rfl rfl rfl si23 rfl rfl rfl (hKd _ _ _ (zE (zE (zE (zE (zP))))) ?_)
   refine yH (by decide +kernel) (rK 0 [89, 88, 87, 11, 2, 1] rfl rfl ?_)
   refine rO 3 rfl (yL rfl rfl (by omega) ?_)
   refine oR 3 rfl (wP 7 0 rfl rfl rfl ?_)
   rw [wX (f := fun x => (us.map srtV).getD x zV0) hld (by rw [vT hdv, List.getElem_map]), wX (f := fun x => Value.string (ks.getD x ⟨#[]⟩)) hld rfl]
   exact kQ (hK1 (i3 + 1, _, _, _, _, _) (by show i3 + 1 ≤ _; omega) (by show us.length - (i3 + 1) < us.length - i3; omega)) (eC rfl (eC rfl (eC rfl (eC rfl (eC rfl (eC rfl (eN _))))))) (hD := (subc 0 rfl sQ))
  refine zO (I2 := [[6, 1], [5, 2, 0], []]) rfl wanted0 (by decide +kernel) (fun Kd hKd => ?_)
  refine zK sl23 rfl rfl rfl rfl rfl (fun b141 => ?_)
  refine hKd _ _ _ (wS sK sQ (hC (zE (zP)))) ?_
  refine zN 3 (by decide +kernel) ?_
  refine zO (I2 := [[6, 1], [5, 0], []]) rfl wanted0 (by decide +kernel) (fun Kd hKd => ?_)
  refine zK sl22 rfl rfl rfl rfl rfl (fun b136 => ?_)
  refine hKd _ _ _ (wS sK sQ (hC (zE (zP)))) ?_
  refine zN 4 (by decide +kernel) ?_
  refine zO (I2 := [[6], [5], []]) rfl wanted0 (by decide +kernel) (fun Kd hKd => ?_)
  refine op_apd 3 0 sl22 (fun A137 c137 => ?_)
  refine hKd _ _ _ (wS sK sQ (hC (zE (zP)))) ?_
  refine zQ (tP 10 rfl wanted0 (zX xN rfl) ?_)
  refine zN 9 (by decide +kernel) ?_
  refine zO (I2 := [[10], [], [], []]) rfl wanted0 (by decide +kernel) (fun Kd hKd => ?_)
  refine op_apd 4 1 sl23 (fun A142 c142 => ?_)
  refine hKd _ _ _ (hC (zE (zE (zE (zP))))) (zN 11 (by decide +kernel) ?_)
  refine zO (I2 := [[], [], [], []]) rfl wanted0 (by decide +kernel) (fun Kd hKd => ?_)
  refine zG 5 (M' := [_, _, _, _, _, HA.blk _ [_, _, _, _, _] _, _, _, _]) rfl rfl rfl rfl si22 rfl rfl rfl (hKd _ _ _ (zE (zE (zE (zE (zP))))) ?_)
  refine tP 12 rfl wanted0 (zX yX rfl) (zN 13 (by decide +kernel) ?_)
  refine zO (I2 := [[], [], [], []]) rfl wanted0 (by decide +kernel) (fun Kd hKd => ?_)
  refine zG 5 (M' := [_, _, _, _, _, HA.blk _ [_, _, _, _, _] _, _, _, _]) rfl rfl rfl rfl si23 rfl rfl rfl (hKd _ _ _ (zE (zE (zE (zE (zP))))) ?_)
  refine yH (by decide +kernel) (rK 0 [89, 88, 87, 11, 2, 1] rfl rfl ?_)
  refine rO 3 rfl (yL rfl rfl (by omega) ?_)
  refine oR 3 rfl (wP 7 0 rfl rfl rfl ?_)
  rw [wX (f := fun x => (us.map srtV).getD x zV0) hld (by rw [vT hdv, List.getElem_map]), wX (f := fun x => Value.string (ks.getD x ⟨#[]⟩)) hld rfl]
  exact kQ (hK1 (i3 + 1, _, _, _, _, _) (by show i3 + 1 ≤ _; omega) (by show us.length - (i3 + 1) < us.length - i3; omega)) (eC rfl (eC rfl (eC rfl (eC rfl (eC rfl (eC rfl (eN _))))))) (hD := (subc 0 rfl sQ))
 obtain rfl : i3 = us.length := by omega
 have het : es.take us.length = es := by rw [← hel]; exact List.take_length
 rw [het]
 refine wQ 0 (es.map fun x => ks.getD x ⟨#[]⟩) rfl (by simp [foots, HA.foot]) (by rw [List.map_map]; rfl) (by intro s hs; obtain ⟨x, hx, rfl⟩ := List.mem_map.1 hs; rw [vT (places_lt hep2 _ hx)]; exact hszs _ (List.getElem_mem _)) (uT 0 1 (es.map fun x => (us.map srtV).getD x zV0) rfl rfl (by simp [foots, HA.foot]) (by rw [List.length_map, hel]) ?_)
 refine wN 1 0 rfl rfl (s := ⟨#[]⟩) (q := 5) (m := 0) (by decide) (rO 4 rfl ?_)
 refine zW 0 rfl ag25 rfl rfl (zA ?_)
 refine zG 3 (M' := [_, _, _, HA.blk _ [_, _, _, _, _] _]) rfl rfl rfl rfl si25 rfl rfl rfl (oR 3 rfl ?_)
 have hsv : srtV (.mk 5 0 ⟨#[]⟩ ks us) = .mk 5 0 ⟨#[]⟩ (es.map fun x => ks.getD x ⟨#[]⟩) (es.map fun x => (us.map srtV).getD x zV0) := by
  rw [srtV_map (places_srt zV0 ks (us.map srtV) es (by rw [List.length_map]; exact hl) hnd hep2 hes), List.map_map, List.map_map]
  rfl
 rw [hsv]
 refine wG (M' := [HA.blk b2 [_, _, _, _, _] 25]) (by repeat (first | exact yB _ | refine zD 0 rfl ?_ | refine zD 1 rfl ?_ | refine zD 2 rfl ?_ | refine zD 3 rfl ?_ | refine zD 4 rfl ?_)) ?_
 exact xU 0 Tryz.results107 rfl rfl rfl ag25 ⟨rfl, _, rfl, KA, kc, KI, ic, by simp only [V.kind, V.num, V.text, V.keys, V.items, List.length_map, hel], rfl⟩ nS (sub1 0 rfl)
theorem c107 (fb : Addr) (u : V) : Pl (srtV u) → Eql u → C107 fb u := by
  refine V.indS (p := fun u => Pl (srtV u) → Eql u → C107 fb u) (fun u IH hp he => ?_) u
  have hk := ju_kind hp
  have hD : ∀ {b : Nat} {y : Y} {v : V}, CtR Tryz.prog 166 #[ptr b] [.node b y] (RVT v) → CtR Tryz.prog 166 #[ptr b] [.node b y, ftD fb] (RVT v) := fun h => Ct.data h (fun d hd => by rw [List.mem_singleton.1 hd]; exact List.mem_cons_self)
  intro b
  by_cases h4 : u.kind = 4
  · obtain ⟨hu, h60, hit⟩ := ju_l hp he h4
    have h1 := c107l fb b u.items h60 (fun x hx => IH x (yE hx) (hit x hx).1 (hit x hx).2)
    rw [← outY_l, ← srtV_no (q := 4) (n := 0) (s := ⟨#[]⟩) (ks := []) (by decide), ← hu] at h1
    exact h1
  by_cases h5 : u.kind = 5
  · obtain ⟨hu, hl, h60, hnd, hkw, hit⟩ := ju_m hp he h5
    have h1 := c107m fb b u.keys u.items hl h60 hnd (fun k hk => by have := (hkw k hk).1.2; unfold maxLen; omega) (fun x hx => IH x (yE hx) (hit x hx).1 (hit x hx).2) _ rfl
    rw [← outY_m, ← hu] at h1
    exact h1
  obtain ⟨hpu, hu⟩ := ju_scal hp h4 h5
  rw [hu]
  have hk8 : (outY u).kind = 8 := by rw [outY_kind hk.1 hk.2, if_neg h4, if_neg h5]
  refine c107s fb b _ u hk8 ?_
  have hnum := hpu.num
  rcases (by omega : u.kind = 0 ∨ u.kind = 1 ∨ u.kind = 2 ∨ u.kind = 3 ∨ u.kind = 6) with h | h | h | h | h
  · have hs := qP hpu (by omega) (by omega)
    obtain ⟨q, m, s, ks, ts⟩ := u
    simp only [V.kind] at h
    subst h
    simp only [V.kind, V.num, V.text, V.keys, V.items] at hs
    have e : V.mk 0 m s ks ts = .mk 0 0 ⟨#[]⟩ [] [] := by
      unfold IsScal at hs
      simp at hs
      simp [hs]
    rw [e, sA]
    exact hD (c166n b)
  · obtain ⟨hl, hn⟩ := leaf_bool hpu h
    rw [hl, outY_bool]
    rcases hn with hn | hn
    · rw [hn]; exact hD (c166f b)
    · rw [hn]; exact hD (c166t b)
  · have hl := leaf_int hpu h
    obtain ⟨a1, a2⟩ := hnum.num (by omega)
    rw [hl, outY_int]
    exact hD (c166i b _ a1 a2)
  · have hl := qE hpu h
    rw [hl, qF]
    exact hD (c166s b _)
  · have hl := leaf_q hpu h
    obtain ⟨a1, a2⟩ := hnum.num (by omega)
    have h0 := hpu.frac h
    rw [hl, outY_q]
    exact c166q fb b _ h0 a1 a2
end Go.Jw

namespace Go.Jw
open Go Go.RowKit Go.Proofs
set_option maxRecDepth 8000
section rules
variable {P : Program} {n : Nat} {F : List Nat} {c : Ctx F} {ops : Array Oper} {d : Nat} {T : TypeId} {l : List Oper} {k : List KI} {Q : Post} {e : Env} {M : List HA} {D : List DA}
end rules
def RTV (t : V) (u : Value) (D' : List DA) : Prop := ∃ A1 c1 A2 c2, u = .agg #[.int .i64 0, .int .i64 t.kind, .int .i64 t.num, .string t.text, .slice A1 t.keys.length c1, .slice A2 t.items.length c2] ∧ D' = [.val (.agg #[.int .i64 t.kind, .int .i64 t.num, .string t.text, .slice A1 t.keys.length c1, .slice A2 t.items.length c2]) t]
theorem c107A (fb : Addr) {u : V} (hp : Pl (srtV u)) (he : Eql u) (b : Nat) : CtR Tryz.prog 107 #[ptr b] [.node b (outY u), ftA fb] (RVT (srtV u)) := Ct.wide (c107 fb u hp he b) (fun w ok h d hd => by
 have h4 := h (ftA fb) (by simp)
 simp only [List.mem_cons, List.not_mem_nil, or_false] at hd
 rcases hd with rfl | rfl
 ·exact h _ List.mem_cons_self
 ·exact h4.2)

theorem c108 (ft : DA) (mb : Nat) (G : Gr) (v : V) (b : Nat) (hU : Unf G v b) (hC : C105 ft mb G v) : CtR Tryz.prog 108 #[ptr b] [.gr mb G, .tab, ft] (fun u D' => ∃ y, OutR v y ∧ RN y u D') := by
 refine Ct.of_run (args := [ptr b]) Tryz.func108 (by kernel_rfl) rfl Tryz.ntmps108 rfl (fun c => ?_)
 refine rO 10 rfl (zR rfl rfl rfl (hC b hU) (subc 0 rfl (sub2 1 2 rfl rfl)) (fun u4 D4 hv4 => ?_))
 obtain ⟨y4, hy4, b4, rfl, rfl⟩ := hv4
 exact oR 3 rfl (zC Tryz.results108 rfl ⟨rfl, y4, hy4, b4, rfl, rfl⟩ nS (sub1 0 rfl))
theorem c60 (fb : Addr) (mb : Nat) (G : Gr) (v : V) (b : Nat) (hU : Unf G v b) (hp : Pl v) (hs : IsShape v) : CtR Tryz.prog 60 #[ptr b] [.gr mb G, .tab, ftA fb] (RTV (wr v)) := by
 refine Ct.of_run (args := [ptr b]) Tryz.func60 (by kernel_rfl) rfl Tryz.ntmps60 rfl (fun c => ?_)
 refine rO 3 rfl (zT ze34 rfl (fun b2 => ?_))
 change RunOps _ _ _ _ _ _ _ _ (HA.blk _ [_, _, _, _, _, _] _ :: _) _
 refine oO 7 rfl (sG pn63 rfl rfl ?_)
 refine oO 8 rfl (zR rfl rfl rfl (c108 (ftA fb) mb G v b hU (c105 (ftA fb) mb G v (.inl (numW fb)) hp hs)) (subc 0 rfl (sub2 1 2 rfl rfl)) (fun u10 D10 hv10 => ?_))
 obtain ⟨y10, hy10, b10, rfl, rfl⟩ := hv10
 obtain ⟨u, rfl, hu, he⟩ := out_wr v hp hs y10 hy10
 have hpu : Pl (srtV u) := hu ▸ pl_wr hs hp
 refine zA (zR rfl rfl rfl (c107A fb hpu he b10) (sub2 0 3 rfl rfl) (fun u11 D11 hv11 => ?_))
 obtain ⟨_, rfl, A11, m11, B11, d11, rfl, rfl⟩ := hv11
 rw [hu]
 refine oO 7 rfl (zT ze25 rfl (fun b3 => ?_))
 change RunOps _ _ _ _ _ _ _ _ (HA.blk _ [_, _, _, _, _] _ :: _) _
 refine zA (zG 0 (M' := [HA.blk _ [_, _, _, _, _] _, _]) rfl rfl rfl rfl si25 rfl rfl rfl ?_)
 refine oK 3 [4, 3, 2] rfl rfl (rO 13 rfl ?_)
 refine zW 0 rfl ag25 rfl rfl (zA ?_)
 refine yF rfl rfl (bu34_1 ..) (zA ?_)
 refine zG 1 (M' := [_, HA.blk _ [_, _, _, _, _, _] _]) rfl rfl rfl rfl si34 rfl rfl rfl (yK ?_)
 refine wG (M' := [HA.blk b2 [_, _, _, _, _, _] 34]) (by repeat (first | exact yB _ | refine zD 0 rfl ?_ | refine zD 1 rfl ?_ | refine zD 2 rfl ?_ | refine zD 3 rfl ?_ | refine zD 4 rfl ?_)) ?_
 exact wO 0 Tryz.results60 rfl rfl ag34 ⟨rfl, A11, m11, B11, d11, rfl, rfl⟩ nS (sub1 0 rfl)
theorem sV {D D2 : List DA} (h : ∀ d ∈ D2, d ∈ D := by first | exact sub1 0 rfl | exact sub1 1 rfl | exact sub1 2 rfl | exact sub1 3 rfl | exact sub1 4 rfl | exact sub1 5 rfl | exact sub1 6 rfl) : ∀ d ∈ D2, d ∈ D := h
theorem c27 (a b : V) (ha : Wf a) (hb : Wf b) (y : Value) (A1 A2 : Option Addr) (c1 c2 : Nat) : CtV Tryz.prog 27 #[.agg #[.int .i64 0, .int .i64 a.kind, .int .i64 a.num, .string a.text, .slice A1 a.keys.length c1, .slice A2 a.items.length c2], y] [.val (.agg #[.int .i64 a.kind, .int .i64 a.num, .string a.text, .slice A1 a.keys.length c1, .slice A2 a.items.length c2]) a, .val y b] (.bool (tb (bareV a = bareV b))) := by
 refine Ct.of_run (args := [.agg #[.int .i64 0, .int .i64 a.kind, .int .i64 a.num, .string a.text, .slice A1 a.keys.length c1, .slice A2 a.items.length c2], y]) Tryz.func27 (by kernel_rfl) rfl Tryz.ntmps27 rfl (fun c => ?_)
 refine xE 1 rfl (fun B1 m1 B2 m2 hy hsz hk1 hk2 hi1 hi2 => ?_)
 subst hy
 refine rO 3 rfl (yJ rfl rfl rfl (fun b2 => ?_))
 refine zA (yJ rfl rfl rfl (fun b3 => ?_))
 refine oR 4 rfl (yU yG ?_)
 refine zQ (tP 0 rfl wanted0 (zX fo34_0 rfl) ?_)
 refine yD (tM 1 rfl wanted0 (xA 1 sc2 rfl rfl rfl) ?_)
 refine tM 2 rfl wanted0 (st_eql rfl rfl) (zQ ?_)
 refine tP 3 rfl wanted0 (zU rfl) (any_knowT (s := 8) rfl (rfl) ?_)
 refine tP 4 rfl (wanted1 rfl rfl) (zX fo34_1 rfl) (yD ?_)
 refine tM 5 rfl (wanted1 rfl rfl) (st_loadP 1 rfl ag25 rfl rfl rfl) (tM 7 rfl (wanted1 rfl rfl) (vH 0 rfl ag25 rfl) ?_)
 refine zN 6 (by decide +kernel) ?_
 refine zO (I2 := [[7], [], [], [], []]) rfl (wanted1 rfl rfl) (by decide +kernel) (fun Kd hKd => ?_)
 refine zR rfl rfl rfl (c26 a ha _) sV (fun u11 D11 hv11 => ?_)
 obtain ⟨A11, m11, B11, d11, rfl, rfl⟩ := hv11
 refine hKd _ _ _ (hC (zE (zE (zE (zE (zP)))))) (zN 8 (by decide +kernel) ?_)
 refine zO (I2 := [[], [], [], [], []]) rfl (wanted1 rfl rfl) (by decide +kernel) (fun Kd hKd => ?_)
 refine zR rfl rfl rfl (c26 b hb _) sV (fun u13 D13 hv13 => ?_)
 obtain ⟨A13, m13, B13, d13, rfl, rfl⟩ := hv13
 refine hKd _ _ _ (zE (zE (zE (zE (zE (zP)))))) (zN 9 (by decide +kernel) ?_)
 refine zO (I2 := [[], [], [], [], []]) rfl (wanted1 rfl rfl) (by decide +kernel) (fun Kd hKd => ?_)
 refine zJ rfl rfl rfl (c25 (bareV a) (bareV b) _ _) (by first | exact sub2 0 1 rfl rfl | exact sub2 0 2 rfl rfl | exact sub2 0 3 rfl rfl | exact sub2 0 4 rfl rfl | exact sub2 1 0 rfl rfl | exact sub2 1 2 rfl rfl | exact sub2 1 3 rfl rfl | exact sub2 1 4 rfl rfl | exact sub2 2 0 rfl rfl | exact sub2 2 1 rfl rfl | exact sub2 2 3 rfl rfl | exact sub2 2 4 rfl rfl | exact sub2 3 0 rfl rfl | exact sub2 3 1 rfl rfl | exact sub2 3 2 rfl rfl | exact sub2 3 4 rfl rfl | exact sub2 4 0 rfl rfl | exact sub2 4 1 rfl rfl | exact sub2 4 2 rfl rfl | exact sub2 4 3 rfl rfl) (hKd _ _ _ (zE (zE (zE (zE (zE (zP)))))) ?_)
 refine zQ (tP 10 rfl wanted0 (st_pick rfl rfl) ?_)
 refine tP 11 rfl wanted0 (yY rfl) (yH (by decide +kernel) ?_)
 refine rK 0 [4] rfl rfl ?_
 exact zC Tryz.results27 rfl ⟨rfl, rfl, rfl⟩ nS (fun _ h => by cases h)
theorem kid_in {sh : Int} {x y : V} (h : y ∈ kidsOf sh x) : y = x ∨ y ∈ x.items := by
 unfold kidsOf at h
 (repeat' split at h) <;> first | (exact .inl (List.mem_singleton.1 h)) | (exact .inr (List.mem_filter.1 h).1) | cases h
theorem pl_kid {v x y : V} {sh : Int} (hp : Pl v) (hx : x ∈ v.items) (h : y ∈ kidsOf sh x) : Pl y := (kid_in h).elim (fun e => e ▸ hp.item x hx) (fun e => (hp.item x hx).item y e)
theorem shape_schema : shapeOf kSchema = 1 := by decide +kernel
theorem named_of {U : Nat → V → Prop} {x : V} {fv : FVal} (h : FvRel U 9 x fv) : ∃ l ps, fv = .named l ∧ ps.Perm (x.keys.zip x.items) ∧ All2 (fun (q : ByteArray × Nat) (p : ByteArray × V) => q.1 = p.1 ∧ U q.2 p.2) l ps := by
 cases fv <;> try exact absurd h.1 (by decide)
 case any => exact absurd (show (9 : Int) = 14 from h) (by decide)
 case named l =>
  obtain ⟨_, ps, hp, hU⟩ := h
  exact ⟨l, ps, rfl, hp, hU⟩
theorem norm_zip (v : V) : (normalV v).keys.zip (normalV v).items = ((v.keys.zip v.items).filter (fun p => isKw p.1)).map (fun p => (p.1, turnV (shapeOf p.1) normalV p.2)) := by
  rw [uU]
  unfold filterV
  simp only [V.keys, V.items]
  rw [List.zip_map]
  generalize (List.filter _ _) = l
  induction l with
  | nil => rfl
  | cons a l ih => simp [ih]
theorem rH {v : V} (hs : IsShape v) (hp : Pl v) : Pl (normalV v) := hp.elim fun d h => ⟨d, plain_norm v hs d h⟩
theorem pN {v : V} (hs : IsShape v) (hp : Pl v) (key : ByteArray) : getV (normalV v) key = if isKw key = true then (getV v key).map (turnV (shapeOf key) normalV) else none := by
  have hget : ∀ y, getV (normalV v) key = some y ↔ ∃ x, getV v key = some x ∧ isKw key = true ∧ y = turnV (shapeOf key) normalV x := by
    intro y
    rw [← wA (rH hs hp) (uB v), norm_zip, List.mem_map]
    constructor
    · rintro ⟨⟨k', x⟩, hm, he⟩
      injection he with e1 e2
      subst e1; subst e2
      obtain ⟨h1, h2⟩ := List.mem_filter.1 hm
      exact ⟨x, (wA hp hs.kind).1 h1, h2, rfl⟩
    · rintro ⟨x, h1, h2, rfl⟩
      exact ⟨(key, x), List.mem_filter.2 ⟨(wA hp hs.kind).2 h1, h2⟩, rfl⟩
  cases h : getV (normalV v) key with
  | some y =>
    obtain ⟨x, h1, h2, rfl⟩ := (hget y).1 h
    rw [if_pos h2, h1]
    rfl
  | none =>
    split
    · rename_i hk
      cases hv : getV v key with
      | none => rfl
      | some x =>
        have := (hget _).2 ⟨x, hv, hk, rfl⟩
        rw [h] at this
        cases this
    · rfl
theorem valp_shape {w : World} {ok : Nat → Prop} {t : V} {y : Value} (h : ValP w ok t y) : ∃ A1 c1 A2 c2, y = .agg #[.int .i64 t.kind, .int .i64 t.num, .string t.text, .slice A1 t.keys.length c1, .slice A2 t.items.length c2] := by
 obtain ⟨q, r, s, ks, its⟩ := t
 simp only [ValP] at h
 obtain ⟨kv, iv, rfl, _, ⟨A1, c1, rfl, _⟩, A2, c2, rfl, _⟩ := h
 exact ⟨A1, c1, A2, c2, rfl⟩
theorem c62v (x : Value) (t : V) (key : ByteArray) (hkl : t.keys.length ≤ t.items.length) : CtR Tryz.prog 62 #[x, .string key] [.val x t] (fun u D' => ∃ y, u = .tuple #[y, .bool (getV t key).isSome] ∧ RV ((getV t key).getD zV) y D') := by
 refine ⟨(c62 x t key hkl).1, fun w ok hok hM hn hD => Calls.mono ((c62 x t key hkl).2 w ok hok hM hn hD) ?_⟩
 rintro e w' ⟨u, M', D', rfl, ⟨hM', y, rfl, rfl⟩, hchg, hm, hn', hft, hd⟩
 obtain ⟨A1, c1, A2, c2, hy⟩ := valp_shape (hd _ List.mem_cons_self)
 exact ⟨_, M', _, rfl, ⟨hM', y, rfl, A1, c1, A2, c2, hy, rfl⟩, hchg, hm, hn', hft, hd⟩
end Go.Jw

namespace Go.Jw
open Go Go.RowKit
theorem setMany_app (pre zs vs post : List Value) (h : zs.length = vs.length) : setMany (pre ++ (zs ++ post)) pre.length vs = pre ++ (vs ++ post) := by
  induction vs generalizing pre zs with
  | nil =>
    have : zs = [] := List.eq_nil_of_length_eq_zero h
    subst this
    rfl
  | cons v vs ih =>
    cases zs with
    | nil => cases h
    | cons z zs =>
      have e : (pre ++ (z :: zs ++ post)).set pre.length v = (pre ++ [v]) ++ (zs ++ post) := by simp
      have := ih (pre ++ [v]) zs (by simpa using h)
      rw [setMany, e]
      simp only [List.length_append, List.length_singleton] at this
      rw [this]
      simp
section rules
variable {P : Program} {n : Nat} {F : List Nat} {c : Ctx F} {ops : Array Oper} {d : Nat} {T : TypeId} {l : List Oper} {k : List KI} {Q : Post} {e : Env} {M : List HA} {D : List DA}
theorem st_idxRowL (i : Nat) {x y : Operand} {A : Option Addr} {m cap j : Nat} {kd : IntKind} {S E sz by_ U : Nat} {xs : List Value} (hS : SliceOf P S E sz by_) (hx : ev e x = some (.slice A m cap)) (hy : ev e y = some (.int kd (j : Nat))) (hi : M[i]? = some (.row A m cap U sz xs)) (hj : j < m) :
  St P n c (.indexAddr S x y) T e M D (.pointer (some (At A (j * sz)))) := by
 intro d a w hf
 have hrow := hf.toFitsW.mem hi
 rcases hrow.2 with ⟨_, h⟩ | ⟨g, cap', cur, hv, _⟩
 ·omega
 ·injection hv with h4
  subst h4
  exact vJ (T := T) hS hx hy hj d a w hf
theorem op_storeRow (i : Nat) {x y : Operand} {A : Option Addr} {m cap E sz S : Nat} {pre zs vs : List Value} {v : Value} (hx : ev e x = some (.pointer (some (At A (m * sz))))) (hy : ev e y = some v) (hi : M[i]? = some (.row A (m + 1) cap E sz (pre ++ zs))) (hz : zs.length = sz) (hvs : vs.length = sz) (hv : v.cells = vs.toArray)
  (hs : ∃ i, P.info? S = some i ∧ i.size = sz) (h1 : vs.all (·.oneCell') = true) (next : RunOps P n c ops l k Q e (M.set i (.row A (m + 1) cap E sz (pre ++ vs))) D) : RunOp P n c ops none (.store S x y) T l k Q e M D := by
 intro a w hf
 have hrow := hf.toFitsW.mem hi
 have hpl : pre.length = m * sz := by
  have := hrow.1
  rw [List.length_append, hz, Nat.succ_mul] at this
  omega
 rcases hrow.2 with ⟨_, h⟩ | ⟨g, cap', cur, hv', hg, hc, hnc, hm, hsz, ht⟩
 ·omega
 ·injection hv' with hA _ hcap
  subst hA; subst hcap
  have hcur : cur.toList = pre ++ (zs ++ cur.toList.drop ((m + 1) * sz)) := by
   rw [← List.append_assoc, ← ht, List.take_append_drop]
  have hcs : w.heap[g]? = some (.cells cur.toList.toArray E (0, 0)) := by rw [Array.toArray_toList]; exact hc
  obtain ⟨w', hr, hh, hcg⟩ := qV (P := P) (T' := S) (v := v) (o := pre.length) hcs hv (by rw [hvs]; exact hs) (by rw [hcur]; simp; omega) (fun u hu => (List.all_eq_true.1 h1) u hu)
  have hadr : At (some ⟨g, 0, none⟩) (m * sz) = ⟨g, pre.length, none⟩ := by
   show (⟨g, 0, none⟩ : Addr).add (m * sz) = _
   rw [wI, Nat.zero_add, hpl]
  unfold Oper.wp
  have : (execOp a.eval (opr none (.store S x y) T)).run P w = .ok .skip w' := by simp [execOp, opr, hf.ev hx, hf.ev hy, hadr, hr]
  rw [this]
  refine next _ _ (hf.world (hf.toFitsW.swapAt hi (x' := .row (some ⟨g, 0, none⟩) (m + 1) cap E sz (pre ++ vs)) ?_ (by simpa [HA.foot] using hcg) (by simp [HA.foot]) (fun q hq => .inl hq)))
  refine ⟨by rw [List.length_append, hpl, hvs, Nat.succ_mul], .inr ⟨g, cap, _, rfl, Nat.zero_le _, hh, hnc, hm, ?_, ?_⟩⟩
  ·rw [List.size_toArray, setMany_length]; simpa using hsz
  ·have e : setMany cur.toList pre.length vs = pre ++ (vs ++ cur.toList.drop ((m + 1) * sz)) := by
    conv => lhs; rw [hcur]
    exact setMany_app _ _ _ _ (by omega)
   rw [e]
   show List.take ((m + 1) * sz) (pre ++ (vs ++ _)) = _
   rw [← List.append_assoc]
   exact List.take_left' (by rw [List.length_append, hpl, hvs, Nat.succ_mul])
end rules
end Go.Jw

namespace Go.Jw
open Go Go.RowKit Go.Proofs
def HE (M N : List HA) : Prop := (∀ w : World, (∀ h ∈ M, h.holds w) ↔ ∀ h ∈ N, h.holds w) ∧ (foots M).Perm (foots N)
theorem HE.refl (M : List HA) : HE M M := ⟨fun _ => Iff.rfl, .refl _⟩
theorem HE.symm {M N : List HA} (h : HE M N) : HE N M := ⟨fun w => (h.1 w).symm, h.2.symm⟩
theorem HE.trans {M N L : List HA} (h : HE M N) (k : HE N L) : HE M L := ⟨fun w => (h.1 w).trans (k.1 w), h.2.trans k.2⟩
theorem HE.perm {M N : List HA} (h : M.Perm N) : HE M N := ⟨fun w => ⟨fun a x hx => a x (h.mem_iff.2 hx), fun a x hx => a x (h.mem_iff.1 hx)⟩, foots_perm h⟩
theorem HE.append {M N M' N' : List HA} (h : HE M N) (k : HE M' N') : HE (M ++ M') (N ++ N') := by
 refine ⟨fun w => ?_, by rw [yI, yI]; exact h.2.append k.2⟩
 have e : ∀ A B : List HA, (∀ x ∈ A ++ B, x.holds w) ↔ (∀ x ∈ A, x.holds w) ∧ ∀ x ∈ B, x.holds w := fun A B =>
  ⟨fun a => ⟨fun x hx => a x (List.mem_append_left _ hx), fun x hx => a x (List.mem_append_right _ hx)⟩, fun a x hx => (List.mem_append.1 hx).elim (a.1 x) (a.2 x)⟩
 rw [e, e, h.1 w, k.1 w]
theorem FitsW.he {F : List Nat} {c : Ctx F} {M N : List HA} {D : List DA} {w : World} (h : FitsW c M D w) (he : HE M N) : FitsW c N D w :=
 ⟨h.chg, (he.1 w).1 h.own, he.2.nodup_iff.1 h.nodup, fun b hb => h.foot b (he.2.mem_iff.2 hb), fun d hd =>
  d.mono (fun k hk => ⟨hk.1, hk.2.1, fun h' => hk.2.2 (he.2.mem_iff.2 h')⟩) (fun _ _ => rfl) (h.dat d hd)⟩

abbrev Sig := Nat → Option Flds
def upd (σ : Sig) (b : Nat) (o : Option Flds) : Sig := fun d => if d = b then o else σ d
theorem upd_self (σ : Sig) (b : Nat) (o : Option Flds) : upd σ b o b = o := if_pos rfl
theorem upd_ne {σ : Sig} {b d : Nat} (h : d ≠ b) (o : Option Flds) : upd σ b o d = σ d := if_neg h
def GOk (G : Gr) (σ : Sig) : Prop := (G.map (·.1)).Nodup ∧ ∀ b f, G.at b f ↔ σ b = some f
theorem GOk.ex {G : Gr} (h : (G.map (·.1)).Nodup) : ∃ σ, GOk G σ := by
  induction G with
  | nil => exact ⟨fun _ => none, h, fun b f => ⟨(fun ⟨cs, hm⟩ => absurd hm (by simp)), (fun h => by cases h)⟩⟩
  | cons g G ih =>
    rw [List.map_cons, List.nodup_cons] at h
    obtain ⟨σ, h1, h2⟩ := ih h.2
    refine ⟨upd σ g.1 (some g.2.2), by rw [List.map_cons, List.nodup_cons]; exact h, fun b f => ?_⟩
    by_cases hb : b = g.1
    · subst hb
      rw [upd_self]
      constructor
      · rintro ⟨cs, hm⟩
        rcases List.mem_cons.1 hm with e | e
        · rw [← e]
        · exact absurd (List.mem_map.2 ⟨_, e, rfl⟩) h.1
      · intro e
        injection e with e
        exact ⟨g.2.1, by rw [← e]; exact List.mem_cons_self⟩
    · rw [upd_ne hb, ← h2]
      constructor
      · rintro ⟨cs, hm⟩
        rcases List.mem_cons.1 hm with e | e
        · exact absurd (congrArg Prod.fst e) hb
        · exact ⟨cs, e⟩
      · rintro ⟨cs, hm⟩
        exact ⟨cs, List.mem_cons_of_mem _ hm⟩
theorem GOk.tail {g : Nat × List Value × Flds} {R : Gr} {σ : Sig} (h : GOk (g :: R) σ) : GOk R (upd σ g.1 none) := by
 have hn := h.1
 rw [List.map_cons, List.nodup_cons] at hn
 refine ⟨hn.2, fun b f => ?_⟩
 by_cases hb : b = g.1
 ·subst hb
  rw [upd_self]
  exact ⟨fun ⟨cs, hm⟩ => absurd (List.mem_map.2 ⟨_, hm, rfl⟩) hn.1, fun e => by cases e⟩
 ·rw [upd_ne hb, ← h.2]
  constructor
  ·rintro ⟨cs, hm⟩; exact ⟨cs, List.mem_cons_of_mem _ hm⟩
  ·rintro ⟨cs, hm⟩
   rcases List.mem_cons.1 hm with e | e
   ·exact absurd (congrArg Prod.fst e) hb
   ·exact ⟨cs, e⟩
theorem he_many1 (U : TypeId) (b : Nat) (cs : List Value) (gs : List (Nat × List Value)) : HE [.many U ((b, cs) :: gs)] [.blk b cs U, .many U gs] :=
 ⟨fun w => by
  constructor
  ·intro a x hx
   have h1 : (HA.many U ((b, cs) :: gs)).holds w := a _ List.mem_cons_self
   simp only [List.mem_cons, List.not_mem_nil, or_false] at hx
   rcases hx with rfl | rfl
   ·exact h1 (b, cs) List.mem_cons_self
   ·exact fun g hg => h1 g (List.mem_cons_of_mem _ hg)
  ·intro a x hx
   rcases List.mem_singleton.1 hx with rfl
   intro g hg
   rcases List.mem_cons.1 hg with rfl | hg
   ·exact (a _ List.mem_cons_self : (HA.blk b cs U).holds w)
   ·exact (a _ (List.mem_cons_of_mem _ List.mem_cons_self) : (HA.many U gs).holds w) g hg, by simp [foots, HA.foot]⟩
def Flds.put (f : Flds) (i : Nat) (o : Option FVal) : Flds := fun j => if j = i then o else f j
section rules
variable {P : Program} {n : Nat} {F : List Nat} {c : Ctx F} {ops : Array Oper} {d : Nat} {T : TypeId} {l : List Oper} {k : List KI} {Q : Post} {e : Env} {M : List HA} {D : List DA}
theorem ops_he {N : List HA} (he : HE M N) (next : RunOps P n c ops l k Q e N D) : RunOps P n c ops l k Q e M D := fun a w hf => next a w (hf.world (hf.toFitsW.he he))
theorem ops_nd (next : (foots M).Nodup → RunOps P n c ops l k Q e M D) : RunOps P n c ops l k Q e M D := fun a w hf => next hf.toFitsW.nodup a w hf
end rules
end Go.Jw

namespace Go.Jw
open Go Go.RowKit
section rules
variable {P : Program} {n : Nat} {F : List Nat} {c : Ctx F} {ops : Array Oper} {d : Nat} {T : TypeId} {l : List Oper} {k : List KI} {Q : Post} {e : Env} {M : List HA} {D : List DA}
end rules
end Go.Jw

namespace Go.Jw
open Go Go.RowKit Go.Proofs
set_option maxRecDepth 8000
abbrev Prs := List (ByteArray × V)
def lk (l : Prs) (k : ByteArray) : Option V := (l.find? (fun p => decide (p.1 = k))).map (·.2)
theorem lk_nil (k : ByteArray) : lk [] k = none := rfl
theorem sB (p : ByteArray × V) (l : Prs) (k : ByteArray) : lk (p :: l) k = if p.1 = k then some p.2 else lk l k := by
 unfold lk
 rw [List.find?_cons]
 by_cases h : p.1 = k
 ·simp [h]
 ·simp [h]
theorem lk_filter (l : Prs) (q : ByteArray → Bool) (k : ByteArray) : lk (l.filter fun p => q p.1) k = if q k = true then lk l k else none := by
  induction l with
  | nil => simp [lk_nil]
  | cons p l ih =>
    rw [List.filter_cons]
    by_cases hq : q p.1 = true
    · rw [if_pos hq, sB, sB, ih]
      by_cases h : p.1 = k
      · rw [if_pos h, if_pos h, ← h, if_pos hq]
      · rw [if_neg h, if_neg h]
    · rw [if_neg hq, ih, sB]
      by_cases h : p.1 = k
      · rw [← h, if_neg hq, if_neg hq]
      · rw [if_neg h]
theorem lk_none {l : Prs} {k : ByteArray} (h : lk l k = none) : ∀ p ∈ l, p.1 ≠ k := by
  induction l with
  | nil => intro p hp; cases hp
  | cons q l ih =>
    rw [sB] at h
    split at h
    · cases h
    · rename_i hq
      intro p hp
      rcases List.mem_cons.1 hp with rfl | hp
      · exact hq
      · exact ih h p hp
theorem findIdx_lk (ks : List ByteArray) (ts : List V) (key : ByteArray) (h : ks.length ≤ ts.length) : (if ks.findIdx (fun x => decide (x = key)) < ks.length then ts[ks.findIdx (fun x => decide (x = key))]? else none) = lk (ks.zip ts) key := by
  induction ks generalizing ts with
  | nil => rfl
  | cons k ks ih =>
    cases ts with
    | nil => simp at h
    | cons t ts =>
      rw [List.zip_cons_cons, sB, List.findIdx_cons]
      by_cases hk : k = key
      · simp [hk]
      · have := ih ts (by simpa using h)
        simp only [hk, decide_false, cond_false, if_false, List.length_cons, Nat.add_lt_add_iff_right, List.getElem?_cons_succ]
        exact this
theorem getV_lk {v : V} (h : v.keys.length ≤ v.items.length) (key : ByteArray) : getV v key = lk (v.keys.zip v.items) key := by
 rw [← findIdx_lk _ _ _ h]
 unfold getV findI
 split
 ·rename_i hlt
  rw [if_neg (by omega)]
  simp
 ·rw [if_pos rfl]
def mkM (l : Prs) : V := .mk 5 0 ⟨#[]⟩ (l.map (·.1)) (l.map (·.2))
theorem mkM_zip (l : Prs) : (mkM l).keys.zip (mkM l).items = l := by
  show (l.map (·.1)).zip (l.map (·.2)) = l
  induction l with
  | nil => rfl
  | cons p l ih => simp [ih]
theorem getV_mkM (l : Prs) (key : ByteArray) : getV (mkM l) key = lk l key := by
 rw [getV_lk (by simp [mkM, V.keys, V.items]), mkM_zip]
def withL (key : ByteArray) (own : V) : Prs → Prs
  | [] => [(key, own)]
  | p :: l => if Op.bytesLess p.1.toList key.toList = false then (key, own) :: (p :: l).filter (fun q => !decide (q.1 = key)) else p :: withL key own l
def withV (v : V) (key : ByteArray) (own : V) : V := mkM (withL key own (v.keys.zip v.items))
theorem bl_irr (k : ByteArray) : Op.bytesLess k.toList k.toList = false := by
 rw [pX]
 exact decide_eq_false (List.lt_irrefl _)
theorem lk_with (key : ByteArray) (own : V) (l : Prs) (k : ByteArray) : lk (withL key own l) k = if k = key then some own else lk l k := by
  induction l with
  | nil =>
    rw [withL, sB]
    by_cases h : k = key
    · rw [if_pos h.symm, if_pos h]
    · rw [if_neg (Ne.symm h), if_neg h]
  | cons p l ih =>
    rw [withL]
    split
    · rw [sB, lk_filter (p :: l) (fun x => !decide (x = key))]
      by_cases h : k = key
      · rw [if_pos h.symm, if_pos h]
      · rw [if_neg (Ne.symm h), if_neg h, if_pos (by simp [h])]
    · rename_i hlt
      rw [sB, sB, ih]
      by_cases h : k = key
      · rw [if_pos h, if_pos h]
        split
        · rename_i hp
          rw [hp, h, bl_irr] at hlt
          exact absurd rfl hlt
        · rfl
      · rw [if_neg h, if_neg h]
theorem get_with {v : V} (h : v.keys.length ≤ v.items.length) (key : ByteArray) (own : V) (k : ByteArray) : getV (withV v key own) k = if k = key then some own else getV v k := by
 rw [withV, getV_mkM, lk_with, getV_lk h]

theorem with_mem {key : ByteArray} {own : V} {l : Prs} {p : ByteArray × V} (h : p ∈ withL key own l) : p = (key, own) ∨ p ∈ l := by
  induction l with
  | nil => exact .inl (List.mem_singleton.1 h)
  | cons q l ih =>
    rw [withL] at h
    split at h
    · rcases List.mem_cons.1 h with h | h
      · exact .inl h
      · exact .inr (List.mem_filter.1 h).1
    · rcases List.mem_cons.1 h with h | h
      · exact .inr (by rw [h]; exact List.mem_cons_self)
      · exact (ih h).imp id (List.mem_cons_of_mem _)
theorem shape_get {v : V} (hp : Pl v) (hk : v.kind = 5) (h : ∀ key x, getV v key = some x → FitLoc (shapeOf key) x ∧ (∀ z ∈ kidsOf (shapeOf key) x, IsShape z) ∧ (key = kId → ∃ u, getV v kSchema = some u ∧ IsFourth u.text)) : IsShape v := by
 refine (xT v).2 ⟨hk, fun j k x hj hx => h k x ((wA hp hk).1 ?_)⟩
 refine List.mem_of_getElem? (i := j) ?_
 rw [List.getElem?_zip_eq_some]
 exact ⟨hj, hx⟩
theorem tN {v : V} (hs : IsShape v) {key : ByteArray} {x : V} (h : getV v key = some x) : FitLoc (shapeOf key) x ∧ (∀ z ∈ kidsOf (shapeOf key) x, IsShape z) ∧ (key = kId → ∃ u, getV v kSchema = some u ∧ IsFourth u.text) := by
 obtain ⟨j, hj1, hj2⟩ := qC h
 exact ((xT v).1 hs).2 j _ _ hj1 hj2
def fkids : FVal → List Nat
  | .sbS b => [b]
  | .itS b => [b]
  | .itL bs => bs
  | .named l => l.map (·.2)
  | .list bs => bs
  | .one b => [b]
  | _ => []
def kidsAt (f : Flds) (i : Nat) : List Nat := match f i with
  | none => []
  | some fv => fkids fv
theorem All2.map {α β γ : Type} {R : α → β → Prop} {S : α → γ → Prop} {g : β → γ} {l : List α} {l' : List β} (h : ∀ a b, a ∈ l → b ∈ l' → R a b → S a (g b)) (h2 : All2 R l l') : All2 S l (l'.map g) := by
  refine ⟨by rw [List.length_map]; exact h2.1, fun i a b ha hb => ?_⟩
  rw [List.getElem?_map] at hb
  cases hl : l'[i]? with
  | none => rw [hl] at hb; cases hb
  | some b' =>
    rw [hl] at hb
    injection hb with hb
    rw [← hb]
    exact h a b' (List.mem_of_getElem? ha) (List.mem_of_getElem? hl) (h2.2 i a b' ha hl)
theorem zip_mapR (ks : List ByteArray) (ts : List V) (g : V → V) : ks.zip (ts.map g) = (ks.zip ts).map (fun p => (p.1, g p.2)) := by
  induction ks generalizing ts with
  | nil => rfl
  | cons k ks ih => cases ts with
    | nil => rfl
    | cons t ts => simp [ih]
theorem FvRel.turn {U U' : Nat → V → Prop} {g : V → V} (hg : ∀ z, (g z).kind = 5) {sh : Int} {x : V} {fv : FVal} (hfit : FitLoc sh x) (h : ∀ c z, c ∈ fkids fv → z ∈ kidsOf sh x → U c z → U' c (g z)) (hf : FvRel U sh x fv) : FvRel U' sh (turnV sh g x) fv := by
  have all5 : ∀ (hi : ∀ y ∈ x.items, y.kind = 5), ∀ y ∈ x.items, mapKids g y = g y := fun hi y hy => wY (hi y hy)
  cases fv with
  | text s => obtain ⟨rfl, h2⟩ := hf; exact ⟨rfl, h2⟩
  | bool s => obtain ⟨rfl, h2⟩ := hf; exact ⟨rfl, h2⟩
  | int s => obtain ⟨rfl, h2⟩ := hf; exact ⟨rfl, h2⟩
  | numI s => obtain ⟨rfl, h2⟩ := hf; exact ⟨rfl, h2⟩
  | numF s => obtain ⟨rfl, h2⟩ := hf; exact ⟨rfl, h2⟩
  | sbS b =>
    obtain ⟨rfl, h5, hu⟩ := hf
    have e : turnV 6 g x = g x := by simp [turnV, h5]
    rw [e]
    exact ⟨rfl, hg x, h b x (by simp [fkids]) (by simp [kidsOf, h5]) hu⟩
  | sbB s =>
    obtain ⟨rfl, h1, h2⟩ := hf
    have e : turnV 6 g x = x := by simp [turnV, h1]
    rw [e]
    exact ⟨rfl, h1, h2⟩
  | itS b =>
    obtain ⟨rfl, h5, hu⟩ := hf
    have e : turnV 7 g x = g x := by simp [turnV, h5]
    rw [e]
    exact ⟨rfl, hg x, h b x (by simp [fkids]) (by simp [kidsOf, h5]) hu⟩
  | itL bs =>
    obtain ⟨rfl, h4, hu⟩ := hf
    have hi : ∀ y ∈ x.items, y.kind = 5 := by simpa [FitLoc, h4] using hfit
    have e : turnV 7 g x = turnAll g x := by simp [turnV, h4]
    rw [e]
    refine ⟨rfl, h4, ?_⟩
    show All2 U' bs (x.items.map (mapKids g))
    exact hu.map fun a b ha hb hab => by rw [all5 hi b hb]; exact h a b ha (by rw [kids7l h4 hi]; exact hb) hab
  | texts l => obtain ⟨rfl, h2⟩ := hf; exact ⟨rfl, h2⟩
  | named l =>
    obtain ⟨rfl, ps, hp, hu⟩ := hf
    have hi : ∀ y ∈ x.items, y.kind = 5 := by
      have : x.kind = 5 ∧ ∀ x' ∈ x.items, x'.kind = 5 := by simpa [FitLoc] using hfit
      exact this.2
    have e : turnV 9 g x = turnAll g x := by simp [turnV]
    rw [e]
    refine ⟨rfl, ps.map (fun p => (p.1, mapKids g p.2)), ?_, ?_⟩
    · show (ps.map _).Perm (x.keys.zip (x.items.map (mapKids g)))
      rw [zip_mapR]
      exact hp.map _
    · exact hu.map fun a b ha hb hab => by
        have hm := (List.of_mem_zip (hp.mem_iff.1 hb)).2
        refine ⟨hab.1, ?_⟩
        show U' a.2 (mapKids g b.2)
        rw [all5 hi _ hm]
        exact h a.2 b.2 (List.mem_map.2 ⟨a, ha, rfl⟩) (by rw [kids9 hi]; exact hm) hab.2
  | deps l => obtain ⟨rfl, h2⟩ := hf; exact ⟨rfl, h2⟩
  | enums l => obtain ⟨rfl, h2⟩ := hf; exact ⟨rfl, h2⟩
  | tyS s => obtain ⟨rfl, h2⟩ := hf; exact ⟨rfl, h2⟩
  | tyL l => obtain ⟨rfl, h2⟩ := hf; exact ⟨rfl, h2⟩
  | list bs =>
    obtain ⟨rfl, hu⟩ := hf
    have hi : ∀ y ∈ x.items, y.kind = 5 := by
      have : x.kind = 4 ∧ ∀ x' ∈ x.items, x'.kind = 5 := by simpa [FitLoc] using hfit
      exact this.2
    have e : turnV 13 g x = turnAll g x := by simp [turnV]
    rw [e]
    refine ⟨rfl, ?_⟩
    show All2 U' bs (x.items.map (mapKids g))
    exact hu.map fun a b ha hb hab => by rw [all5 hi b hb]; exact h a b ha (by rw [kids13 hi]; exact hb) hab
  | one b =>
    obtain ⟨rfl, hu⟩ := hf
    exact ⟨rfl, h b x (by simp [fkids]) (by simp [kidsOf]) hu⟩
  | any => exact hf
def kidsV (v : V) : List V := (v.keys.zip v.items).flatMap (fun p => kidsOf (shapeOf p.1) p.2)
theorem uC {v z : V} (h : z ∈ kidsV v) : SizeOf.sizeOf z < SizeOf.sizeOf v := by
 obtain ⟨p, hp, hz⟩ := List.mem_flatMap.1 h
 exact Nat.lt_of_le_of_lt (uH hz) (yE (List.of_mem_zip hp).2)
noncomputable def DeepV (p : V → Prop) : V → Prop := V.fix (α := Prop) (fun v f => p v ∧ ∀ z ∈ kidsV v, f z)
theorem qI (p : V → Prop) (v : V) : DeepV p v ↔ p v ∧ ∀ z ∈ kidsV v, DeepV p z := by
 have := V.fix_eq (α := Prop) (G := fun v f => p v ∧ ∀ z ∈ kidsV v, f z) (fun t g g' h => by
  have : (∀ z ∈ kidsV t, g z) ↔ ∀ z ∈ kidsV t, g' z := ⟨fun a z hz => by rw [← h z (uC hz)]; exact a z hz, fun a z hz => by rw [h z (uC hz)]; exact a z hz⟩
  simp only [this]) v
 show V.fix _ v ↔ _
 rw [this]
 rfl
theorem tO {v x z : V} {key : ByteArray} (hp : Pl v) (hk : v.kind = 5) (h : getV v key = some x) (hz : z ∈ kidsOf (shapeOf key) x) : z ∈ kidsV v :=
 List.mem_flatMap.2 ⟨(key, x), (wA hp hk).2 h, hz⟩
theorem kid_pl {v z : V} (hp : Pl v) (h : z ∈ kidsV v) : Pl z := by
 obtain ⟨p, hpm, hz⟩ := List.mem_flatMap.1 h
 exact pl_kid hp (List.of_mem_zip hpm).2 hz
theorem kid_shape {v z : V} (hp : Pl v) (hs : IsShape v) (h : z ∈ kidsV v) : IsShape z := by
 obtain ⟨p, hpm, hz⟩ := List.mem_flatMap.1 h
 exact (tN hs ((wA hp hs.kind).1 (show (p.1, p.2) ∈ _ from hpm))).2.1 z hz

def kidIdx : List Nat := [14, 15, 22, 23, 24, 28, 29, 30, 31, 32]
inductive Rch (σ : Sig) : Nat → Nat → Prop where
  | refl (b : Nat) : Rch σ b b
  | step {b c d i : Nat} {f : Flds} (h : σ b = some f) (hi : i ∈ kidIdx) (hc : c ∈ kidsAt f i) (r : Rch σ c d) : Rch σ b d
theorem kid_idx {U : Nat → V → Prop} {i : Nat} {x : V} {fv : FVal} {c : Nat} (h1 : 1 ≤ i) (h2 : i ≤ 36) (h : FvRel U (shIdx i) x fv) (hc : c ∈ fkids fv) : i ∈ kidIdx := by
  have key : shIdx i = 5 ∨ shIdx i = 6 ∨ shIdx i = 7 ∨ shIdx i = 9 ∨ shIdx i = 13 → i ∈ kidIdx := by
    have : ∀ i : Fin 37, shIdx i.1 = 5 ∨ shIdx i.1 = 6 ∨ shIdx i.1 = 7 ∨ shIdx i.1 = 9 ∨ shIdx i.1 = 13 → i.1 ∈ kidIdx := by decide
    exact this ⟨i, by omega⟩
  cases fv with
  | sbS b => exact key (.inr (.inl h.1))
  | itS b => exact key (.inr (.inr (.inl h.1)))
  | itL bs => exact key (.inr (.inr (.inl h.1)))
  | named l => exact key (.inr (.inr (.inr (.inl h.1))))
  | list bs => exact key (.inr (.inr (.inr (.inr h.1))))
  | one b => exact key (.inl h.1)
  | _ => simp [fkids] at hc
theorem kwI {key : ByteArray} {i : Nat} (h : kwIdx key = i) (k : ByteArray) (hk : kwIdx k = i) (h0 : i ≠ 0) : key = k := kw_inj (h.trans hk.symm) (by rw [h]; exact h0)
theorem kid_allG {g : V → V} {x : V} (h : ∀ y ∈ x.items, y.kind = 5) {p : V → Prop} (hs : ∀ y ∈ x.items, p (g y)) : ∀ z ∈ (turnAll g x).items, p z := by
 intro z hz
 unfold turnAll at hz
 simp only [V.items] at hz
 obtain ⟨y, hy, rfl⟩ := List.mem_map.1 hz
 rw [wY (h y hy)]
 exact hs y hy
theorem shape_turnG {g : V → V} {sh : Int} {x : V} (hf : FitLoc sh x) (h : ∀ y ∈ kidsOf sh x, IsShape (g y)) : FitLoc sh (turnV sh g x) ∧ ∀ y ∈ kidsOf sh (turnV sh g x), IsShape y := by
 unfold turnV
 split
 ·rename_i h5
  subst h5
  exact fits5.2 (h x (by simp [kidsOf]))
 split
 ·rename_i h6
  subst h6
  split
  ·rename_i hk
   exact fits6.2 (.inr (h x (by rw [kids6 hk]; simp)))
  ·rename_i hk
   have hf' : x.kind = 1 ∨ x.kind = 5 := by simpa [FitLoc] using hf
   exact fits6.2 (.inl (hf'.resolve_right hk))
 split
 ·rename_i h7
  subst h7
  split
  ·rename_i hk
   exact fits7.2 (.inl (h x (by rw [kids7 hk]; simp)))
  ·rename_i hk
   have hf' : x.kind = 5 ∨ (x.kind = 4 ∧ ∀ x' ∈ x.items, x'.kind = 5) := by simpa [FitLoc] using hf
   have h4 := hf'.resolve_left hk
   exact fits7.2 (.inr ⟨h4.1, kid_allG h4.2 fun y hy => h y (by rw [kids7l h4.1 h4.2]; exact hy)⟩)
 split
 ·rename_i h9
  rcases h9 with h9 | h9
  ·subst h9
   have hf' : x.kind = 5 ∧ ∀ x' ∈ x.items, x'.kind = 5 := by simpa [FitLoc] using hf
   exact fits9.2 ⟨hf'.1, kid_allG hf'.2 fun y hy => h y (by rw [kids9 hf'.2]; exact hy)⟩
  ·subst h9
   have hf' : x.kind = 4 ∧ ∀ x' ∈ x.items, x'.kind = 5 := by simpa [FitLoc] using hf
   exact fits13.2 ⟨hf'.1, kid_allG hf'.2 fun y hy => h y (by rw [kids13 hf'.2]; exact hy)⟩
 ·rename_i h5 h6 h7 h9
  refine ⟨hf, fun y hy => ?_⟩
  unfold kidsOf at hy
  rw [if_neg h5, if_neg h6, if_neg h7, if_neg h9] at hy
  cases hy
theorem kids_turn {g : V → V} (hg : ∀ z, (g z).kind = 5) {sh : Int} {x z : V} (hf : FitLoc sh x) (h : z ∈ kidsOf sh (turnV sh g x)) : ∃ y ∈ kidsOf sh x, z = g y := by
 have all : ∀ (hi : ∀ y ∈ x.items, y.kind = 5), z ∈ (turnAll g x).items → ∃ y ∈ x.items, z = g y := fun hi hz => by
  unfold turnAll at hz
  simp only [V.items] at hz
  obtain ⟨y, hy, rfl⟩ := List.mem_map.1 hz
  exact ⟨y, hy, by rw [wY (hi y hy)]⟩
 unfold turnV at h
 split at h
 ·rename_i h5
  subst h5
  simp [kidsOf] at h
  exact ⟨x, by simp [kidsOf], h⟩
 split at h
 ·rename_i h6
  subst h6
  split at h
  ·rename_i hk
   rw [kids6 (hg x)] at h
   exact ⟨x, by rw [kids6 hk]; simp, List.mem_singleton.1 h⟩
  ·rename_i hk
   exact ⟨z, h, by simp [kidsOf, hk] at h⟩
 split at h
 ·rename_i h7
  subst h7
  split at h
  ·rename_i hk
   rw [kids7 (hg x)] at h
   exact ⟨x, by rw [kids7 hk]; simp, List.mem_singleton.1 h⟩
  ·rename_i hk
   have hf' : x.kind = 5 ∨ (x.kind = 4 ∧ ∀ x' ∈ x.items, x'.kind = 5) := by simpa [FitLoc] using hf
   have h4 := hf'.resolve_left hk
   rw [kids7l h4.1 h4.2]
   refine all h4.2 ?_
   have hk' : ¬ (turnAll g x).kind = 5 := hk
   simp only [kidsOf, hk'] at h
   simp at h
   exact h.1
 split at h
 ·rename_i h9
  have hf' : ∀ x' ∈ x.items, x'.kind = 5 := by
   rcases h9 with h9 | h9
   ·subst h9
    have : x.kind = 5 ∧ ∀ x' ∈ x.items, x'.kind = 5 := by simpa [FitLoc] using hf
    exact this.2
   ·subst h9
    have : x.kind = 4 ∧ ∀ x' ∈ x.items, x'.kind = 5 := by simpa [FitLoc] using hf
    exact this.2
  have e : kidsOf sh x = x.items := by
   rcases h9 with h9 | h9
   ·subst h9; exact kids9 hf'
   ·subst h9; exact kids13 hf'
  rw [e]
  refine all hf' ?_
  rcases h9 with h9 | h9 <;> subst h9 <;> simp [kidsOf] at h <;> exact h.1
 ·rename_i h5 h6 h7 h9
  unfold kidsOf at h
  rw [if_neg h5, if_neg h6, if_neg h7, if_neg h9] at h
  cases h
theorem kw_of_sh {key : ByteArray} {i : Nat} (h : kwIdx key = i) (h0 : i ≠ 0) : shapeOf key = shIdx i := by rw [kw_sh (by rw [h]; exact h0), h]
theorem kw_isKw {key : ByteArray} (h : kwIdx key ≠ 0) : isKw key = true := by
  have hs : shapeOf key = shIdx (kwIdx key) := kw_sh h
  unfold isKw
  rw [hs]
  refine decide_eq_true ?_
  rcases kw_case (key := key) with ⟨_, hm⟩ | h0
  · have : ∀ q ∈ [35, 36, 32, 31, 30, 29, 28, 26, 20, 19, 18, 17, 16, 14, 13, 12, 11, 10, 9, 8, 7, 6, 3, 25, 23, 24, 22, 21, 34, 15, 27, 1, 2, 33], shIdx q ≠ 0 := by decide
    exact this _ hm
  · exact absurd h0 h
theorem shape_norm (v : V) : IsShape v → Pl v → IsShape (normalV v) := by
  refine V.indS (p := fun v => IsShape v → Pl v → IsShape (normalV v)) (fun v IH hs hp => ?_) v
  refine shape_get (rH hs hp) (uB v) fun key y hy => ?_
  rw [pN hs hp] at hy
  split at hy
  · cases hx : getV v key with
    | none => rw [hx] at hy; cases hy
    | some x =>
      rw [hx] at hy
      injection hy with hy
      subst hy
      obtain ⟨h1, h2, h3⟩ := tN hs hx
      obtain ⟨h4, h5⟩ := shape_turnG (g := normalV) h1 (fun z hz => IH z (uC (tO hp hs.kind hx hz)) (h2 z hz) (kid_pl hp (tO hp hs.kind hx hz)))
      refine ⟨h4, h5, fun he => ?_⟩
      obtain ⟨u, hu, hf⟩ := h3 he
      refine ⟨turnV (shapeOf kSchema) normalV u, ?_, ?_⟩
      · rw [pN hs hp, if_pos (by decide +kernel), hu]; rfl
      · rw [shape_schema]; exact hf
  · cases hy
theorem unf_normal {G : Gr} (v : V) : ∀ b, Pl v → IsShape v → Unf G v b → Unf G (normalV v) b := by
  refine V.indS (p := fun v => ∀ b, Pl v → IsShape v → Unf G v b → Unf G (normalV v) b) (fun v IH b hp hs hu => ?_) v
  obtain ⟨f, hat, hU⟩ := (tC G v b).1 hu
  refine (tC G _ b).2 ⟨f, hat, fun i hi hj => ?_⟩
  have := hU i hi hj
  cases hfi : f i with
  | none =>
    rw [hfi] at this
    intro key hkw
    rw [pN hs hp, this key hkw]
    split <;> rfl
  | some fv =>
    rw [hfi] at this
    obtain ⟨key, x, hkw, hx, hrel⟩ := this
    have hsh := kw_of_sh hkw (by omega)
    refine ⟨key, turnV (shapeOf key) normalV x, hkw, by rw [pN hs hp, if_pos (kw_isKw (by rw [hkw]; omega)), hx]; rfl, ?_⟩
    have hfit := tN hs hx
    rw [hsh] at hfit ⊢
    refine FvRel.turn uB hfit.1 (fun c z hc hz huc => ?_) hrel
    have hzk : z ∈ kidsV v := tO hp hs.kind hx (by rw [hsh]; exact hz)
    exact IH z (uC hzk) c (kid_pl hp hzk) (kid_shape hp hs hzk) huc
theorem kidsV_norm {v z : V} (hp : Pl v) (hs : IsShape v) (h : z ∈ kidsV (normalV v)) : ∃ y ∈ kidsV v, z = normalV y := by
  obtain ⟨p, hpm, hz⟩ := List.mem_flatMap.1 h
  have hg := (wA (rH hs hp) (uB v)).1 (show (p.1, p.2) ∈ _ from hpm)
  rw [pN hs hp] at hg
  split at hg
  · cases hx : getV v p.1 with
    | none => rw [hx] at hg; cases hg
    | some x =>
      rw [hx] at hg
      injection hg with hg
      rw [← hg] at hz
      obtain ⟨y, hy, rfl⟩ := kids_turn uB (tN hs hx).1 hz
      exact ⟨y, tO hp hs.kind hx hy, rfl⟩
  · cases hg
theorem deep_norm {p q : V → Prop} (hpq : ∀ v, Pl v → IsShape v → p v → q (normalV v)) (v : V) : Pl v → IsShape v → DeepV p v → DeepV q (normalV v) := by
 refine V.indS (p := fun v => Pl v → IsShape v → DeepV p v → DeepV q (normalV v)) (fun v IH hp hs hd => ?_) v
 obtain ⟨h1, h2⟩ := (qI _ _).1 hd
 refine (qI _ _).2 ⟨hpq v hp hs h1, fun z hz => ?_⟩
 obtain ⟨y, hy, rfl⟩ := kidsV_norm hp hs hz
 exact IH y (uC hy) (kid_pl hp hy) (kid_shape hp hs hy) (h2 y hy)
theorem deep_true {p : V → Prop} (h : ∀ v, p v) (v : V) : DeepV p v :=
 V.indS (p := fun v => DeepV p v) (fun v IH => (qI _ _).2 ⟨h v, fun z hz => IH z (uC hz)⟩) v
def Kw1 (v : V) : Prop := ∀ k ∈ v.keys, isKw k = true
theorem kw1_norm (v : V) : Kw1 (normalV v) := by
 intro k hk
 rw [uU] at hk
 obtain ⟨p, hp, rfl⟩ := List.mem_map.1 hk
 exact (List.mem_filter.1 hp).2
theorem turn_fix {g : V → V} {sh : Int} {x : V} (hp : Pl x) (hf : FitLoc sh x) (h : ∀ y ∈ kidsOf sh x, g y = y) : turnV sh g x = x := by
  have all : (x.kind = 4 ∨ x.kind = 5) → (∀ y ∈ x.items, y.kind = 5) → (∀ y ∈ x.items, g y = y) → turnAll g x = x := by
    intro hk hi hfix
    have e : x.items.map (mapKids g) = x.items := by
      conv => rhs; rw [← List.map_id x.items]
      exact List.map_congr_left fun y hy => by rw [wY (hi y hy), hfix y hy]; rfl
    unfold turnAll
    rw [e]
    obtain ⟨d, hd⟩ := hp
    obtain ⟨q, m, s, ks, ts⟩ := x
    simp only [V.kind, V.keys, V.items] at hk ⊢
    cases d with
    | zero => exact absurd hd (vY hk)
    | succ d =>
      obtain ⟨⟨h1, h2, _⟩, _⟩ := (xY hk).1 hd
      rw [h1, h2]
  unfold turnV
  split
  · rename_i h5; subst h5; exact h x (by simp [kidsOf])
  split
  · rename_i h6; subst h6
    split
    · rename_i hk; exact h x (by rw [kids6 hk]; simp)
    · rfl
  split
  · rename_i h7; subst h7
    split
    · rename_i hk; exact h x (by rw [kids7 hk]; simp)
    · rename_i hk
      have hf' : x.kind = 5 ∨ (x.kind = 4 ∧ ∀ x' ∈ x.items, x'.kind = 5) := by simpa [FitLoc] using hf
      have h4 := hf'.resolve_left hk
      exact all (.inl h4.1) h4.2 (fun y hy => h y (by rw [kids7l h4.1 h4.2]; exact hy))
  split
  · rename_i h9
    rcases h9 with h9 | h9
    · subst h9
      have hf' : x.kind = 5 ∧ ∀ x' ∈ x.items, x'.kind = 5 := by simpa [FitLoc] using hf
      exact all (.inr hf'.1) hf'.2 (fun y hy => h y (by rw [kids9 hf'.2]; exact hy))
    · subst h9
      have hf' : x.kind = 4 ∧ ∀ x' ∈ x.items, x'.kind = 5 := by simpa [FitLoc] using hf
      exact all (.inl hf'.1) hf'.2 (fun y hy => h y (by rw [kids13 hf'.2]; exact hy))
  · rfl
theorem normal_fix (w : V) : Pl w → IsShape w → DeepV Kw1 w → normalV w = w := by
 refine V.indS (p := fun w => Pl w → IsShape w → DeepV Kw1 w → normalV w = w) (fun w IH hp hs hd => ?_) w
 obtain ⟨h1, h2⟩ := (qI _ _).1 hd
 have hm := rF hp hs.kind
 rw [uU]
 unfold filterV
 have e : (w.keys.zip w.items).filter (fun p => isKw p.1) = w.keys.zip w.items := List.filter_eq_self.2 fun p hpm => h1 _ (List.of_mem_zip hpm).1
 have e2 : (w.keys.zip w.items).map (fun p => turnV (shapeOf p.1) normalV p.2) = (w.keys.zip w.items).map (fun p => p.2) := List.map_congr_left fun p hpm => by
  have hg := (wA hp hs.kind).1 (show (p.1, p.2) ∈ _ from hpm)
  refine turn_fix (hp.item _ (List.of_mem_zip hpm).2) (tN hs hg).1 fun y hy => ?_
  have hyk := tO hp hs.kind hg hy
  exact IH y (uC hyk) (kid_pl hp hyk) (kid_shape hp hs hyk) (h2 y hyk)
 rw [e, e2]
 have e3 : (w.keys.zip w.items).map (·.1) = w.keys := List.map_fst_zip (by rw [hm.2.1]; exact Nat.le_refl _)
 have e4 : (w.keys.zip w.items).map (fun p => p.2) = w.items := List.map_snd_zip (by rw [hm.2.1]; exact Nat.le_refl _)
 rw [e3, e4]
 exact hm.1.symm
noncomputable def USig (σ : Sig) : V → Nat → Prop := V.fix (α := Nat → Prop) (fun v r b => ∃ f, σ b = some f ∧ ∀ i, 1 ≤ i → i ≤ 36 → FldRel (fun b x => r x b) v i (f i))
theorem pO (σ : Sig) (v : V) (b : Nat) : USig σ v b ↔ ∃ f, σ b = some f ∧ ∀ i, 1 ≤ i → i ≤ 36 → FldRel (fun b x => USig σ x b) v i (f i) := by
 have := V.fix_eq (α := Nat → Prop) (G := fun v r b => ∃ f, σ b = some f ∧ ∀ i, 1 ≤ i → i ≤ 36 → FldRel (fun b x => r x b) v i (f i)) (fun t g g' h => by
  funext b
  apply propext
  constructor
  ·rintro ⟨f, h1, h2⟩
   exact ⟨f, h1, fun i hi hj => (h2 i hi hj).mono fun b x hx hu => by rw [← h x hx]; exact hu⟩
  ·rintro ⟨f, h1, h2⟩
   exact ⟨f, h1, fun i hi hj => (h2 i hi hj).mono fun b x hx hu => by rw [h x hx]; exact hu⟩) v
 show V.fix (α := Nat → Prop) _ v b ↔ _
 rw [this]
 rfl
theorem unf_usig {G : Gr} {σ : Sig} (h : GOk G σ) (v : V) : ∀ b, Unf G v b ↔ USig σ v b := by
 refine V.indS (p := fun v => ∀ b, Unf G v b ↔ USig σ v b) (fun v IH b => ?_) v
 rw [tC, pO]
 constructor
 ·rintro ⟨f, h1, h2⟩
  exact ⟨f, (h.2 b f).1 h1, fun i hi hj => (h2 i hi hj).mono fun c x hx hu => (IH x hx c).1 hu⟩
 ·rintro ⟨f, h1, h2⟩
  exact ⟨f, (h.2 b f).2 h1, fun i hi hj => (h2 i hi hj).mono fun c x hx hu => (IH x hx c).2 hu⟩
theorem FvRel.kid {U : Nat → V → Prop} {sh : Int} {x : V} {fv : FVal} {c : Nat} (hfit : FitLoc sh x) (h : FvRel U sh x fv) (hc : c ∈ fkids fv) : ∃ z ∈ kidsOf sh x, U c z := by
  have get : ∀ (bs : List Nat) (l : List V), All2 U bs l → c ∈ bs → ∃ z ∈ l, U c z := fun bs l h2 hm => by
    obtain ⟨i, hi, rfl⟩ := List.getElem_of_mem hm
    have hi' : i < l.length := by rw [← h2.1]; exact hi
    exact ⟨l[i], List.getElem_mem hi', h2.2 i _ _ (List.getElem?_eq_getElem hi) (List.getElem?_eq_getElem hi')⟩
  cases fv with
  | sbS b => obtain ⟨rfl, h5, hu⟩ := h; exact ⟨x, by simp [kidsOf, h5], by rw [List.mem_singleton.1 hc]; exact hu⟩
  | itS b => obtain ⟨rfl, h5, hu⟩ := h; exact ⟨x, by simp [kidsOf, h5], by rw [List.mem_singleton.1 hc]; exact hu⟩
  | itL bs =>
    obtain ⟨rfl, h4, hu⟩ := h
    have hi : ∀ y ∈ x.items, y.kind = 5 := by simpa [FitLoc, h4] using hfit
    rw [kids7l h4 hi]
    exact get bs _ hu hc
  | named l =>
    obtain ⟨rfl, ps, hp, hu⟩ := h
    have hi : ∀ y ∈ x.items, y.kind = 5 := by
      have : x.kind = 5 ∧ ∀ x' ∈ x.items, x'.kind = 5 := by simpa [FitLoc] using hfit
      exact this.2
    rw [kids9 hi]
    obtain ⟨q, hq, rfl⟩ := List.mem_map.1 hc
    obtain ⟨i, hi, rfl⟩ := List.getElem_of_mem hq
    have hi' : i < ps.length := by rw [← hu.1]; exact hi
    exact ⟨ps[i].2, (List.of_mem_zip (hp.mem_iff.1 (List.getElem_mem hi'))).2, (hu.2 i _ _ (List.getElem?_eq_getElem hi) (List.getElem?_eq_getElem hi')).2⟩
  | list bs =>
    obtain ⟨rfl, hu⟩ := h
    have hi : ∀ y ∈ x.items, y.kind = 5 := by
      have : x.kind = 4 ∧ ∀ x' ∈ x.items, x'.kind = 5 := by simpa [FitLoc] using hfit
      exact this.2
    rw [kids13 hi]
    exact get bs _ hu hc
  | one b => obtain ⟨rfl, hu⟩ := h; exact ⟨x, by simp [kidsOf], by rw [List.mem_singleton.1 hc]; exact hu⟩
  | _ => simp [fkids] at hc
def FvOk (sh : Int) : FVal → Prop
  | .text _ => sh = 1
  | .bool _ => sh = 2
  | .int _ => sh = 4
  | .numI _ => sh = 3
  | .numF _ => sh = 3
  | .sbS _ => sh = 6
  | .sbB _ => sh = 6
  | .itS _ => sh = 7
  | .itL _ => sh = 7
  | .texts _ => sh = 8
  | .named _ => sh = 9
  | .deps _ => sh = 10
  | .enums _ => sh = 11
  | .tyS _ => sh = 12
  | .tyL _ => sh = 12
  | .list _ => sh = 13
  | .one _ => sh = 5
  | .any => sh = 14
theorem FvRel.ok {U : Nat → V → Prop} {sh : Int} {x : V} {fv : FVal} (h : FvRel U sh x fv) : FvOk sh fv := by
 cases fv <;> first | exact h.1 | exact h
def FT (f : Flds) : Prop := ∀ i fv, 1 ≤ i → i ≤ 36 → f i = some fv → FvOk (shIdx i) fv
theorem usig_ft {σ : Sig} {v : V} {b : Nat} (h : USig σ v b) : ∃ f, σ b = some f ∧ FT f := by
 obtain ⟨f, h1, h2⟩ := (pO σ v b).1 h
 refine ⟨f, h1, fun i fv hi hj hf => ?_⟩
 have := h2 i hi hj
 rw [hf] at this
 obtain ⟨key, x, _, _, hr⟩ := this
 exact hr.ok
theorem kidIdx_le : ∀ i ∈ kidIdx, 1 ≤ i ∧ i ≤ 36 := by decide
theorem usig_kid {σ : Sig} {v : V} {b c i : Nat} {f : Flds} (hp : Pl v) (hs : IsShape v) (h : USig σ v b) (hf : σ b = some f) (hi : i ∈ kidIdx) (hc : c ∈ kidsAt f i) : ∃ z ∈ kidsV v, USig σ z c := by
  obtain ⟨f', h1, h2⟩ := (pO σ v b).1 h
  rw [hf] at h1
  injection h1 with h1
  subst h1
  have hle := kidIdx_le i hi
  have := h2 i hle.1 hle.2
  unfold kidsAt at hc
  cases hfi : f i with
  | none => rw [hfi] at hc; cases hc
  | some fv =>
    rw [hfi] at this hc
    obtain ⟨key, x, hkw, hx, hr⟩ := this
    have hsh := kw_of_sh hkw (by omega)
    have hfit := (tN hs hx).1
    rw [hsh] at hfit
    obtain ⟨z, hz, hu⟩ := hr.kid hfit hc
    exact ⟨z, tO hp hs.kind hx (by rw [hsh]; exact hz), hu⟩
theorem least_nat {p : Nat → Prop} (n : Nat) : p n → ∃ m, p m ∧ ∀ k, p k → m ≤ k := by
  induction n using Nat.strongRecOn with
  | _ n ih =>
    intro hn
    by_cases h : ∃ k, k < n ∧ p k
    · obtain ⟨k, hk, hp⟩ := h
      exact ih k hk hp
    · exact ⟨n, hn, fun k hk => Nat.le_of_not_lt fun hlt => h ⟨k, hlt, hk⟩⟩
structure GoodV (good : V → Prop) : Prop where
 pl : ∀ v, good v → Pl v
 shape : ∀ v, good v → IsShape v
 kid : ∀ v, good v → ∀ z ∈ kidsV v, good z
def SGood (good : V → Prop) (σ : Sig) (d : Nat) : Prop := ∃ v, good v ∧ USig σ v d
theorem tree_mu {good : V → Prop} (hg : GoodV good) (σ : Sig) : ∃ mu : Nat → Nat, ∀ d, SGood good σ d → ∃ f, σ d = some f ∧ FT f ∧ ∀ i ∈ kidIdx, ∀ c ∈ kidsAt f i, SGood good σ c ∧ mu c < mu d := by
 have hex : ∀ d, ∃ m : Nat, SGood good σ d → (∃ v, good v ∧ USig σ v d ∧ SizeOf.sizeOf v = m) ∧ ∀ v, good v → USig σ v d → m ≤ SizeOf.sizeOf v := fun d => by
  by_cases h : SGood good σ d
  ·obtain ⟨v, h1, h2⟩ := h
   obtain ⟨m, hm, hl⟩ := least_nat (p := fun m => ∃ v, good v ∧ USig σ v d ∧ SizeOf.sizeOf v = m) _ ⟨v, h1, h2, rfl⟩
   exact ⟨m, fun _ => ⟨hm, fun v h1 h2 => hl _ ⟨v, h1, h2, rfl⟩⟩⟩
  ·exact ⟨0, fun h' => absurd h' h⟩
 refine ⟨fun d => Classical.choose (hex d), fun d hd => ?_⟩
 obtain ⟨⟨v, h1, h2, h3⟩, _⟩ := Classical.choose_spec (hex d) hd
 obtain ⟨f, hf, hft⟩ := usig_ft h2
 refine ⟨f, hf, hft, fun i hi c hc => ?_⟩
 obtain ⟨z, hz, hu⟩ := usig_kid (hg.pl v h1) (hg.shape v h1) h2 hf hi hc
 have hc' : SGood good σ c := ⟨z, hg.kid v h1 z hz, hu⟩
 refine ⟨hc', ?_⟩
 have hle := (Classical.choose_spec (hex c) hc').2 z (hg.kid v h1 z hz) hu
 have hlt := uC hz
 show Classical.choose (hex c) < Classical.choose (hex d)
 omega
theorem All2.mono2 {α β : Type} {R R' : α → β → Prop} {l : List α} {l' : List β} (h : ∀ a b, a ∈ l → b ∈ l' → R a b → R' a b) (h2 : All2 R l l') : All2 R' l l' :=
 ⟨h2.1, fun i a b ha hb => h a b (List.mem_of_getElem? ha) (List.mem_of_getElem? hb) (h2.2 i a b ha hb)⟩
theorem FvRel.monoK {U U' : Nat → V → Prop} {sh : Int} {v : V} {fv : FVal} (h : ∀ c x, c ∈ fkids fv → SizeOf.sizeOf x ≤ SizeOf.sizeOf v → U c x → U' c x) (hf : FvRel U sh v fv) : FvRel U' sh v fv := by
  have hi : ∀ c x, c ∈ fkids fv → x ∈ v.items → U c x → U' c x := fun c x hc hx => h c x hc (Nat.le_of_lt (yE hx))
  cases fv with
  | sbS b => exact ⟨hf.1, hf.2.1, h b v (by simp [fkids]) (Nat.le_refl _) hf.2.2⟩
  | itS b => exact ⟨hf.1, hf.2.1, h b v (by simp [fkids]) (Nat.le_refl _) hf.2.2⟩
  | itL bs => exact ⟨hf.1, hf.2.1, hf.2.2.mono2 hi⟩
  | named l =>
    obtain ⟨h1, ps, h2, h3⟩ := hf
    exact ⟨h1, ps, h2, h3.mono2 fun q p hq hp hr => ⟨hr.1, hi _ _ (List.mem_map.2 ⟨q, hq, rfl⟩) (List.of_mem_zip (h2.mem_iff.1 hp)).2 hr.2⟩⟩
  | list bs => exact ⟨hf.1, hf.2.mono2 hi⟩
  | one b => exact ⟨hf.1, h b v (by simp [fkids]) (Nat.le_refl _) hf.2⟩
  | text s => exact hf
  | bool x => exact hf
  | int n => exact hf
  | numI n => exact hf
  | numF n => exact hf
  | sbB x => exact hf
  | texts l => exact hf
  | deps l => exact hf
  | enums l => exact hf
  | tyS s => exact hf
  | tyL l => exact hf
  | any => exact hf
theorem fldRel_monoK {U U' : Nat → V → Prop} {v : V} {i : Nat} {f : Flds} (h1 : 1 ≤ i) (h2 : i ≤ 36) (h : ∀ c x, i ∈ kidIdx → c ∈ kidsAt f i → SizeOf.sizeOf x < SizeOf.sizeOf v → U c x → U' c x) (hf : FldRel U v i (f i)) : FldRel U' v i (f i) := by
  cases hfi : f i with
  | none => rw [hfi] at hf; exact hf
  | some fv =>
    rw [hfi] at hf
    obtain ⟨key, x, a, b, hr⟩ := hf
    exact ⟨key, x, a, b, hr.monoK fun c y hc hy hu => h c y (kid_idx h1 h2 hr hc) (by unfold kidsAt; rw [hfi]; exact hc) (Nat.lt_of_le_of_lt hy (yE (rZ b))) hu⟩
theorem usig_agree {σ σ' : Sig} (v : V) : ∀ b, (∀ d, Rch σ b d → σ' d = σ d) → USig σ v b → USig σ' v b := by
 refine V.indS (p := fun v => ∀ b, (∀ d, Rch σ b d → σ' d = σ d) → USig σ v b → USig σ' v b) (fun v IH b hr hu => ?_) v
 obtain ⟨f, hf, hU⟩ := (pO _ _ _).1 hu
 exact (pO _ _ _).2 ⟨f, (hr b (.refl b)).trans hf, fun i hi hj => fldRel_monoK hi hj (fun c x hik hc hx huc => IH x hx c (fun d hd => hr d (.step hf hik hc hd)) huc) (hU i hi hj)⟩
theorem rch_mu {σ : Sig} {S : Nat → Prop} {mu : Nat → Nat} (hm : ∀ d, S d → ∃ f, σ d = some f ∧ ∀ i ∈ kidIdx, ∀ c ∈ kidsAt f i, S c ∧ mu c < mu d) {b d : Nat} (h : Rch σ b d) : S b → S d ∧ (d = b ∨ mu d < mu b) := by
  induction h with
  | refl b => exact fun hs => ⟨hs, .inl rfl⟩
  | step h hi hc r ih =>
    intro hs
    obtain ⟨f', h', hk⟩ := hm _ hs
    rw [h] at h'
    injection h' with h'
    subst h'
    obtain ⟨h1, h2⟩ := hk _ hi _ hc
    obtain ⟨h3, h4⟩ := ih h1
    refine ⟨h3, .inr ?_⟩
    rcases h4 with rfl | h4
    · exact h2
    · exact Nat.lt_trans h4 h2


def Sch (v : V) : Prop := Pl v ∧ IsShape v
theorem sch_good : GoodV Sch := ⟨fun v h => h.1, fun v h => h.2, fun v h z hz => ⟨kid_pl h.1 hz, kid_shape h.1 h.2 hz⟩⟩
theorem kw1_deep {v : V} (hp : Pl v) (hs : IsShape v) : DeepV Kw1 (normalV v) :=
 deep_norm (p := fun _ => True) (q := Kw1) (fun v _ _ _ => kw1_norm v) v hp hs (deep_true (fun _ => trivial) v)
theorem kids_apart {σ : Sig} {v x : V} {b c i : Nat} {f : Flds} (hv : Sch v) (hu : USig σ v b) (hf : σ b = some f) (hi : i ∈ kidIdx) (hc : c ∈ kidsAt f i) (o : Option Flds) (hx : USig σ x c) : USig (upd σ b o) x c := by
 obtain ⟨mu, hmu⟩ := tree_mu sch_good σ
 have hS : SGood Sch σ b := ⟨v, hv, hu⟩
 obtain ⟨f', h1, _, h2⟩ := hmu b hS
 rw [hf] at h1
 injection h1 with h1
 subst h1
 obtain ⟨h3, h4⟩ := h2 i hi c hc
 refine usig_agree x c (fun d hd => ?_) hx
 obtain ⟨_, h5⟩ := rch_mu (fun d hd => (hmu d hd).elim fun f h => ⟨f, h.1, h.2.2⟩) hd h3
 refine upd_ne (fun e => ?_) o
 subst e
 rcases h5 with h5 | h5
 ·subst h5; exact Nat.lt_irrefl _ h4
 ·exact absurd (Nat.lt_trans h5 h4) (Nat.lt_irrefl _)
noncomputable def addedV (v : V) (name : ByteArray) (o all : V) : V := withV (normalV v) k23 (withV all name (normalV o))
theorem withL_perm {key : ByteArray} {own : V} {l : Prs} (h : ∀ p ∈ l, p.1 ≠ key) : (withL key own l).Perm (l ++ [(key, own)]) := by
  induction l with
  | nil => exact .refl _
  | cons p l ih =>
    rw [withL]
    split
    · rw [List.filter_eq_self.2 (fun q hq => by simp [h q hq])]
      exact (List.perm_append_singleton _ _).symm
    · exact (ih fun q hq => h q (List.mem_cons_of_mem _ hq)).cons p
theorem unf_added {R1 G2 : Gr} {σ : Sig} {v o all : V} {b c : Nat} {cs : List Value} {f : Flds} {l : List (ByteArray × Nat)} {name : ByteArray} (h1 : GOk ((b, cs, f) :: R1) σ) (hv : Sch v) (hu : Unf ((b, cs, f) :: R1) v b) (hall : getV (normalV v) k23 = some all) (hno : getV all name = none)
    (ho : Sch o) (hu2 : Unf G2 o c) (hl : f 23 = some (.named l)) (cs' : List Value) : Unf ((b, cs', f.put 23 (some (.named (l ++ [(name, c)])))) :: (R1 ++ G2)) (addedV v name o all) b := by
  have hv2 : Sch (normalV v) := ⟨rH hv.2 hv.1, shape_norm v hv.2 hv.1⟩
  have hun := unf_normal v b hv.1 hv.2 hu
  have hun2 := unf_normal o c ho.1 ho.2 hu2
  have hR : GOk R1 (upd σ b none) := h1.tail
  have hf : σ b = some f := (h1.2 b f).1 ⟨cs, List.mem_cons_self⟩
  obtain ⟨f1, ha, hU⟩ := (tC _ _ _).1 hun
  obtain rfl : f1 = f := by have := (h1.2 b f1).1 ha; rw [hf] at this; exact (Option.some.inj this).symm
  have hle := hv2.1.wf.le
  refine (tC _ _ _).2 ⟨_, ⟨cs', List.mem_cons_self⟩, fun i hi hj => ?_⟩
  have h0 : FldRel (fun d x => Unf ((b, cs', f1.put 23 (some (.named (l ++ [(name, c)])))) :: (R1 ++ G2)) x d) (normalV v) i (f1 i) :=
    fldRel_monoK hi hj (fun d x hik hd _ hx => by
      have := kids_apart hv2 ((unf_usig h1 _ _).1 hun) hf hik hd none ((unf_usig h1 _ _).1 hx)
      exact Unf.mono (fun g hg => List.mem_cons_of_mem _ (List.mem_append_left _ hg)) x d ((unf_usig hR _ _).2 this)) (hU i hi hj)
  by_cases h23 : i = 23
  · subst h23
    have e : (f1.put 23 (some (.named (l ++ [(name, c)])))) 23 = some (.named (l ++ [(name, c)])) := if_pos rfl
    rw [e]
    rw [hl] at h0
    obtain ⟨key, x, hk, hg, _, ps, hp, hA⟩ := h0
    obtain rfl := kwI hk k23 (by decide +kernel) (by decide)
    rw [hall] at hg
    cases hg
    have hpa : Pl all := hv2.1.item _ (rZ hall)
    refine ⟨k23, withV all name (normalV o), hk, by rw [addedV, get_with hle, if_pos rfl], rfl, ps ++ [(name, normalV o)], ?_, ?_⟩
    · have e2 : (withV all name (normalV o)).keys.zip (withV all name (normalV o)).items = withL name (normalV o) (all.keys.zip all.items) := mkM_zip _
      rw [e2]
      rw [getV_lk hpa.wf.le] at hno
      exact (hp.append_right _).trans (withL_perm (lk_none hno)).symm
    · exact hA.snoc ⟨rfl, Unf.mono (fun g hg => List.mem_cons_of_mem _ (List.mem_append_right _ hg)) _ _ hun2⟩
  · have e : (f1.put 23 (some (.named (l ++ [(name, c)])))) i = f1 i := if_neg h23
    rw [e]
    have hne : ∀ key, kwIdx key = i → key ≠ k23 := fun key hk e => h23 (by rw [← hk, e]; decide +kernel)
    cases hfi : f1 i with
    | none =>
      rw [hfi] at h0
      intro key hk
      rw [addedV, get_with hle, if_neg (hne key hk)]
      exact h0 key hk
    | some fv =>
      rw [hfi] at h0
      obtain ⟨key, x, hk, hg, hF⟩ := h0
      exact ⟨key, x, hk, by rw [addedV, get_with hle, if_neg (hne key hk)]; exact hg, hF⟩
theorem kidsV_with {v own z : V} {key : ByteArray} (h : z ∈ kidsV (withV v key own)) : z ∈ kidsOf (shapeOf key) own ∨ z ∈ kidsV v := by
 obtain ⟨p, hp, hz⟩ := List.mem_flatMap.1 h
 have e : (withV v key own).keys.zip (withV v key own).items = withL key own (v.keys.zip v.items) := mkM_zip _
 rw [e] at hp
 rcases with_mem hp with rfl | hp
 ·exact .inl hz
 ·exact .inr (List.mem_flatMap.2 ⟨p, hp, hz⟩)
theorem kids9_mem {x z : V} (h : z ∈ kidsOf 9 x) : z ∈ x.items := by
 have : z ∈ x.items.filter (fun y => decide (y.kind = 5)) := by simpa [kidsOf] using h
 exact (List.mem_filter.1 this).1
theorem added_fix {v o all : V} {name : ByteArray} (hv : Sch v) (ho : Sch o) (hall : getV (normalV v) k23 = some all) (hc : Sch (addedV v name o all)) : normalV (addedV v name o all) = addedV v name o all := by
 have hv2 : Sch (normalV v) := ⟨rH hv.2 hv.1, shape_norm v hv.2 hv.1⟩
 have h9 : shapeOf k23 = 9 := by decide +kernel
 refine normal_fix _ hc.1 hc.2 ((qI _ _).2 ⟨fun k hk => ?_, fun z hz => ?_⟩)
 ·have : k ∈ (withL k23 (withV all name (normalV o)) ((normalV v).keys.zip (normalV v).items)).map (·.1) := hk
  obtain ⟨p, hp, rfl⟩ := List.mem_map.1 this
  rcases with_mem hp with rfl | hp
  ·exact (by decide +kernel : isKw k23 = true)
  ·exact kw1_norm v _ (List.of_mem_zip hp).1
 ·have hd := ((qI _ _).1 (kw1_deep hv.1 hv.2)).2
  rcases kidsV_with hz with h | h
  ·rw [h9] at h
   have hi := kids9_mem h
   have e : (withV all name (normalV o)).items = (withL name (normalV o) (all.keys.zip all.items)).map (·.2) := rfl
   rw [e] at hi
   obtain ⟨p, hp, rfl⟩ := List.mem_map.1 hi
   rcases with_mem hp with rfl | hp
   ·exact kw1_deep ho.1 ho.2
   ·have hfit := (tN hv2.2 hall).1
    rw [h9] at hfit
    have h5 : ∀ y ∈ all.items, y.kind = 5 := by have := hfit; simp [FitLoc] at this; exact this.2
    refine hd p.2 (tO hv2.1 (uB v) hall ?_)
    rw [h9, kids9 h5]
    exact (List.of_mem_zip hp).2
  ·exact hd z h
def R109 (k : ByteArray) (t : V) (bo nk n : Nat) (xk : List Value) (ts : List V) (u : Value) (M' : List HA) (D' : List DA) : Prop :=
 u = .tuple #[] ∧ ∃ Ak ck A ca xs, M' = [.row Ak (nk + 1) ck 9 1 (xk ++ [.string k]), .row A (n + 1) ca 25 5 xs, .blk bo [.int .i64 5, .int .i64 0, .string ⟨#[]⟩, .slice Ak (nk + 1) ck, .slice A (n + 1) ca] 25] ∧ D' = [.its xs (ts ++ [t])]
def restL (key : ByteArray) (own : V) (done : Bool) (l : Prs) : Prs := if done then l.filter (fun q => !decide (q.1 = key)) else withL key own l
def WAt (key : ByteArray) (own : V) (l : Prs) (i : Nat) (done : Bool) (nk : Nat) (xk : List Value) (ts : List V) : Prop :=
 i ≤ l.length ∧ ∃ acc : Prs, nk = acc.length ∧ xk = acc.map (fun p => Value.string p.1) ∧ ts = acc.map (fun p => p.2) ∧ acc ++ restL key own done (l.drop i) = withL key own l ∧ acc.length ≤ i + 1 ∧ (done = false → acc.length ≤ i)
section
variable {key k : ByteArray} {own x : V} {l : Prs} {i nk : Nat} {xk : List Value} {ts : List V}
theorem WAt.zero (key : ByteArray) (own : V) (l : Prs) : WAt key own l 0 false 0 [] [] := ⟨Nat.zero_le _, [], rfl, rfl, rfl, rfl, Nat.zero_le _, fun _ => Nat.le_refl _⟩
theorem drop_at {l : Prs} {i : Nat} {p : ByteArray × V} (h : l[i]? = some p) : l.drop i = p :: l.drop (i + 1) := by
 obtain ⟨hi, he⟩ := List.getElem?_eq_some_iff.1 h
 rw [← he, List.drop_eq_getElem_cons hi]
theorem at_lt {l : Prs} {i : Nat} {p : ByteArray × V} (h : l[i]? = some p) : i < l.length := (List.getElem?_eq_some_iff.1 h).1
theorem rest_t {p : ByteArray × V} {r : Prs} (h : p.1 ≠ key) : restL key own true (p :: r) = p :: restL key own true r := by
 simp [restL, h]
theorem rest_e {p : ByteArray × V} {r : Prs} (h : p.1 = key) : restL key own true (p :: r) = restL key own true r := by
 simp [restL, h]
theorem rest_g {p : ByteArray × V} {r : Prs} (h : Op.bytesLess p.1.toList key.toList = false) : restL key own false (p :: r) = (key, own) :: restL key own true (p :: r) := by
 show withL key own (p :: r) = _
 rw [withL, if_pos h]; rfl
theorem rest_l {p : ByteArray × V} {r : Prs} (h : ¬ Op.bytesLess p.1.toList key.toList = false) : restL key own false (p :: r) = p :: restL key own false r := by
 show withL key own (p :: r) = _
 rw [withL, if_neg h]; rfl
theorem WAt.s1 (h : WAt key own l i true nk xk ts) (hp : l[i]? = some (k, x)) (hk : k ≠ key) : WAt key own l (i + 1) true (nk + 1) (xk ++ [.string k]) (ts ++ [x]) := by
 obtain ⟨h0, acc, h1, h2, h3, h4, h5⟩ := h
 rw [drop_at hp, rest_t hk] at h4
 exact ⟨at_lt hp, acc ++ [(k, x)], by simp [h1], by simp [h2], by simp [h3], by rw [← h4]; simp, by simp; omega, fun h => by cases h⟩
theorem WAt.s2 (h : WAt key own l i true nk xk ts) (hp : l[i]? = some (k, x)) (hk : k = key) : WAt key own l (i + 1) true nk xk ts := by
 obtain ⟨h0, acc, h1, h2, h3, h4, h5⟩ := h
 rw [drop_at hp, rest_e hk] at h4
 exact ⟨at_lt hp, acc, h1, h2, h3, h4, by omega, fun h => by cases h⟩
theorem WAt.len {done : Bool} (h : WAt key own l i done nk xk ts) : nk ≤ i + 1 := by
 obtain ⟨h0, acc, h1, h2, h3, h4, h5⟩ := h
 omega
theorem WAt.s3 (h : WAt key own l i false nk xk ts) (hp : l[i]? = some (k, x)) (hl : Op.bytesLess k.toList key.toList = false) (hk : k ≠ key) : WAt key own l (i + 1) true (nk + 1 + 1) (xk ++ [.string key] ++ [.string k]) (ts ++ [own] ++ [x]) := by
 obtain ⟨h0, acc, h1, h2, h3, h4, h5, h6⟩ := h
 rw [drop_at hp, rest_g hl, rest_t hk] at h4
 have := h6 rfl
 exact ⟨at_lt hp, acc ++ [(key, own)] ++ [(k, x)], by simp [h1], by simp [h2], by simp [h3], by rw [← h4]; simp, by simp; omega, fun h => by cases h⟩
theorem WAt.s4 (h : WAt key own l i false nk xk ts) (hp : l[i]? = some (k, x)) (hl : Op.bytesLess k.toList key.toList = false) (hk : k = key) : WAt key own l (i + 1) true (nk + 1) (xk ++ [.string key]) (ts ++ [own]) := by
 obtain ⟨h0, acc, h1, h2, h3, h4, h5, h6⟩ := h
 rw [drop_at hp, rest_g hl, rest_e hk] at h4
 have := h6 rfl
 exact ⟨at_lt hp, acc ++ [(key, own)], by simp [h1], by simp [h2], by simp [h3], by rw [← h4]; simp, by simp; omega, fun h => by cases h⟩
theorem WAt.s5 (h : WAt key own l i false nk xk ts) (hp : l[i]? = some (k, x)) (hl : ¬ Op.bytesLess k.toList key.toList = false) : WAt key own l (i + 1) false (nk + 1) (xk ++ [.string k]) (ts ++ [x]) := by
 obtain ⟨h0, acc, h1, h2, h3, h4, h5, h6⟩ := h
 rw [drop_at hp, rest_l hl] at h4
 have := h6 rfl
 exact ⟨at_lt hp, acc ++ [(k, x)], by simp [h1], by simp [h2], by simp [h3], by rw [← h4]; simp, by simp; omega, fun _ => by simp; omega⟩
theorem WAt.endT (h : WAt key own l l.length true nk xk ts) : nk = ((withL key own l).map (fun p => p.2)).length ∧ xk = (withL key own l).map (fun p => Value.string p.1) ∧ ts = (withL key own l).map (fun p => p.2) := by
 obtain ⟨h0, acc, h1, h2, h3, h4, h5, h6⟩ := h
 rw [List.drop_length] at h4
 have e : acc = withL key own l := by rw [← h4]; exact (List.append_nil acc).symm
 subst e
 exact ⟨by rw [List.length_map]; exact h1, h2, h3⟩
theorem WAt.endF (h : WAt key own l l.length false nk xk ts) : nk + 1 = ((withL key own l).map (fun p => p.2)).length ∧ xk ++ [.string key] = (withL key own l).map (fun p => Value.string p.1) ∧ ts ++ [own] = (withL key own l).map (fun p => p.2) := by
 obtain ⟨h0, acc, h1, h2, h3, h4, h5, h6⟩ := h
 rw [List.drop_length] at h4
 have e : acc ++ [(key, own)] = withL key own l := h4
 rw [← e]
 exact ⟨by simp [h1], by simp [h2], by simp [h3]⟩
theorem with_sizes {own : V} (hk : key.size ≤ maxLen) (hl : ∀ p ∈ l, p.1.size ≤ maxLen) : ∀ s ∈ (withL key own l).map (fun p => p.1), s.size ≤ maxLen := by
 intro s hs
 obtain ⟨p, hp, rfl⟩ := List.mem_map.1 hs
 rcases with_mem hp with e | e
 ·rw [e]; exact hk
 ·exact hl p e
end

theorem c109 (k : ByteArray) (x : Value) (t : V) (bo : Nat) (Ak A : Option Addr) (nk ck n ca : Nat) (xk xs : List Value) (ts : List V) (h1 : nk ≤ 2000000) (h2 : n ≤ 2000000) : Ct Tryz.prog 109 #[.string k, x, ptr bo] [.row Ak nk ck 9 1 xk, .row A n ca 25 5 xs, .blk bo [.int .i64 5, .int .i64 0, .string ⟨#[]⟩, .slice Ak nk ck, .slice A n ca] 25] [.val x t, .its xs ts] (R109 k t bo nk n xk ts) := by
 refine Ct.of_run (args := [.string k, x, ptr bo]) Tryz.func109 (by kernel_rfl) rfl Tryz.ntmps109 rfl (fun c => ?_)
 refine xE 0 rfl (fun A1 c1 A2 c2 hx hsz hk1 hk2 hi1 hi2 => ?_)
 subst hx
 refine rO 3 rfl (yJ rfl rfl rfl (fun b4 => ?_))
 refine oO 4 rfl (zB xN rfl rfl ?_)
 refine zA (zI 3 sc22 rfl rfl rfl rfl ?_)
 refine oO 3 rfl (zK sl22 rfl rfl rfl rfl rfl (fun b8 => ?_))
 refine zA ?_
 refine op_apd 2 0 sl22 (fun A9 c9 => ?_)
 refine zA (zB xN rfl rfl ?_)
 refine zA (zG 4 (M' := [_, _, _, _, HA.blk _ [_, _, _, _, _] _]) rfl rfl rfl rfl si22 rfl rfl rfl ?_)
 refine yK (yU yG ?_)
 refine zQ (tP 0 rfl wanted0 (zX yX rfl) ?_)
 refine yD (tM 1 rfl wanted0 (xA 4 sc23 rfl rfl rfl) ?_)
 refine tM 2 rfl wanted0 (vH 1 rfl ag25 rfl) (tM 3 rfl wanted0 (st_lenSl sl23 rfl) ?_)
 refine zN 4 (by decide +kernel) ?_
 refine zO (I2 := [[3, 2, 1], [0], []]) rfl wanted0 (by decide +kernel) (fun Kd hKd => ?_)
 refine zK sl23 rfl rfl rfl rfl rfl (fun b15 => ?_)
 refine hKd _ _ _ (hC (hC (zE (zP)))) (zN 5 (by decide +kernel) ?_)
 refine zO (I2 := [[], [], []]) rfl wanted0 (by decide +kernel) (fun Kd hKd => ?_)
 refine op_apd 4 0 sl23 (fun A16 c16 => ?_)
 refine hKd _ _ _ (zE (zE (zE (zP)))) (zQ ?_)
 refine tP 8 rfl wanted0 (zX yX rfl) (qZ (zD 4 rfl (yB _)) ?_)
 refine vO (zD 4 rfl (yB _)) 6 (xB _ _ _ _) rfl wanted0 (by decide +kernel) (by decide +kernel) (by decide +kernel) rfl (st_idxRowL 0 sl23 rfl rfl rfl (by omega)) (tQ (rs := [7, 9]) (by decide +kernel) (by simp) ?_)
 intro j hj
 simp only [List.mem_cons, List.not_mem_nil, or_false] at hj
 rcases hj with rfl | rfl
 ·refine zO (I2 := [[], [8], [], [], []]) rfl wanted0 (by decide +kernel) (fun Kd hKd => ?_)
  refine op_storeRow 4 rfl rfl rfl rfl rfl rfl si25 rfl (hKd _ _ _ (zE (hC (zE (zE (zE (zP)))))) ?_)
  refine zN 9 (by decide +kernel) ?_
  refine zO (I2 := [[], [], [], [], []]) rfl wanted0 (by decide +kernel) (fun Kd hKd => ?_)
  refine zG 5 (M' := [_, _, _, _, _, HA.blk _ [_, _, _, _, _] _]) rfl rfl rfl rfl si23 rfl rfl rfl (hKd _ _ _ (zE (zE (zE (zE (zE (zP)))))) ?_)
  refine yH (by decide +kernel) (rK 0 [] rfl rfl ?_)
  refine wP 3 2 rfl rfl rfl ?_
  exact pM Tryz.results109 ⟨rfl, _, _, _, _, _, rfl, rfl⟩ (by repeat (first | exact List.Sublist.refl _ | apply List.Sublist.cons)) (sub1 0 rfl)
 refine zO (I2 := [[6], [], [], [], []]) rfl wanted0 (by decide +kernel) (fun Kd hKd => ?_)
 refine zG 5 (M' := [_, _, _, _, _, HA.blk _ [_, _, _, _, _] _]) rfl rfl rfl rfl si23 rfl rfl rfl ?_
 refine hKd _ _ _ (wS sK sQ (zE (zE (zE (zE (zP)))))) ?_
 refine zN 7 (by decide +kernel) ?_
 refine zO (I2 := [[], [], [], [], []]) rfl wanted0 (by decide +kernel) (fun Kd hKd => ?_)
 refine op_storeRow 4 rfl rfl rfl rfl rfl rfl si25 rfl (hKd _ _ _ (zE (zE (zE (zE (zE (zP)))))) ?_)
 refine yH (by decide +kernel) (rK 0 [] rfl rfl ?_)
 refine wP 3 2 rfl rfl rfl ?_
 exact pM Tryz.results109 ⟨rfl, _, _, _, _, _, rfl, rfl⟩ (by repeat (first | exact List.Sublist.refl _ | apply List.Sublist.cons)) (sub1 0 rfl)
theorem c64 (v own : V) (key : ByteArray) (x y : Value) (hkl : v.keys.length ≤ 1000000) (hl : v.keys.length ≤ v.items.length) (hks : key.size ≤ maxLen) : CtR Tryz.prog 64 #[x, .string key, y] [.val x v, .val y own] (RV (withV v key own)) := by
 refine Ct.of_run (args := [x, .string key, y]) Tryz.func64 (by kernel_rfl) rfl Tryz.ntmps64 rfl (fun c => ?_)
 refine xE 0 rfl (fun A1 c1 A2 c2 hx hsz1 hk1 hk2 hi1 hi2 => ?_)
 subst hx
 refine xE 3 rfl (fun A3 c3 A4 c4 hx hsz3 hk3 hk4 hi3 hi4 => ?_)
 subst hx
 refine tH 2 rfl (fun hksz => ?_)
 have hzl : (v.keys.zip v.items).length = v.keys.length := by rw [List.length_zip]; omega
 refine rO 3 rfl (yJ rfl rfl rfl (fun b3 => ?_))
 refine zA (yJ rfl rfl rfl (fun b5 => ?_))
 refine zA (zT ze25 rfl (fun b6 => ?_))
 change RunOps _ _ _ _ _ _ _ _ (HA.blk _ [_, _, _, _, _] _ :: _) _
 refine oO 4 rfl (yF rfl rfl (bu25_0 ..) ?_)
 refine zA (zT ze25 rfl (fun b7 => ?_))
 change RunOps _ _ _ _ _ _ _ _ (HA.blk _ [_, _, _, _, _] _ :: _) _
 refine zA (zG 0 (M' := [HA.blk _ [_, _, _, _, _] _, _, _, _]) rfl rfl rfl rfl si25 rfl rfl rfl ?_)
 refine oO 6 rfl (qX rfl rfl rfl ?_)
 refine oO 7 rfl (zB xN rfl rfl ?_)
 refine zA (zI 3 sc22 rfl rfl rfl rfl ?_)
 refine zA (zZ sl22 rfl rfl ?_)
 refine oK 3 [17, 16, 15, 9, 8, 7, 6, 5, 3, 1] rfl rfl (rK 1 [17, 8, 16, 15, 9, 7, 6, 5, 3, 1] rfl rfl ?_)
 refine wD 25 5 (wD 9 1 ?_)
 refine rU (yS 2 (fun (⟨i, done, nk, Ak, ck, xk, A, ca, xs, ts⟩ : Nat × Bool × Nat × Option Addr × Nat × List Value × Option Addr × Nat × List Value × List V) => WAt key own (v.keys.zip v.items) i done nk xk ts) (fun (⟨i, done, nk, Ak, ck, xk, A, ca, xs, ts⟩ : Nat × Bool × Nat × Option Addr × Nat × List Value × Option Addr × Nat × List Value × List V) => [(17, .int .i64 ((i : Nat) : Int)), (8, .bool done)]) (fun (⟨i, done, nk, Ak, ck, xk, A, ca, xs, ts⟩ : Nat × Bool × Nat × Option Addr × Nat × List Value × Option Addr × Nat × List Value × List V) => HA.row Ak nk ck 9 1 xk :: HA.row A nk ca 25 5 xs :: HA.blk b7 [.int .i64 5, .int .i64 0, .string ⟨#[]⟩, .slice Ak nk ck, .slice A nk ca] 25 :: HA.blk b6 [.int .i64 0, .int .i64 0, .string ⟨#[]⟩, .slice none 0 0, .slice none 0 0] 25 :: HA.blk b5 [.int .i64 own.kind, .int .i64 own.num, .string own.text, .slice A3 own.keys.length c3, .slice A4 own.items.length c4] 25 :: HA.blk b3 [.int .i64 v.kind, .int .i64 v.num, .string v.text, .slice A1 v.keys.length c1, .slice A2 v.items.length c2] 25 :: []) (fun (⟨i, done, nk, Ak, ck, xk, A, ca, xs, ts⟩ : Nat × Bool × Nat × Option Addr × Nat × List Value × Option Addr × Nat × List Value × List V) => .its xs ts :: .strs (.slice A3 own.keys.length c3) own.keys :: .vals (.slice A4 own.items.length c4) own.items :: .strs (.slice A1 v.keys.length c1) v.keys :: .vals (.slice A2 v.items.length c2) v.items :: .val (.agg #[.int .i64 v.kind, .int .i64 v.num, .string v.text, .slice A1 v.keys.length c1, .slice A2 v.items.length c2]) v :: .val (.agg #[.int .i64 own.kind, .int .i64 own.num, .string own.text, .slice A3 own.keys.length c3, .slice A4 own.items.length c4]) own :: []) (fun (⟨i, done, nk, Ak, ck, xk, A, ca, xs, ts⟩ : Nat × Bool × Nat × Option Addr × Nat × List Value × Option Addr × Nat × List Value × List V) => v.keys.length - i) (0, false, 0, none, 0, [], none, 0, [], []) (WAt.zero _ _ _) (eC rfl (eC rfl (eN _))) rfl rfl ?_ (eC rfl (eC rfl (eC rfl (eC rfl (eC rfl (eC rfl (eC rfl (eC rfl (eN _))))))))))
 intro ⟨i, done, nk, Ak, ck, xk, A, ca, xs, ts⟩ hI K hK
 replace hI : WAt key own (v.keys.zip v.items) i done nk xk ts := hI
 change Run _ _ _ _ _ [(17, _), (8, _), (16, _), (15, _), (9, _), (7, _), (6, _), (5, _), (3, _), (1, _)] [_, _, _, _, _, _] [_, _, _, _, _, _, _]
 replace hI : WAt key own (v.keys.zip v.items) i done nk xk ts := hI
 have hi : i ≤ v.keys.length := hzl ▸ hI.1
 refine rO 3 rfl (yT rfl rfl rfl ?_)
 refine oR 2 rfl (zM rfl (fun h18 => ?_) (fun h18 => ?_))
 ·refine rO 8 rfl (vK 3 sl22 rfl rfl rfl rfl h18 ?_)
  have hlt : i < v.items.length := by omega
  have hp : (v.keys.zip v.items)[i]? = some (v.keys[i], v.items[i]) := by rw [List.getElem?_zip_eq_some]; exact ⟨List.getElem?_eq_getElem h18, List.getElem?_eq_getElem hlt⟩
  have hlen := hI.len
  refine zA (yN sc9 rfl rfl (fun _ h => wM h (j := 3) rfl (List.getElem?_eq_getElem h18)) ?_)
  refine oK 5 [11, 10, 17, 8, 16, 15, 9, 7, 6, 5, 3, 1] rfl rfl (rS 9 rfl ?_)
  refine yC (s := 24) rfl (fun h24 => ?_) (fun h24 => ?_)
  ·have hdf : done = false := by simpa using h24
   subst hdf
   refine oO 5 rfl (op_sgeq rfl rfl rfl ?_)
   refine oK 3 [28, 11, 10, 17, 8, 16, 15, 9, 7, 6, 5, 3, 1] rfl rfl (yQ rfl (fun h28 => ?_) (fun h28 => ?_))
   ·refine rO 7 rfl (zW 4 rfl ag25 rfl rfl ?_)
    refine zA ?_
    refine uE (M1 := [_, _, _]) (M2 := _) rfl rfl rfl (c109 key _ own b7 _ _ _ _ _ _ _ _ _ (by omega) (by omega)) rfl (sub2 6 0 rfl rfl) (fun u32 M32 D32 hv32 => ?_)
    obtain ⟨rfl, Ak32, ck32, A32, ca32, xs32, rfl, rfl⟩ := hv32
    refine oK 1 [11, 10, 17, 16, 15, 9, 7, 6, 5, 3, 1] rfl rfl (rO 11 rfl ?_)
    refine op_sneq rfl rfl rfl (oK 1 [35, 8, 11, 10, 17, 16, 15, 9, 7, 6, 5, 3, 1] rfl rfl ?_)
    refine zM rfl (fun h35 => ?_) (fun h35 => ?_)
    ·refine rO 6 rfl (zB yX rfl rfl ?_)
     refine zA (zI 5 sc23 rfl rfl rfl rfl ?_)
     refine oO 3 rfl (wE 5 sl23 rfl rfl rfl rfl hlt ?_)
     refine zA (xZ 5 ag25 rfl rfl rfl (List.getElem?_eq_getElem hlt) (fun A42 c42 B42 d42 => ?_))
     refine zA ?_
     refine uE (M1 := [_, _, _]) (M2 := _) rfl rfl rfl (c109 _ _ (v.items[i]'hlt) b7 _ _ _ _ _ _ _ _ _ (by omega) (by omega)) rfl (sub2 0 1 rfl rfl) (fun u43 M43 D43 hv43 => ?_)
     obtain ⟨rfl, Ak43, ck43, A43, ca43, xs43, rfl, rfl⟩ := hv43
     refine oK 1 [8, 17, 16, 15, 9, 7, 6, 5, 3, 1] rfl rfl (rO 3 rfl ?_)
     refine yL rfl rfl (by omega) (oR 3 rfl ?_)
     exact kQ (hK (i + 1, true, _, _, _, _, _, _, _, _) (hI.s3 hp (by simpa using h28) (by simpa using h35)) (by show v.keys.length - (i + 1) < v.keys.length - i; omega)) (eC rfl (eC rfl (eC rfl (eC rfl (eC rfl (eC rfl (eC rfl (eC rfl (eC rfl (eC rfl (eN _))))))))))) (hD := (subc 0 rfl sQ))
    refine rO 4 rfl (yL rfl rfl (by omega) ?_)
    refine oR 3 rfl ?_
    exact kQ (hK (i + 1, true, _, _, _, _, _, _, _, _) (hI.s4 hp (by simpa using h28) (by simpa using h35)) (by show v.keys.length - (i + 1) < v.keys.length - i; omega)) (eC rfl (eC rfl (eC rfl (eC rfl (eC rfl (eC rfl (eC rfl (eC rfl (eC rfl (eC rfl (eN _))))))))))) (hD := (subc 0 rfl sQ))
   refine rO 8 rfl (op_sneq rfl rfl rfl ?_)
   refine oK 1 [35, 11, 10, 17, 8, 16, 15, 9, 7, 6, 5, 3, 1] rfl rfl (zM rfl (fun h35 => ?_) (fun h35 => ?_))
   ·refine rO 6 rfl (zB yX rfl rfl ?_)
    refine zA (zI 5 sc23 rfl rfl rfl rfl ?_)
    refine oO 3 rfl (wE 4 sl23 rfl rfl rfl rfl hlt ?_)
    refine zA (xZ 4 ag25 rfl rfl rfl (List.getElem?_eq_getElem hlt) (fun A42 c42 B42 d42 => ?_))
    refine zA ?_
    refine uE (M1 := [_, _, _]) (M2 := _) rfl rfl rfl (c109 _ _ (v.items[i]'hlt) b7 _ _ _ _ _ _ _ _ _ (by omega) (by omega)) rfl (sub2 0 1 rfl rfl) (fun u43 M43 D43 hv43 => ?_)
    obtain ⟨rfl, Ak43, ck43, A43, ca43, xs43, rfl, rfl⟩ := hv43
    refine oK 1 [17, 8, 16, 15, 9, 7, 6, 5, 3, 1] rfl rfl (rO 3 rfl ?_)
    refine yL rfl rfl (by omega) (oR 3 rfl ?_)
    exact kQ (hK (i + 1, false, _, _, _, _, _, _, _, _) (hI.s5 hp (by simpa using h28)) (by show v.keys.length - (i + 1) < v.keys.length - i; omega)) (eC rfl (eC rfl (eC rfl (eC rfl (eC rfl (eC rfl (eC rfl (eC rfl (eC rfl (eC rfl (eN _))))))))))) (hD := (subc 0 rfl sQ))
   refine rO 4 rfl (yL rfl rfl (by omega) ?_)
   refine oR 3 rfl ?_
   exact kQ (hK (i + 1, false, _, _, _, _, _, _, _, _) (absurd (by rw [show v.keys[i] = key from by simpa using h35]; exact bl_irr key) (by simpa using h28 : ¬ Op.bytesLess v.keys[i].toList key.toList = false)) (by show v.keys.length - (i + 1) < v.keys.length - i; omega)) (eC rfl (eC rfl (eC rfl (eC rfl (eC rfl (eC rfl (eC rfl (eC rfl (eC rfl (eC rfl (eN _))))))))))) (hD := (subc 0 rfl sQ))
  have hdf : done = true := by simpa using h24
  subst hdf
  refine oK 6 [28, 11, 10, 17, 8, 16, 15, 9, 7, 6, 5, 3, 1] rfl rfl (rO 9 rfl ?_)
  refine op_sneq rfl rfl rfl (oK 1 [35, 11, 10, 17, 8, 16, 15, 9, 7, 6, 5, 3, 1] rfl rfl ?_)
  refine zM rfl (fun h35 => ?_) (fun h35 => ?_)
  ·refine rO 6 rfl (zB yX rfl rfl ?_)
   refine zA (zI 5 sc23 rfl rfl rfl rfl ?_)
   refine oO 3 rfl (wE 4 sl23 rfl rfl rfl rfl hlt ?_)
   refine zA (xZ 4 ag25 rfl rfl rfl (List.getElem?_eq_getElem hlt) (fun A42 c42 B42 d42 => ?_))
   refine zA ?_
   refine uE (M1 := [_, _, _]) (M2 := _) rfl rfl rfl (c109 _ _ (v.items[i]'hlt) b7 _ _ _ _ _ _ _ _ _ (by omega) (by omega)) rfl (sub2 0 1 rfl rfl) (fun u43 M43 D43 hv43 => ?_)
   obtain ⟨rfl, Ak43, ck43, A43, ca43, xs43, rfl, rfl⟩ := hv43
   refine oK 1 [17, 8, 16, 15, 9, 7, 6, 5, 3, 1] rfl rfl (rO 3 rfl ?_)
   refine yL rfl rfl (by omega) (oR 3 rfl ?_)
   exact kQ (hK (i + 1, true, _, _, _, _, _, _, _, _) (hI.s1 hp (by simpa using h35)) (by show v.keys.length - (i + 1) < v.keys.length - i; omega)) (eC rfl (eC rfl (eC rfl (eC rfl (eC rfl (eC rfl (eC rfl (eC rfl (eC rfl (eC rfl (eN _))))))))))) (hD := (subc 0 rfl sQ))
  refine rO 4 rfl (yL rfl rfl (by omega) ?_)
  refine oR 3 rfl ?_
  exact kQ (hK (i + 1, true, _, _, _, _, _, _, _, _) (hI.s2 hp (by simpa using h35)) (by show v.keys.length - (i + 1) < v.keys.length - i; omega)) (eC rfl (eC rfl (eC rfl (eC rfl (eC rfl (eC rfl (eC rfl (eC rfl (eC rfl (eC rfl (eN _))))))))))) (hD := (subc 0 rfl sQ))
 obtain rfl : i = v.keys.length := by omega
 have hlen := hI.len
 refine rR 9 rfl (yQ rfl (fun h46 => ?_) (fun h46 => ?_))
 ·refine rO 6 rfl (zW 4 rfl ag25 rfl rfl ?_)
  refine zA ?_
  refine uE (M1 := [_, _, _]) (M2 := _) rfl rfl rfl (c109 key _ own b7 _ _ _ _ _ _ _ _ _ (by omega) (by omega)) rfl (sub2 6 0 rfl rfl) (fun u50 M50 D50 hv50 => ?_)
  obtain ⟨rfl, Ak50, ck50, A50, ca50, xs50, rfl, rfl⟩ := hv50
  refine oK 1 [7, 6] rfl rfl (rO 3 rfl ?_)
  refine zW 2 rfl ag25 rfl rfl (zA ?_)
  refine zG 3 (M' := [_, _, _, HA.blk _ [_, _, _, _, _] _, _, _]) rfl rfl rfl rfl si25 rfl rfl rfl (yK ?_)
  have hdf : done = false := by simpa using h46
  subst hdf
  rw [← hzl] at hI
  obtain ⟨e1, e2, e3⟩ := hI.endF
  refine wQ 0 ((withL key own (v.keys.zip v.items)).map (fun p => p.1)) rfl (by intro b h; cases h) (by rw [e2, List.map_map]; rfl) (with_sizes hks (fun p hp => hksz _ (List.of_mem_zip hp).1)) (uT 0 1 ((withL key own (v.keys.zip v.items)).map (fun p => p.2)) rfl (by rw [← e3]; rfl) (by intro b h; cases h) e1 ?_)
  refine wN (q := 5) (m := 0) (s := ⟨#[]⟩) 1 0 rfl rfl (by decide) ?_
  exact wO 1 Tryz.results64 rfl rfl ag25 ⟨rfl, _, _, _, _, by show _ = Value.agg #[.int .i64 5, .int .i64 0, .string ⟨#[]⟩, .slice _ ((withL key own (v.keys.zip v.items)).map (fun p => p.1)).length _, .slice _ ((withL key own (v.keys.zip v.items)).map (fun p => p.2)).length _]; rw [← e1, show ((withL key own (v.keys.zip v.items)).map (fun p => p.1)).length = ((withL key own (v.keys.zip v.items)).map (fun p => p.2)).length by simp, ← e1], rfl⟩ nS (sub1 0 rfl)
 refine rO 4 rfl (zW 2 rfl ag25 rfl rfl ?_)
 refine zA (zG 3 (M' := [_, _, _, HA.blk _ [_, _, _, _, _] _, _, _]) rfl rfl rfl rfl si25 rfl rfl rfl ?_)
 refine oK 1 [6] rfl rfl ?_
 have hdf : done = true := by simpa using h46
 subst hdf
 rw [← hzl] at hI
 obtain ⟨e1, e2, e3⟩ := hI.endT
 refine wQ 0 ((withL key own (v.keys.zip v.items)).map (fun p => p.1)) rfl (by intro b h; cases h) (by rw [e2, List.map_map]; rfl) (with_sizes hks (fun p hp => hksz _ (List.of_mem_zip hp).1)) (uT 0 1 ((withL key own (v.keys.zip v.items)).map (fun p => p.2)) rfl (by rw [← e3]; rfl) (by intro b h; cases h) e1 ?_)
 refine wN (q := 5) (m := 0) (s := ⟨#[]⟩) 1 0 rfl rfl (by decide) ?_
 exact wO 1 Tryz.results64 rfl rfl ag25 ⟨rfl, _, _, _, _, by show _ = Value.agg #[.int .i64 5, .int .i64 0, .string ⟨#[]⟩, .slice _ ((withL key own (v.keys.zip v.items)).map (fun p => p.1)).length _, .slice _ ((withL key own (v.keys.zip v.items)).map (fun p => p.2)).length _]; rw [← e1, show ((withL key own (v.keys.zip v.items)).map (fun p => p.1)).length = ((withL key own (v.keys.zip v.items)).map (fun p => p.2)).length by simp, ← e1], rfl⟩ nS (sub1 0 rfl)
section rules
variable {P : Program} {n : Nat} {F : List Nat} {c : Ctx F} {ops : Array Oper} {d : Nat} {T : TypeId} {l : List Oper} {k : List KI} {Q : Post} {e : Env} {M : List HA} {D : List DA}
theorem ops_frGr (i : Nat) {G : Gr} (mb : Nat) (hi : M[i]? = some (.many 124 (Gr.blks G))) (hG : ∀ (w : World) (ok : Nat → Prop), (∀ d ∈ D, d.p w ok) → ∀ g ∈ G, ∃ m, CellsP w ok m g.2.1 g.2.2) (hF : F = []) (next : RunOps P n c ops l k Q e (M.eraseIdx i) (.gr mb G :: D)) : RunOps P n c ops l k Q e M D :=
  ops_freeze (h := .many 124 (Gr.blks G)) [.gr mb G] (fun x _ h => by rw [hF] at h; cases h) (xQ hi) (fun w ok h hok hD d hd => by
    rcases List.mem_singleton.1 hd with rfl
    intro g hg
    have hm : (g.1, g.2.1) ∈ Gr.blks G := List.mem_map.2 ⟨g, hg, rfl⟩
    refine ⟨⟨hok _ ?_, h _ hm⟩, hG w ok hD g hg⟩
    simp only [HA.foot, List.mem_map]
    exact ⟨_, hm, rfl⟩) next
end rules
theorem he_many11 (U : TypeId) (b : Nat) (cs : List Value) : HE [.many U [(b, cs)]] [.blk b cs U] := ⟨fun w => by
 constructor
 ·intro a x hx
  rw [List.mem_singleton.1 hx]
  exact (a _ List.mem_cons_self : (HA.many U [(b, cs)]).holds w) (b, cs) List.mem_cons_self
 ·intro a x hx
  rw [List.mem_singleton.1 hx]
  intro g hg
  rw [List.mem_singleton.1 hg]
  exact (a _ List.mem_cons_self : (HA.blk b cs U).holds w), by simp [foots, HA.foot]⟩
theorem he_add {b hb : Nat} {cs hc : List Value} {gs gs' : List (Nat × List Value)} {O1 O2 R : HA} {X : List HA} :
  HE (.many 124 gs' :: O2 :: .blk b cs 124 :: .many 124 gs :: O1 :: .many 110 [(hb, hc)] :: R :: X) ([.blk b cs 124, .blk hb hc 110, R] ++ (.many 124 gs :: .many 124 gs' :: O2 :: O1 :: X)) := by
 have e1 : HE (.many 124 gs' :: O2 :: .blk b cs 124 :: .many 124 gs :: O1 :: .many 110 [(hb, hc)] :: R :: X) ([.many 110 [(hb, hc)]] ++ (.many 124 gs' :: O2 :: .blk b cs 124 :: .many 124 gs :: O1 :: R :: X)) := HE.perm (xQ (i := 5) rfl)
 refine e1.trans ((HE.append (he_many11 110 hb hc) (HE.refl _)).trans (HE.perm ?_))
 refine List.Perm.trans (xQ (i := 3) rfl) (List.Perm.cons _ ?_)
 refine List.Perm.trans (xQ (i := 0) rfl) (List.Perm.cons _ ?_)
 refine List.Perm.trans (xQ (i := 4) rfl) (List.Perm.cons _ ?_)
 refine List.Perm.trans (xQ (i := 2) rfl) (List.Perm.cons _ ?_)
 exact List.Perm.refl _
theorem he_join3 {R1 R2 : Gr} {b : Nat} {cs : List Value} {f : Flds} {X : List HA} :
  HE (.blk b cs 124 :: .many 124 (Gr.blks R1) :: .many 124 (Gr.blks R2) :: X) (.many 124 (Gr.blks ((b, cs, f) :: (R1 ++ R2))) :: X) := by
 have e0 : Gr.blks ((b, cs, f) :: (R1 ++ R2)) = (b, cs) :: (Gr.blks R1 ++ Gr.blks R2) := by simp [Gr.blks]
 rw [e0]
 have h2 : HE [.many 124 (Gr.blks R1 ++ Gr.blks R2)] [.many 124 (Gr.blks R1), .many 124 (Gr.blks R2)] := ⟨fun w => by
  constructor
  ·intro a x hx
   have h1 : (HA.many 124 (Gr.blks R1 ++ Gr.blks R2)).holds w := a _ List.mem_cons_self
   simp only [List.mem_cons, List.not_mem_nil, or_false] at hx
   rcases hx with rfl | rfl
   ·exact fun g hg => h1 g (List.mem_append_left _ hg)
   ·exact fun g hg => h1 g (List.mem_append_right _ hg)
  ·intro a x hx
   rcases List.mem_singleton.1 hx with rfl
   intro g hg
   rcases List.mem_append.1 hg with hg | hg
   ·exact (a _ List.mem_cons_self : (HA.many 124 (Gr.blks R1)).holds w) g hg
   ·exact (a _ (List.mem_cons_of_mem _ List.mem_cons_self) : (HA.many 124 (Gr.blks R2)).holds w) g hg, by simp [foots, HA.foot]⟩
 refine HE.symm ?_
 exact HE.append ((he_many1 124 b cs (Gr.blks R1 ++ Gr.blks R2)).trans (HE.append (HE.refl [.blk b cs 124]) h2)) (HE.refl X)
theorem head_nodup {b : Nat} {cs : List Value} {U : TypeId} {f : Flds} {G : Gr} {M : List HA} (h : (foots (.blk b cs U :: .many 124 (Gr.blks G) :: M)).Nodup) : (((b, cs, f) :: G).map (·.1)).Nodup := by
 have e : foots (.blk b cs U :: .many 124 (Gr.blks G) :: M) = b :: (G.map (·.1) ++ foots M) := by simp [foots, HA.foot, Gr.blks]
 rw [e] at h
 exact h.sublist ((List.sublist_append_left _ _).cons_cons b)
section rules
variable {P : Program} {n : Nat} {F : List Nat} {c : Ctx F} {ops : Array Oper} {d : Nat} {T : TypeId} {l : List Oper} {k : List KI} {Q : Post} {e : Env} {M : List HA} {D : List DA}
theorem ops_frPtrs (i : Nat) {A : Option Addr} {m cap E : Nat} {xs : List Value} (bs : List Nat) (hi : M[i]? = some (.row A m cap E 1 xs)) (hF : F = []) (hx : xs = bs.map ptr) (next : RunOps P n c ops l k Q e (M.eraseIdx i) (.rowp (.slice A m cap) bs :: D)) : RunOps P n c ops l k Q e M D :=
  ops_freeze (h := .row A m cap E 1 xs) [.rowp (.slice A m cap) bs] (fun x _ h => by rw [hF] at h; cases h) (xQ hi) (fun w ok h hok hD d hd => by
    rcases List.mem_singleton.1 hd with rfl
    exact rowp_of h hok hx) next
end rules
def HdK (cs : List Value) (f : Flds) (h : Hd) (l : List (ByteArray × Nat)) : Prop := ∃ hb, h.1 = some hb ∧ cs[23]? = some (ptr hb) ∧ h.2.2.2.length = l.length
theorem hd_of {w : World} {ok : Nat → Prop} {mb : Nat} {cs : List Value} {f : Flds} {h : Hd} {l : List (ByteArray × Nat)} (hh : CellsH w ok mb cs f h) (hl : f 23 = some (.named l)) : HdK cs f h l := by
  obtain ⟨u, hu, h1, _⟩ := hh.2.2 23 (by decide) (by decide)
  have h1 := h1 rfl
  obtain ⟨o, A, ca, nbs⟩ := h
  cases o with
  | none =>
    obtain ⟨h2, _⟩ := h1
    rw [hl] at h2
    cases h2
  | some hb =>
    obtain ⟨rfl, l', h2, h3⟩ := h1
    rw [hl] at h2
    injection h2 with h2
    injection h2 with h2
    subst h2
    exact ⟨hb, rfl, hu, h3.1⟩
theorem cells_added {w : World} {ok : Nat → Prop} {mb hb nb c m : Nat} {cs : List Value} {f : Flds} {A A' : Option Addr} {ca ca' : Nat} {nbs : List Nat} {l : List (ByteArray × Nat)} {name : ByteArray} (hh : CellsH w ok mb cs f (some hb, A, ca, nbs)) (hl : f 23 = some (.named l)) (hn : name.size ≤ maxLen)
  (h1 : BlkP w ok nb [.string name, ptr c] 179) (h2 : (DA.dblk hb [.slice A' m ca'] 110).p w ok) (h3 : RowPtrs w ok (.slice A' m ca') (nbs ++ [nb])) : CellsP w ok mb cs (f.put 23 (some (.named (l ++ [(name, c)])))) := by
 refine ⟨hh.1, hh.2.1, fun i hi hj => ?_⟩
 obtain ⟨u, hu, g1, g2⟩ := hh.2.2 i hi hj
 refine ⟨u, hu, ?_⟩
 by_cases e : i = 23
 ·subst e
  obtain ⟨rfl, l', e2, e3⟩ := g1 rfl
  rw [hl] at e2
  injection e2 with e2
  injection e2 with e2
  subst e2
  have hN := NamP.snoc (q := (name, c)) e3 hn h1
  rw [show (f.put 23 (some (.named (l ++ [(name, c)])))) 23 = some (.named (l ++ [(name, c)])) from if_pos rfl]
  exact ⟨_, _, nbs ++ [nb], rfl, vS h2 rfl, h3, hN.1, hN.2⟩
 ·rw [show (f.put 23 (some (.named (l ++ [(name, c)])))) i = f i from if_neg e]
  exact g2 e
theorem props_named {G : Gr} {σ : Sig} {v all : V} {b : Nat} {cs : List Value} {f : Flds} (h1 : GOk ((b, cs, f) :: G) σ) (hv : Sch v) (hu : Unf ((b, cs, f) :: G) v b) (hall : getV (normalV v) k23 = some all) : ∃ l, f 23 = some (.named l) ∧ l.length ≤ 1000 := by
  have hv2 : Sch (normalV v) := ⟨rH hv.2 hv.1, shape_norm v hv.2 hv.1⟩
  obtain ⟨f1, ha, hU⟩ := (tC _ _ _).1 (unf_normal v b hv.1 hv.2 hu)
  obtain rfl : f1 = f := Option.some.inj (((h1.2 b f1).1 ha).symm.trans ((h1.2 b f).1 ⟨cs, List.mem_cons_self⟩))
  have hF := hU 23 (by decide) (by decide)
  cases hf : f1 23 with
  | none =>
    rw [hf] at hF
    have := hF k23 (by decide +kernel)
    rw [hall] at this
    cases this
  | some fv =>
    rw [hf] at hF
    obtain ⟨key, x, hk, hg, hr⟩ := hF
    obtain rfl := kwI hk k23 (by decide +kernel) (by decide)
    obtain ⟨l, ps, rfl, hp, hA⟩ := named_of hr
    refine ⟨l, rfl, ?_⟩
    have hpx := hv2.1.item _ (rZ hg)
    have := hpx.len
    rw [hA.1, hp.length_eq, List.length_zip]
    omega
def AddOk (v o : V) (name : ByteArray) (t : V) : Prop := IsSchemaV v ∧ IsSchemaV o ∧ ∃ all, getV (normalV v) k23 = some all ∧ getV all name = none ∧ t = addedV v name o all

theorem c110 (name : ByteArray) (pb : Nat) : Ct Tryz.prog 110 #[.string name, ptr pb] [] [] (fun u M' D' => ∃ nb, u = ptr nb ∧ M' = [.blk nb [.string name, ptr pb] 179] ∧ D' = []) := by
 refine Ct.of_run (args := [.string name, ptr pb]) Tryz.func110 (by kernel_rfl) rfl Tryz.ntmps110 rfl (fun c => ?_)
 refine rO 12 rfl (yF rfl rfl (bu179_0_1 ..) ?_)
 refine zA (yJ rfl rfl rfl (fun b8 => ?_))
 refine oR 3 rfl ?_
 exact zC Tryz.results110 rfl ⟨b8, rfl, rfl, rfl⟩ (List.Sublist.refl _) (fun _ h => by cases h)
theorem c65 (b hb pb : Nat) (cs : List Value) (name : ByteArray) (A : Option Addr) (n ca : Nat) (xs : List Value) (h23 : cs[23]? = some (ptr hb)) (hn : n ≤ 1000000) : Ct Tryz.prog 65 #[ptr b, .string name, ptr pb] [.blk b cs 124, .blk hb [.slice A n ca] 110, .row A n ca 125 1 xs] [] (fun u M' D' => u = .tuple #[] ∧ ∃ A' ca' nb, M' = [.blk nb [.string name, ptr pb] 179, .blk b cs 124, .blk hb [.slice A' (n + 1) ca'] 110, .row A' (n + 1) ca' 125 1 (xs ++ [ptr nb])] ∧ D' = []) := by
 refine Ct.of_run (args := [ptr b, .string name, ptr pb]) Tryz.func65 (by kernel_rfl) rfl Tryz.ntmps65 rfl (fun c => ?_)
 refine yU yG (zQ ?_)
 refine tP 0 rfl wanted0 (zU rfl) (tP 1 rfl wanted0 (yR rfl) ?_)
 refine tP 2 rfl wanted0 (zX rT rfl) (tP 4 rfl wanted0 (zU rfl) ?_)
 refine tP 5 rfl wanted0 (yR rfl) (tP 6 rfl wanted0 (zX rT rfl) ?_)
 refine tP 10 rfl wanted0 (zU rfl) (tP 11 rfl wanted0 (zU rfl) ?_)
 refine qZ (zD 0 rfl (yB _)) (vO (zD 0 rfl (yB _)) 3 (xB _ _ _ _) rfl wanted0 (by decide +kernel) (by decide +kernel) (by decide +kernel) rfl (uF sc118 rfl (fun _ h => cellM h (i := 0) rfl h23)) ?_)
 refine vO (zD 0 rfl (yB _)) 7 (xB _ _ _ _) rfl wanted0 (by decide +kernel) (by decide +kernel) (by decide +kernel) rfl (uF sc118 rfl (fun _ h => cellM h (i := 0) rfl h23)) (zQ ?_)
 refine tP 8 rfl wanted0 (yR rfl) (qZ (zD 1 rfl (yB _)) ?_)
 refine vO (zD 1 rfl (yB _)) 9 (xB _ _ _ _) rfl wanted0 (by decide +kernel) (by decide +kernel) (by decide +kernel) rfl (uF sc110 rfl (fun _ h => cellM h (i := 0) rfl rfl)) (zN 12 (by decide +kernel) ?_)
 refine zO (I2 := [[9], [8], [7, 3], [6, 5, 4, 2, 1, 0], []]) rfl wanted0 (by decide +kernel) (fun Kd hKd => ?_)
 refine uE (M1 := []) rfl rfl rfl (c110 name pb) rfl (fun _ h => by cases h) (fun u18 M18 D18 hv18 => ?_)
 obtain ⟨b18, rfl, rfl, rfl⟩ := hv18
 refine hKd _ _ _ (wS sK sQ (hC (wS sK sQ (hC (zE (zP)))))) ?_
 refine zN 13 (by decide +kernel) ?_
 refine zO (I2 := [[9], [8], [7, 3], [6, 5, 4, 2, 1, 0], []]) rfl wanted0 (by decide +kernel) (fun Kd hKd => ?_)
 refine zK sl110 rfl rfl rfl rfl rfl (fun b19 => ?_)
 refine hKd _ _ _ (wS sK sQ (hC (wS sK sQ (hC (zE (zP)))))) ?_
 refine zN 14 (by decide +kernel) ?_
 refine zO (I2 := [[], [], [3], [2, 1, 0], []]) rfl wanted0 (by decide +kernel) (fun Kd hKd => ?_)
 refine op_apd 4 0 sl110 (fun A20 c20 => ?_)
 refine hKd _ _ _ (zE (zE (wS sK sQ (hC (zE (zP)))))) ?_
 refine zQ (tP 15 rfl wanted0 (yR rfl) ?_)
 refine zN 16 (by decide +kernel) ?_
 refine zO (I2 := [[], [], [], [], [], []]) rfl wanted0 (by decide +kernel) (fun Kd hKd => ?_)
 refine zG 3 (M' := [_, _, _, HA.blk _ [_] _, _]) rfl rfl rfl rfl si110 rfl rfl rfl (hKd _ _ _ (zE (zE (zE (zE (zE (zE (zP))))))) ?_)
 refine yH (by decide +kernel) (rK 0 [] rfl rfl ?_)
 refine wG (M' := [HA.blk b18 [.string name, ptr pb] 179, HA.blk b cs 124, HA.blk hb [.slice A20 (n + 1) c20] 110, HA.row A20 (n + 1) c20 125 1 (xs ++ [ptr b18])]) (by repeat (first | exact yB _ | refine zD 0 rfl ?_ | refine zD 1 rfl ?_ | refine zD 2 rfl ?_ | refine zD 3 rfl ?_ | refine zD 4 rfl ?_ | refine zD 5 rfl ?_ | refine zD 6 rfl ?_ | refine zD 7 rfl ?_ | refine zD 8 rfl ?_)) ?_
 exact pM Tryz.results65 ⟨rfl, _, _, _, rfl, rfl⟩ (List.Sublist.refl _) (fun _ h => by cases h)
theorem c30 (fb : Addr) (v o all : V) (name : ByteArray) (x y : Value) (hv : Sch v) (ho : Sch o) (hnm : name.size ≤ maxLen) (hall : getV (normalV v) k23 = some all) (hno : getV all name = none) (hc : Sch (addedV v name o all)) : CtR Tryz.prog 30 #[x, .string name, y] [.val x v, .val y o, .tab, ftA fb] (RTV (wr (addedV v name o all))) := by
 refine Ct.of_run (args := [x, .string name, y]) Tryz.func30 (by kernel_rfl) rfl Tryz.ntmps30 rfl (fun c => ?_)
 refine xE 0 rfl (fun A1 c1 A2 c2 hx hsz1 hk1 hk2 hi1 hi2 => ?_)
 subst hx
 refine xE 3 rfl (fun A3 c3 A4 c4 hx hsz3 hk3 hk4 hi3 hi4 => ?_)
 subst hx
 refine rO 3 rfl (yJ rfl rfl rfl (fun b3 => ?_))
 refine zA (yJ rfl rfl rfl (fun b5 => ?_))
 refine zA (zT ze34 rfl (fun b6 => ?_))
 change RunOps _ _ _ _ _ _ _ _ (HA.blk _ [_, _, _, _, _, _] _ :: _) _
 refine oR 2 rfl (yU yG ?_)
 refine tM 0 rfl wanted0 (vH 2 rfl ag25 rfl) (tM 2 rfl wanted0 (vH 1 rfl ag25 rfl) ?_)
 refine zN 1 (by decide +kernel) ?_
 refine zO (I2 := [[2]]) rfl wanted0 (by decide +kernel) (fun Kd hKd => ?_)
 refine uE (M1 := []) rfl rfl rfl (c57A (ftA fb) false v _ (.inl (numC fb)) hv.1 hv.2) rfl (by intro d hd; simp only [List.mem_cons, List.not_mem_nil, or_false] at hd ⊢; rcases hd with rfl | rfl | rfl <;> simp) (fun u10 M10 D10 hv10 => ?_)
 obtain ⟨mb10, b10, cs10, G10, es10, ck10, f10, h10, rfl, rfl, rfl, hU10⟩ := hv10
 refine hKd _ _ _ (hC (zP)) (zN 3 (by decide +kernel) ?_)
 refine zO (I2 := [[]]) rfl wanted0 (by decide +kernel) (fun Kd hKd => ?_)
 refine uE (M1 := []) rfl rfl rfl (c57 (ftA fb) false o _ (.inl (numC fb)) ho.1 ho.2) rfl (by intro d hd; simp only [List.mem_cons, List.not_mem_nil, or_false] at hd ⊢; rcases hd with rfl | rfl | rfl <;> simp) (fun u12 M12 D12 hv12 => ?_)
 obtain ⟨b12, G12, mb12, es12, ck12, rfl, rfl, rfl, hU12, hO12, hN12⟩ := hv12
 refine hKd _ _ _ (zE (zP)) (zQ ?_)
 refine tP 4 rfl wanted0 (yY rfl) (tP 5 rfl wanted0 (yY rfl) ?_)
 refine yH (by decide +kernel) (rO 6 rfl ?_)
 refine sG pn63 rfl rfl (oS 2 rfl ?_)
 refine wB (s := 15) rfl (rfl) (oO 3 rfl ?_)
 refine sG pn63 rfl rfl (oK 3 [18, 8, 7, 6, 1] rfl rfl ?_)
 refine rS 6 rfl (ops_nd (fun hnd => ?_))
 have hg10 := head_nodup (f := f10) (List.nodup_append.1 (List.nodup_append.1 hnd).2.1).2.1
 obtain ⟨σ10, hσ10⟩ := GOk.ex hg10
 obtain ⟨l10, hl10, hll10⟩ := props_named hσ10 hv hU10 hall
 refine ops_open (p := HdK cs10 f10 h10 l10) (fun w ok h => hd_of (dget h 1 rfl) hl10) (fun hhd => ?_)
 obtain ⟨oh, A9, ca9, nbs⟩ := h10
 obtain ⟨hb, rfl, h23, hnl⟩ := hhd
 have hnl : nbs.length = l10.length := hnl
 refine ops_he he_add (oO 5 rfl ?_)
 refine uE (M1 := [_, _, _]) rfl rfl rfl (c65 b10 hb b12 cs10 name A9 nbs.length ca9 (nbs.map ptr) h23 (by omega)) rfl (fun _ h => by cases h) (fun u23 M23 D23 hv23 => ?_)
 obtain ⟨rfl, A23, c23, nb, rfl, rfl⟩ := hv23
 have hunf := unf_added hσ10 hv hU10 hall hno ho hU12 hl10 cs10
 refine qH 0 rfl rfl (qH 1 rfl rfl ?_)
 refine ops_frPtrs 1 (nbs ++ [nb]) rfl rfl (by rw [List.map_append]; rfl) (ops_he (he_join3 (f := f10.put 23 (some (.named (l10 ++ [(name, b12)]))))) ?_)
 refine ops_frGr 0 0 rfl (fun w ok h g hg => ?_) rfl ?_
 ·have d1 : RowPtrs w ok (.slice A23 (nbs.length + 1) c23) (nbs ++ [nb]) := dget h 0 rfl
  have d2 := dget h 1 rfl
  have d3 : BlkP w ok nb [.string name, ptr b12] 179 := dget h 2 rfl
  have g12 : (DA.graph mb12 G12).p w ok := dget h 3 rfl
  have g10 : (DA.graph mb10 G10).p w ok := dget h 5 rfl
  rcases List.mem_cons.1 hg with e | e
  ·rw [e]; exact ⟨mb10, cells_added (dget h 4 rfl) hl10 hnm d3 d2 d1⟩
  ·rcases List.mem_append.1 e with e | e
   ·exact ⟨mb10, g10 g e⟩
   ·exact ⟨mb12, g12 g e⟩
 refine oO 6 rfl ?_
 refine zR rfl rfl rfl (c60 fb 0 _ (addedV v name o all) b10 hunf hc.1 hc.2) (by intro d hd; simp only [List.mem_cons, List.not_mem_nil, or_false] at hd ⊢; rcases hd with rfl | rfl | rfl <;> simp) (fun u25 D25 hv25 => ?_)
 obtain ⟨A25, m25, B25, d25, rfl, rfl⟩ := hv25
 refine zA (zG 2 (M' := [_, _, HA.blk _ [_, _, _, _, _, _] _, _, _]) rfl rfl rfl rfl si34 rfl rfl rfl ?_)
 refine oK 1 [6] rfl rfl ?_
 refine wG (M' := [HA.blk b6 [_, _, _, _, _, _] 34]) (by repeat (first | exact yB _ | refine zD 0 rfl ?_ | refine zD 1 rfl ?_ | refine zD 2 rfl ?_ | refine zD 3 rfl ?_ | refine zD 4 rfl ?_ | refine zD 5 rfl ?_ | refine zD 6 rfl ?_ | refine zD 7 rfl ?_ | refine zD 8 rfl ?_)) ?_
 exact wO 0 Tryz.results30 rfl rfl ag34 ⟨rfl, _, _, _, _, rfl, rfl⟩ nS (sub1 0 rfl)
theorem c29 (v o : V) (name : ByteArray) (x y : Value) (hnm : name.size ≤ maxLen) : CtR Tryz.prog 29 #[x, .string name, y] [.val x v, .val y o] (fun u D' => ∃ z t b, u = .tuple #[z, .bool b] ∧ RV t z D' ∧ (b = true → AddOk v o name t)) := by
 refine Ct.of_run (args := [x, .string name, y]) Tryz.func29 (by kernel_rfl) rfl Tryz.ntmps29 rfl (fun c => ?_)
 refine xE 0 rfl (fun A1 c1 A2 c2 hx hsz1 hk1 hk2 hi1 hi2 => ?_)
 subst hx
 refine xE 3 rfl (fun A3 c3 A4 c4 hx hsz3 hk3 hk4 hi3 hi4 => ?_)
 subst hx
 refine rO 3 rfl (yJ rfl rfl rfl (fun b3 => ?_))
 refine zA (yJ rfl rfl rfl (fun b5 => ?_))
 refine zA (zT ze25 rfl (fun b6 => ?_))
 change RunOps _ _ _ _ _ _ _ _ (HA.blk _ [_, _, _, _, _] _ :: _) _
 refine oO 7 rfl (zW 2 rfl ag25 rfl rfl ?_)
 refine zA (zJ rfl rfl rfl (c20 v _) (by first | exact sub1 0 rfl | exact sub1 1 rfl | exact sub1 2 rfl | exact sub1 3 rfl | exact sub1 4 rfl | exact sub1 5 rfl | exact sub1 6 rfl | exact sub1 7 rfl | exact sub1 8 rfl | exact sub1 9 rfl | exact sub1 10 rfl) ?_)
 refine oS 4 rfl (yC (s := 14) rfl (fun h14 => ?_) (fun h14 => ?_))
 ·refine oK 13 [23, 6, 5, 3, 1] rfl rfl (rO 4 rfl ?_)
  refine yF rfl rfl (bu25 ..) (zA ?_)
  refine zG 0 (M' := [HA.blk _ [_, _, _, _, _] _, _, _]) rfl rfl rfl rfl si25 rfl rfl rfl (oR 3 rfl ?_)
  refine wG (M' := [HA.blk b6 [_, _, _, _, _] 25]) (by repeat (first | exact yB _ | refine zD 0 rfl ?_ | refine zD 1 rfl ?_ | refine zD 2 rfl ?_ | refine zD 3 rfl ?_ | refine zD 4 rfl ?_ | refine zD 5 rfl ?_ | refine zD 6 rfl ?_ | refine zD 7 rfl ?_ | refine zD 8 rfl ?_)) ?_
  refine zY (.val (.agg #[.int .i64 0, .int .i64 0, .string ⟨#[]⟩, .slice none 0 0, .slice none 0 0]) zV) (fun w ok _ => sT w ok) ?_
  exact xU 0 Tryz.results29 rfl rfl rfl ag25 ⟨rfl, .agg #[.int .i64 0, .int .i64 0, .string ⟨#[]⟩, .slice none 0 0, .slice none 0 0], zV, false, rfl, ⟨none, 0, none, 0, rfl, rfl⟩, fun e => by cases e⟩ nS (sub1 0 rfl)
 have hsv : IsSchemaV v := yM.1 (by simpa using h14)
 refine zH rfl rfl (zW 1 rfl ag25 rfl rfl ?_)
 refine zH rfl rfl (zJ rfl rfl rfl (c20 o _) (by first | exact sub1 0 rfl | exact sub1 1 rfl | exact sub1 2 rfl | exact sub1 3 rfl | exact sub1 4 rfl | exact sub1 5 rfl | exact sub1 6 rfl | exact sub1 7 rfl | exact sub1 8 rfl | exact sub1 9 rfl | exact sub1 10 rfl) ?_)
 refine oS 6 rfl (yC (s := 19) rfl (fun h19 => ?_) (fun h19 => ?_))
 ·refine oK 6 [23, 6, 5, 3, 1] rfl rfl (rO 4 rfl ?_)
  refine yF rfl rfl (bu25 ..) (zA ?_)
  refine zG 0 (M' := [HA.blk _ [_, _, _, _, _] _, _, _]) rfl rfl rfl rfl si25 rfl rfl rfl (oR 3 rfl ?_)
  refine wG (M' := [HA.blk b6 [_, _, _, _, _] 25]) (by repeat (first | exact yB _ | refine zD 0 rfl ?_ | refine zD 1 rfl ?_ | refine zD 2 rfl ?_ | refine zD 3 rfl ?_ | refine zD 4 rfl ?_ | refine zD 5 rfl ?_ | refine zD 6 rfl ?_ | refine zD 7 rfl ?_ | refine zD 8 rfl ?_)) ?_
  refine zY (.val (.agg #[.int .i64 0, .int .i64 0, .string ⟨#[]⟩, .slice none 0 0, .slice none 0 0]) zV) (fun w ok _ => sT w ok) ?_
  exact xU 0 Tryz.results29 rfl rfl rfl ag25 ⟨rfl, .agg #[.int .i64 0, .int .i64 0, .string ⟨#[]⟩, .slice none 0 0, .slice none 0 0], zV, false, rfl, ⟨none, 0, none, 0, rfl, rfl⟩, fun e => by cases e⟩ nS (sub1 0 rfl)
 have hso : IsSchemaV o := yM.1 (by simpa using h19)
 refine oO 3 rfl (zJ rfl rfl rfl (c61 name hnm) sub0 ?_)
 refine oK 5 [23, 6, 5, 3, 1] rfl rfl (yQ rfl (fun h23 => ?_) (fun h23 => ?_))
 ·refine rO 3 rfl (yF rfl rfl (bu25 ..) ?_)
  refine zA (zG 0 (M' := [HA.blk _ [_, _, _, _, _] _, _, _]) rfl rfl rfl rfl si25 rfl rfl rfl ?_)
  refine oR 3 rfl ?_
  refine wG (M' := [HA.blk b6 [_, _, _, _, _] 25]) (by repeat (first | exact yB _ | refine zD 0 rfl ?_ | refine zD 1 rfl ?_ | refine zD 2 rfl ?_ | refine zD 3 rfl ?_ | refine zD 4 rfl ?_ | refine zD 5 rfl ?_ | refine zD 6 rfl ?_ | refine zD 7 rfl ?_ | refine zD 8 rfl ?_)) ?_
  refine zY (.val (.agg #[.int .i64 0, .int .i64 0, .string ⟨#[]⟩, .slice none 0 0, .slice none 0 0]) zV) (fun w ok _ => sT w ok) ?_
  exact xU 0 Tryz.results29 rfl rfl rfl ag25 ⟨rfl, .agg #[.int .i64 0, .int .i64 0, .string ⟨#[]⟩, .slice none 0 0, .slice none 0 0], zV, false, rfl, ⟨none, 0, none, 0, rfl, rfl⟩, fun e => by cases e⟩ nS (sub1 0 rfl)
 have hpv : Pl v := ⟨12, hsv.1.1⟩
 have hpo : Pl o := ⟨12, hso.1.1⟩
 have hpn := rH hsv.2 hpv
 have hpno := rH hso.2 hpo
 refine rO 4 rfl (zW 2 rfl ag25 rfl rfl ?_)
 refine zA ?_
 refine zR rfl rfl rfl (c22 v hpv.wf _) (by first | exact sub1 0 rfl | exact sub1 1 rfl | exact sub1 2 rfl | exact sub1 3 rfl | exact sub1 4 rfl | exact sub1 5 rfl | exact sub1 6 rfl | exact sub1 7 rfl | exact sub1 8 rfl | exact sub1 9 rfl | exact sub1 10 rfl) (fun u26 D26 hv26 => ?_)
 obtain ⟨A26, m26, B26, d26, rfl, rfl⟩ := hv26
 refine zA (zT ze25 rfl (fun b8 => ?_))
 change RunOps _ _ _ _ _ _ _ _ (HA.blk _ [_, _, _, _, _] _ :: _) _
 refine zA (zG 0 (M' := [HA.blk _ [_, _, _, _, _] _, _, _, _]) rfl rfl rfl rfl si25 rfl rfl rfl ?_)
 refine oO 4 rfl (zW 0 rfl ag25 rfl rfl ?_)
 refine zA ?_
 refine zR rfl rfl rfl (c62v _ (normalV v) k23 hpn.wf.le) (by first | exact sub1 0 rfl | exact sub1 1 rfl | exact sub1 2 rfl | exact sub1 3 rfl | exact sub1 4 rfl | exact sub1 5 rfl | exact sub1 6 rfl | exact sub1 7 rfl | exact sub1 8 rfl | exact sub1 9 rfl | exact sub1 10 rfl) (fun u29 D29 hv29 => ?_)
 obtain ⟨all, hall⟩ : ∃ z, z = (getV (normalV v) k23).getD zV := ⟨_, rfl⟩
 rw [← hall] at hv29
 obtain ⟨_, rfl, A29, m29, B29, d29, rfl, rfl⟩ := hv29
 refine oO 7 rfl (zT ze25 rfl (fun b9 => ?_))
 change RunOps _ _ _ _ _ _ _ _ (HA.blk _ [_, _, _, _, _] _ :: _) _
 refine zA (zG 0 (M' := [HA.blk _ [_, _, _, _, _] _, _, _, _, _]) rfl rfl rfl rfl si25 rfl rfl rfl ?_)
 refine oK 3 [10, 9, 8, 6, 5, 1] rfl rfl (rS 9 rfl ?_)
 refine yC (s := 34) rfl (fun h34 => ?_) (fun h34 => ?_)
 ·refine oK 15 [45, 9, 8, 6, 5, 1] rfl rfl (rO 4 rfl ?_)
  refine yF rfl rfl (bu25 ..) (zA ?_)
  refine zG 2 (M' := [_, _, HA.blk _ [_, _, _, _, _] _, _, _]) rfl rfl rfl rfl si25 rfl rfl rfl (oR 3 rfl ?_)
  refine wG (M' := [HA.blk b6 [_, _, _, _, _] 25]) (by repeat (first | exact yB _ | refine zD 0 rfl ?_ | refine zD 1 rfl ?_ | refine zD 2 rfl ?_ | refine zD 3 rfl ?_ | refine zD 4 rfl ?_ | refine zD 5 rfl ?_ | refine zD 6 rfl ?_ | refine zD 7 rfl ?_ | refine zD 8 rfl ?_)) ?_
  refine zY (.val (.agg #[.int .i64 0, .int .i64 0, .string ⟨#[]⟩, .slice none 0 0, .slice none 0 0]) zV) (fun w ok _ => sT w ok) ?_
  exact xU 0 Tryz.results29 rfl rfl rfl ag25 ⟨rfl, .agg #[.int .i64 0, .int .i64 0, .string ⟨#[]⟩, .slice none 0 0, .slice none 0 0], zV, false, rfl, ⟨none, 0, none, 0, rfl, rfl⟩, fun e => by cases e⟩ nS (sub1 0 rfl)
 obtain ⟨al, hal⟩ : ∃ al, getV (normalV v) k23 = some al := Option.isSome_iff_exists.1 (by simpa using h34)
 have hae : all = al := by rw [hall, hal]; rfl
 subst hae
 have hpa : Pl all := hpn.item _ (rZ hal)
 refine zH rfl rfl (zW 0 rfl ag25 rfl rfl ?_)
 refine oO 3 rfl (zJ rfl rfl rfl (c63 _ all name) (by first | exact sub1 0 rfl | exact sub1 1 rfl | exact sub1 2 rfl | exact sub1 3 rfl | exact sub1 4 rfl | exact sub1 5 rfl | exact sub1 6 rfl | exact sub1 7 rfl | exact sub1 8 rfl | exact sub1 9 rfl | exact sub1 10 rfl) ?_)
 refine zH rfl rfl (qJ rfl rfl rfl ?_)
 refine oS 4 rfl (yA (s := 40) rfl (fun h40 => ?_) (fun h40 => ?_))
 ·refine oK 7 [45, 9, 8, 6, 5, 1] rfl rfl (rO 4 rfl ?_)
  refine yF rfl rfl (bu25 ..) (zA ?_)
  refine zG 2 (M' := [_, _, HA.blk _ [_, _, _, _, _] _, _, _]) rfl rfl rfl rfl si25 rfl rfl rfl (oR 3 rfl ?_)
  refine wG (M' := [HA.blk b6 [_, _, _, _, _] 25]) (by repeat (first | exact yB _ | refine zD 0 rfl ?_ | refine zD 1 rfl ?_ | refine zD 2 rfl ?_ | refine zD 3 rfl ?_ | refine zD 4 rfl ?_ | refine zD 5 rfl ?_ | refine zD 6 rfl ?_ | refine zD 7 rfl ?_ | refine zD 8 rfl ?_)) ?_
  refine zY (.val (.agg #[.int .i64 0, .int .i64 0, .string ⟨#[]⟩, .slice none 0 0, .slice none 0 0]) zV) (fun w ok _ => sT w ok) ?_
  exact xU 0 Tryz.results29 rfl rfl rfl ag25 ⟨rfl, .agg #[.int .i64 0, .int .i64 0, .string ⟨#[]⟩, .slice none 0 0, .slice none 0 0], zV, false, rfl, ⟨none, 0, none, 0, rfl, rfl⟩, fun e => by cases e⟩ nS (sub1 0 rfl)
 have hfn : getV all name = none := by
  unfold getV
  have : ¬ (0 ≤ findI all.keys name) := by simpa using h40
  rcases sS all.keys name with e | ⟨j, e, _⟩
  ·rw [if_pos e]
  ·omega
 refine zH rfl rfl (zB xN rfl rfl ?_)
 refine zH rfl rfl (zI 0 sc22 rfl rfl rfl rfl ?_)
 refine zH rfl rfl (zZ sl22 rfl rfl ?_)
 refine zH rfl rfl (wJ rfl rfl rfl ?_)
 refine oK 3 [45, 9, 8, 6, 5, 1] rfl rfl (yQ rfl (fun h45 => ?_) (fun h45 => ?_))
 ·refine rO 3 rfl (yF rfl rfl (bu25 ..) ?_)
  refine zA (zG 2 (M' := [_, _, HA.blk _ [_, _, _, _, _] _, _, _]) rfl rfl rfl rfl si25 rfl rfl rfl ?_)
  refine oR 3 rfl ?_
  refine wG (M' := [HA.blk b6 [_, _, _, _, _] 25]) (by repeat (first | exact yB _ | refine zD 0 rfl ?_ | refine zD 1 rfl ?_ | refine zD 2 rfl ?_ | refine zD 3 rfl ?_ | refine zD 4 rfl ?_ | refine zD 5 rfl ?_ | refine zD 6 rfl ?_ | refine zD 7 rfl ?_ | refine zD 8 rfl ?_)) ?_
  refine zY (.val (.agg #[.int .i64 0, .int .i64 0, .string ⟨#[]⟩, .slice none 0 0, .slice none 0 0]) zV) (fun w ok _ => sT w ok) ?_
  exact xU 0 Tryz.results29 rfl rfl rfl ag25 ⟨rfl, .agg #[.int .i64 0, .int .i64 0, .string ⟨#[]⟩, .slice none 0 0, .slice none 0 0], zV, false, rfl, ⟨none, 0, none, 0, rfl, rfl⟩, fun e => by cases e⟩ nS (sub1 0 rfl)
 refine rR 2 rfl (yU yG ?_)
 refine zQ (tP 2 rfl wanted0 (zU rfl) ?_)
 refine yD (tM 0 rfl wanted0 (vH 1 rfl ag25 rfl) ?_)
 refine tM 1 rfl wanted0 (vH 0 rfl ag25 rfl) (tM 3 rfl wanted0 (vH 3 rfl ag25 rfl) ?_)
 refine zN 4 (by decide +kernel) ?_
 refine zO (I2 := [[1, 0], [2], []]) rfl wanted0 (by decide +kernel) (fun Kd hKd => ?_)
 refine zR rfl rfl rfl (c22 o hpo.wf _) (by first | exact sub1 0 rfl | exact sub1 1 rfl | exact sub1 2 rfl | exact sub1 3 rfl | exact sub1 4 rfl | exact sub1 5 rfl | exact sub1 6 rfl | exact sub1 7 rfl | exact sub1 8 rfl | exact sub1 9 rfl | exact sub1 10 rfl) (fun u51 D51 hv51 => ?_)
 obtain ⟨A51, m51, B51, d51, rfl, rfl⟩ := hv51
 refine hKd _ _ _ (hC (hC (zE (zP)))) (zN 5 (by decide +kernel) ?_)
 refine zO (I2 := [[0], [], []]) rfl wanted0 (by decide +kernel) (fun Kd hKd => ?_)
 refine zR rfl rfl rfl (c64 all (normalV o) name _ _ hpa.wf.kl hpa.wf.le hnm) (by first | exact sub2 0 1 rfl rfl | exact sub2 0 2 rfl rfl | exact sub2 0 3 rfl rfl | exact sub2 0 4 rfl rfl | exact sub2 0 5 rfl rfl | exact sub2 0 6 rfl rfl | exact sub2 0 7 rfl rfl | exact sub2 0 8 rfl rfl | exact sub2 1 0 rfl rfl | exact sub2 1 2 rfl rfl | exact sub2 1 3 rfl rfl | exact sub2 1 4 rfl rfl | exact sub2 1 5 rfl rfl | exact sub2 1 6 rfl rfl | exact sub2 1 7 rfl rfl | exact sub2 1 8 rfl rfl | exact sub2 2 0 rfl rfl | exact sub2 2 1 rfl rfl | exact sub2 2 3 rfl rfl | exact sub2 2 4 rfl rfl | exact sub2 2 5 rfl rfl | exact sub2 2 6 rfl rfl | exact sub2 2 7 rfl rfl | exact sub2 2 8 rfl rfl | exact sub2 3 0 rfl rfl | exact sub2 3 1 rfl rfl | exact sub2 3 2 rfl rfl | exact sub2 3 4 rfl rfl | exact sub2 3 5 rfl rfl | exact sub2 3 6 rfl rfl | exact sub2 3 7 rfl rfl | exact sub2 3 8 rfl rfl | exact sub2 4 0 rfl rfl | exact sub2 4 1 rfl rfl | exact sub2 4 2 rfl rfl | exact sub2 4 3 rfl rfl | exact sub2 4 5 rfl rfl | exact sub2 4 6 rfl rfl | exact sub2 4 7 rfl rfl | exact sub2 4 8 rfl rfl | exact sub2 5 0 rfl rfl | exact sub2 5 1 rfl rfl | exact sub2 5 2 rfl rfl | exact sub2 5 3 rfl rfl | exact sub2 5 4 rfl rfl | exact sub2 5 6 rfl rfl | exact sub2 5 7 rfl rfl | exact sub2 5 8 rfl rfl | exact sub2 6 0 rfl rfl | exact sub2 6 1 rfl rfl | exact sub2 6 2 rfl rfl | exact sub2 6 3 rfl rfl | exact sub2 6 4 rfl rfl | exact sub2 6 5 rfl rfl | exact sub2 6 7 rfl rfl | exact sub2 6 8 rfl rfl | exact sub2 7 0 rfl rfl | exact sub2 7 1 rfl rfl | exact sub2 7 2 rfl rfl | exact sub2 7 3 rfl rfl | exact sub2 7 4 rfl rfl | exact sub2 7 5 rfl rfl | exact sub2 7 6 rfl rfl | exact sub2 7 8 rfl rfl | exact sub2 8 0 rfl rfl | exact sub2 8 1 rfl rfl | exact sub2 8 2 rfl rfl | exact sub2 8 3 rfl rfl | exact sub2 8 4 rfl rfl | exact sub2 8 5 rfl rfl | exact sub2 8 6 rfl rfl | exact sub2 8 7 rfl rfl) (fun u52 D52 hv52 => ?_)
 obtain ⟨A52, m52, B52, d52, rfl, rfl⟩ := hv52
 refine hKd _ _ _ (hC (zE (zE (zP)))) (zN 6 (by decide +kernel) ?_)
 refine zO (I2 := [[], [], []]) rfl wanted0 (by decide +kernel) (fun Kd hKd => ?_)
 refine zR rfl rfl rfl (c64 (normalV v) (withV all name (normalV o)) k23 _ _ hpn.wf.kl hpn.wf.le (by decide)) (by first | exact sub2 0 1 rfl rfl | exact sub2 0 2 rfl rfl | exact sub2 0 3 rfl rfl | exact sub2 0 4 rfl rfl | exact sub2 0 5 rfl rfl | exact sub2 0 6 rfl rfl | exact sub2 0 7 rfl rfl | exact sub2 0 8 rfl rfl | exact sub2 1 0 rfl rfl | exact sub2 1 2 rfl rfl | exact sub2 1 3 rfl rfl | exact sub2 1 4 rfl rfl | exact sub2 1 5 rfl rfl | exact sub2 1 6 rfl rfl | exact sub2 1 7 rfl rfl | exact sub2 1 8 rfl rfl | exact sub2 2 0 rfl rfl | exact sub2 2 1 rfl rfl | exact sub2 2 3 rfl rfl | exact sub2 2 4 rfl rfl | exact sub2 2 5 rfl rfl | exact sub2 2 6 rfl rfl | exact sub2 2 7 rfl rfl | exact sub2 2 8 rfl rfl | exact sub2 3 0 rfl rfl | exact sub2 3 1 rfl rfl | exact sub2 3 2 rfl rfl | exact sub2 3 4 rfl rfl | exact sub2 3 5 rfl rfl | exact sub2 3 6 rfl rfl | exact sub2 3 7 rfl rfl | exact sub2 3 8 rfl rfl | exact sub2 4 0 rfl rfl | exact sub2 4 1 rfl rfl | exact sub2 4 2 rfl rfl | exact sub2 4 3 rfl rfl | exact sub2 4 5 rfl rfl | exact sub2 4 6 rfl rfl | exact sub2 4 7 rfl rfl | exact sub2 4 8 rfl rfl | exact sub2 5 0 rfl rfl | exact sub2 5 1 rfl rfl | exact sub2 5 2 rfl rfl | exact sub2 5 3 rfl rfl | exact sub2 5 4 rfl rfl | exact sub2 5 6 rfl rfl | exact sub2 5 7 rfl rfl | exact sub2 5 8 rfl rfl | exact sub2 6 0 rfl rfl | exact sub2 6 1 rfl rfl | exact sub2 6 2 rfl rfl | exact sub2 6 3 rfl rfl | exact sub2 6 4 rfl rfl | exact sub2 6 5 rfl rfl | exact sub2 6 7 rfl rfl | exact sub2 6 8 rfl rfl | exact sub2 7 0 rfl rfl | exact sub2 7 1 rfl rfl | exact sub2 7 2 rfl rfl | exact sub2 7 3 rfl rfl | exact sub2 7 4 rfl rfl | exact sub2 7 5 rfl rfl | exact sub2 7 6 rfl rfl | exact sub2 7 8 rfl rfl | exact sub2 8 0 rfl rfl | exact sub2 8 1 rfl rfl | exact sub2 8 2 rfl rfl | exact sub2 8 3 rfl rfl | exact sub2 8 4 rfl rfl | exact sub2 8 5 rfl rfl | exact sub2 8 6 rfl rfl | exact sub2 8 7 rfl rfl) (fun u53 D53 hv53 => ?_)
 obtain ⟨A53, m53, B53, d53, rfl, rfl⟩ := hv53
 refine hKd _ _ _ (zE (zE (zE (zP)))) (zN 7 (by decide +kernel) ?_)
 refine zO (I2 := [[], [], []]) rfl wanted0 (by decide +kernel) (fun Kd hKd => ?_)
 refine zG 2 (M' := [_, _, HA.blk _ [_, _, _, _, _] _, _, _]) rfl rfl rfl rfl si25 rfl rfl rfl (hKd _ _ _ (zE (zE (zE (zP)))) ?_)
 refine zQ (tP 8 rfl wanted0 (yY rfl) ?_)
 refine yH (by decide +kernel) (rK 0 [7, 6] rfl rfl ?_)
 refine wG (M' := [HA.blk b6 [_, _, _, _, _] 25]) (by repeat (first | exact yB _ | refine zD 0 rfl ?_ | refine zD 1 rfl ?_ | refine zD 2 rfl ?_ | refine zD 3 rfl ?_ | refine zD 4 rfl ?_ | refine zD 5 rfl ?_ | refine zD 6 rfl ?_ | refine zD 7 rfl ?_ | refine zD 8 rfl ?_)) ?_
 exact xU 0 Tryz.results29 rfl rfl rfl ag25 ⟨rfl, _, _, true, rfl, ⟨A53, m53, B53, d53, rfl, rfl⟩, fun _ => ⟨hsv, hso, all, hal, hfn, rfl⟩⟩ nS (sub1 0 rfl)
theorem l6 (fb : Addr) (v : V) (x : Value) (name : ByteArray) (hnm : name.size ≤ maxLen) (o : V) (y : Value) : CtV Tryz.prog 6 #[x, .string name, y] [.val x v, .val y o, .tab, ftA fb] (.bool true) := by
 refine Ct.of_run (args := [x, .string name, y]) Tryz.func6 (by kernel_rfl) rfl Tryz.ntmps6 rfl (fun c => ?_)
 refine xE 0 rfl (fun A1 c1 A2 c2 hx hsz1 hk1 hk2 hi1 hi2 => ?_)
 subst hx
 refine xE 3 rfl (fun A3 c3 A4 c4 hx hsz3 hk3 hk4 hi3 hi4 => ?_)
 subst hx
 refine rO 3 rfl (yJ rfl rfl rfl (fun b3 => ?_))
 refine zA (yJ rfl rfl rfl (fun b5 => ?_))
 refine oO 7 rfl (zW 1 rfl ag25 rfl rfl ?_)
 refine zA (zJ rfl rfl rfl (c19 _ v) (by first | exact sub1 0 rfl | exact sub1 1 rfl | exact sub1 2 rfl | exact sub1 3 rfl | exact sub1 4 rfl | exact sub1 5 rfl | exact sub1 6 rfl | exact sub1 7 rfl | exact sub1 8 rfl | exact sub1 9 rfl | exact sub1 10 rfl) ?_)
 refine oS 4 rfl (yC (s := 12) rfl (fun h12 => ?_) (fun h12 => ?_))
 ·refine oK 13 [21, 5, 3, 1] rfl rfl (rR 6 rfl ?_)
  exact zC Tryz.results6 rfl ⟨rfl, rfl, rfl⟩ nS (fun _ h => by cases h)
 refine oO 3 rfl (wH st9 rfl rfl ?_)
 refine zH rfl rfl (wJ rfl rfl rfl ?_)
 refine oS 4 rfl (yA (s := 17) rfl (fun h17 => ?_) (fun h17 => ?_))
 ·refine oK 6 [21, 5, 3, 1] rfl rfl (rR 6 rfl ?_)
  exact zC Tryz.results6 rfl ⟨rfl, rfl, rfl⟩ nS (fun _ h => by cases h)
 refine zH rfl rfl (zW 0 rfl ag25 rfl rfl ?_)
 refine zH rfl rfl (zJ rfl rfl rfl (c19 _ o) (by first | exact sub1 0 rfl | exact sub1 1 rfl | exact sub1 2 rfl | exact sub1 3 rfl | exact sub1 4 rfl | exact sub1 5 rfl | exact sub1 6 rfl | exact sub1 7 rfl | exact sub1 8 rfl | exact sub1 9 rfl | exact sub1 10 rfl) ?_)
 refine oK 5 [21, 5, 3, 1] rfl rfl (yQ rfl (fun h21 => ?_) (fun h21 => ?_))
 ·refine rR 5 rfl ?_
  exact zC Tryz.results6 rfl ⟨rfl, rfl, rfl⟩ nS (fun _ h => by cases h)
 refine rO 4 rfl (zW 1 rfl ag25 rfl rfl ?_)
 refine oO 3 rfl (zW 0 rfl ag25 rfl rfl ?_)
 refine zA ?_
 refine zR rfl rfl rfl (c29 v o name _ _ hnm) (by first | exact sub2 0 1 rfl rfl | exact sub2 0 2 rfl rfl | exact sub2 0 3 rfl rfl | exact sub2 0 4 rfl rfl | exact sub2 0 5 rfl rfl | exact sub2 0 6 rfl rfl | exact sub2 0 7 rfl rfl | exact sub2 0 8 rfl rfl | exact sub2 1 0 rfl rfl | exact sub2 1 2 rfl rfl | exact sub2 1 3 rfl rfl | exact sub2 1 4 rfl rfl | exact sub2 1 5 rfl rfl | exact sub2 1 6 rfl rfl | exact sub2 1 7 rfl rfl | exact sub2 1 8 rfl rfl | exact sub2 2 0 rfl rfl | exact sub2 2 1 rfl rfl | exact sub2 2 3 rfl rfl | exact sub2 2 4 rfl rfl | exact sub2 2 5 rfl rfl | exact sub2 2 6 rfl rfl | exact sub2 2 7 rfl rfl | exact sub2 2 8 rfl rfl | exact sub2 3 0 rfl rfl | exact sub2 3 1 rfl rfl | exact sub2 3 2 rfl rfl | exact sub2 3 4 rfl rfl | exact sub2 3 5 rfl rfl | exact sub2 3 6 rfl rfl | exact sub2 3 7 rfl rfl | exact sub2 3 8 rfl rfl | exact sub2 4 0 rfl rfl | exact sub2 4 1 rfl rfl | exact sub2 4 2 rfl rfl | exact sub2 4 3 rfl rfl | exact sub2 4 5 rfl rfl | exact sub2 4 6 rfl rfl | exact sub2 4 7 rfl rfl | exact sub2 4 8 rfl rfl | exact sub2 5 0 rfl rfl | exact sub2 5 1 rfl rfl | exact sub2 5 2 rfl rfl | exact sub2 5 3 rfl rfl | exact sub2 5 4 rfl rfl | exact sub2 5 6 rfl rfl | exact sub2 5 7 rfl rfl | exact sub2 5 8 rfl rfl | exact sub2 6 0 rfl rfl | exact sub2 6 1 rfl rfl | exact sub2 6 2 rfl rfl | exact sub2 6 3 rfl rfl | exact sub2 6 4 rfl rfl | exact sub2 6 5 rfl rfl | exact sub2 6 7 rfl rfl | exact sub2 6 8 rfl rfl | exact sub2 7 0 rfl rfl | exact sub2 7 1 rfl rfl | exact sub2 7 2 rfl rfl | exact sub2 7 3 rfl rfl | exact sub2 7 4 rfl rfl | exact sub2 7 5 rfl rfl | exact sub2 7 6 rfl rfl | exact sub2 7 8 rfl rfl | exact sub2 8 0 rfl rfl | exact sub2 8 1 rfl rfl | exact sub2 8 2 rfl rfl | exact sub2 8 3 rfl rfl | exact sub2 8 4 rfl rfl | exact sub2 8 5 rfl rfl | exact sub2 8 6 rfl rfl | exact sub2 8 7 rfl rfl) (fun u26 D26 hv26 => ?_)
 obtain ⟨z26, t26, ok26, rfl, ⟨A26, m26, B26, d26, rfl, rfl⟩, hok26⟩ := hv26
 refine oO 7 rfl (zT ze25 rfl (fun b7 => ?_))
 change RunOps _ _ _ _ _ _ _ _ (HA.blk _ [_, _, _, _, _] _ :: _) _
 refine zA (zG 0 (M' := [HA.blk _ [_, _, _, _, _] _, _, _]) rfl rfl rfl rfl si25 rfl rfl rfl ?_)
 refine oS 12 rfl (yC (s := 31) rfl (fun h31 => ?_) (fun h31 => ?_))
 ·refine oK 6 [35, 7, 5, 3, 1] rfl rfl (rR 6 rfl ?_)
  exact zC Tryz.results6 rfl ⟨rfl, rfl, rfl⟩ nS (fun _ h => by cases h)
 obtain ⟨hsv, hso, al, hal, hno, htt⟩ := hok26 (by simpa using h31)
 refine zH rfl rfl (zW 0 rfl ag25 rfl rfl ?_)
 refine zH rfl rfl (zJ rfl rfl rfl (c20 t26 _) (by first | exact sub1 0 rfl | exact sub1 1 rfl | exact sub1 2 rfl | exact sub1 3 rfl | exact sub1 4 rfl | exact sub1 5 rfl | exact sub1 6 rfl | exact sub1 7 rfl | exact sub1 8 rfl | exact sub1 9 rfl | exact sub1 10 rfl) ?_)
 refine oK 5 [35, 7, 5, 3, 1] rfl rfl (yQ rfl (fun h35 => ?_) (fun h35 => ?_))
 ·refine rR 5 rfl ?_
  exact zC Tryz.results6 rfl ⟨rfl, rfl, rfl⟩ nS (fun _ h => by cases h)
 have hst : IsSchemaV t26 := yM.1 (by simpa using h35)
 have hv : Sch v := ⟨⟨12, hsv.1.1⟩, hsv.2⟩
 have ho : Sch o := ⟨⟨12, hso.1.1⟩, hso.2⟩
 subst htt
 have hc : Sch (addedV v name o al) := ⟨⟨12, hst.1.1⟩, hst.2⟩
 have hpw := pl_wr hc.2 hc.1
 refine rR 2 rfl (yU yG ?_)
 refine zQ (tP 1 rfl wanted0 (zU rfl) ?_)
 refine yD (tM 0 rfl wanted0 (vH 2 rfl ag25 rfl) ?_)
 refine tM 2 rfl wanted0 (vH 1 rfl ag25 rfl) (tM 4 rfl wanted0 (vH 0 rfl ag25 rfl) ?_)
 refine zN 3 (by decide +kernel) ?_
 refine zO (I2 := [[4], [], []]) rfl wanted0 (by decide +kernel) (fun Kd hKd => ?_)
 refine zR rfl rfl rfl (c30 fb v o al name _ _ hv ho hnm hal hno hc) (by intro d hd; simp only [List.mem_cons, List.not_mem_nil, or_false] at hd ⊢; rcases hd with rfl | rfl | rfl | rfl <;> simp) (fun u39 D39 hv39 => ?_)
 obtain ⟨A39, m39, B39, d39, rfl, rfl⟩ := hv39
 refine hKd _ _ _ (hC (zE (zE (zP)))) (zN 5 (by decide +kernel) ?_)
 refine zO (I2 := [[], [], []]) rfl wanted0 (by decide +kernel) (fun Kd hKd => ?_)
 refine zJ rfl rfl rfl (c27 (wr (addedV v name o al)) (addedV v name o al) hpw.wf hc.1.wf _ _ _ _ _) (by first | exact sub2 0 1 rfl rfl | exact sub2 0 2 rfl rfl | exact sub2 0 3 rfl rfl | exact sub2 0 4 rfl rfl | exact sub2 0 5 rfl rfl | exact sub2 0 6 rfl rfl | exact sub2 0 7 rfl rfl | exact sub2 0 8 rfl rfl | exact sub2 1 0 rfl rfl | exact sub2 1 2 rfl rfl | exact sub2 1 3 rfl rfl | exact sub2 1 4 rfl rfl | exact sub2 1 5 rfl rfl | exact sub2 1 6 rfl rfl | exact sub2 1 7 rfl rfl | exact sub2 1 8 rfl rfl | exact sub2 2 0 rfl rfl | exact sub2 2 1 rfl rfl | exact sub2 2 3 rfl rfl | exact sub2 2 4 rfl rfl | exact sub2 2 5 rfl rfl | exact sub2 2 6 rfl rfl | exact sub2 2 7 rfl rfl | exact sub2 2 8 rfl rfl | exact sub2 3 0 rfl rfl | exact sub2 3 1 rfl rfl | exact sub2 3 2 rfl rfl | exact sub2 3 4 rfl rfl | exact sub2 3 5 rfl rfl | exact sub2 3 6 rfl rfl | exact sub2 3 7 rfl rfl | exact sub2 3 8 rfl rfl | exact sub2 4 0 rfl rfl | exact sub2 4 1 rfl rfl | exact sub2 4 2 rfl rfl | exact sub2 4 3 rfl rfl | exact sub2 4 5 rfl rfl | exact sub2 4 6 rfl rfl | exact sub2 4 7 rfl rfl | exact sub2 4 8 rfl rfl | exact sub2 5 0 rfl rfl | exact sub2 5 1 rfl rfl | exact sub2 5 2 rfl rfl | exact sub2 5 3 rfl rfl | exact sub2 5 4 rfl rfl | exact sub2 5 6 rfl rfl | exact sub2 5 7 rfl rfl | exact sub2 5 8 rfl rfl | exact sub2 6 0 rfl rfl | exact sub2 6 1 rfl rfl | exact sub2 6 2 rfl rfl | exact sub2 6 3 rfl rfl | exact sub2 6 4 rfl rfl | exact sub2 6 5 rfl rfl | exact sub2 6 7 rfl rfl | exact sub2 6 8 rfl rfl | exact sub2 7 0 rfl rfl | exact sub2 7 1 rfl rfl | exact sub2 7 2 rfl rfl | exact sub2 7 3 rfl rfl | exact sub2 7 4 rfl rfl | exact sub2 7 5 rfl rfl | exact sub2 7 6 rfl rfl | exact sub2 7 8 rfl rfl | exact sub2 8 0 rfl rfl | exact sub2 8 1 rfl rfl | exact sub2 8 2 rfl rfl | exact sub2 8 3 rfl rfl | exact sub2 8 4 rfl rfl | exact sub2 8 5 rfl rfl | exact sub2 8 6 rfl rfl | exact sub2 8 7 rfl rfl) (hKd _ _ _ (zE (zE (zE (zP)))) ?_)
 refine zQ (tP 6 rfl wanted0 (yY rfl) ?_)
 refine yH (by decide +kernel) (rK 0 [6] rfl rfl ?_)
 exact zC Tryz.results6 rfl ⟨congrArg Value.bool (tb_t ((bare_wr _).trans (congrArg bareV (added_fix hv ho hal hc)))), rfl, rfl⟩ nS (fun _ h => by cases h)
end Go.Jw

namespace Go.Jw
open Go Go.RowKit Go.Proofs Go.ChangeShapes Go.WideShapes Go.Proofs.YtlcfillobkdnmaaGreatDoor
set_option maxRecDepth 8000
theorem lt_of_cell {w : World} {a : Addr} {v : Value} (h : w.cell? a = some v) : a.block < w.heap.size := by
 rcases Nat.lt_or_ge a.block w.heap.size with hlt | hge
 ·exact hlt
 ·unfold World.cell? at h
  rw [Array.getElem?_eq_none hge] at h
  simp at h
theorem ce9 : Tryz.prog.cellsOf 9 = 1 := by kernel_rfl
theorem ce25 : Tryz.prog.cellsOf 25 = 5 := by kernel_rfl
theorem ce2 : Tryz.prog.cellsOf 2 = 1 := by kernel_rfl
theorem ce22 : Tryz.prog.cellsOf 22 = 1 := by kernel_rfl
theorem ce23 : Tryz.prog.cellsOf 23 = 1 := by kernel_rfl
section
variable {H : Type} {enc : TypeId × Value → H} {W : World} {held : Bool}
theorem strs_of_trod {n : Nat} {kv : Value} {x : DataW H × List MemPlace} (h : DataW.trod enc Tryz.prog W 0 (fun _ => true) held n 22 [kv] = some x) : ∃ ks, StrsP W (· < W.heap.size) kv ks := by
 rcases open_strings Tryz.underlying22 Tryz.underlying9 ce9 h with ⟨h1, _⟩ | ⟨a, len, cap, ss, h1, _, hl, hc, hs, _, hg, hsz⟩
 ·injection h1 with h1
  exact ⟨[], none, 0, h1, Nat.le_refl _, Nat.zero_le _, (fun s hs => by cases hs), fun i s hi => by simp at hi⟩
 ·injection h1 with h1
  simp only [if_true] at hs
  have hlen : (ss.take len).length = len := by rw [List.length_take]; omega
  refine ⟨ss.take len, some a, cap, by rw [hlen]; exact h1, by omega, hc, fun s hm => hsz s (List.mem_of_mem_take hm), fun i s hi => ?_⟩
  have hil : i < len := by
   have := (List.getElem?_eq_some_iff.1 hi).1
   omega
  have hi' : ss[i]? = some s := by rw [← hi, List.getElem?_take]; simp [hil]
  have hcell := hg i (by omega)
  have hd : ss.getD i ByteArray.empty = s := by rw [List.getD_eq_getElem?_getD, hi']; rfl
  rw [hd] at hcell
  exact ⟨a, rfl, by have := lt_of_cell hcell; rwa [uD] at this, by rw [Nat.mul_one]; exact hcell⟩
theorem bulk_sum : ∀ (l : List V) (l' : List (DataW H)), l.length = l'.length → (∀ (i : Nat) t d, l[i]? = some t → l'[i]? = some d → 2 * nodes t ≤ Rows.uptoBulk d) → 2 * (l.map nodes).sum ≤ Rows.uptoBulkAll l'
  | [], _, _, _ => Nat.zero_le _
  | t :: l, [], h, _ => by simp at h
  | t :: l, d :: l', h, hi => by
    have h1 := hi 0 t d rfl rfl
    have h2 := bulk_sum l l' (by simpa using h) (fun i t d a b => hi (i + 1) t d (by simpa using a) (by simpa using b))
    simp only [List.map_cons, List.sum_cons, Rows.uptoBulkAll]
    omega
theorem val_of_trod (n : Nat) : ∀ (cs : List Value) (x : DataW H × List MemPlace), DataW.trod enc Tryz.prog W 0 (fun _ => true) held n 25 cs = some x → ∃ t, ValP W (· < W.heap.size) t (.agg cs.toArray) ∧ 2 * nodes t ≤ Rows.uptoBulk x.1 := by
  induction n using Nat.strongRecOn with
  | _ n IH =>
    intro cs x h
    obtain ⟨xs, m, hm, rfl, hl, hlen, hf⟩ := DataW.trod_struct Tryz.underlying25 h
    rw [ce25] at hl
    match cs, hl with
    | [c0, c1, c2, c3, c4], _ =>
    match xs, hlen with
    | [y0, y1, y2, y3, y4], _ =>
    have h0 : DataW.trod enc Tryz.prog W 0 (fun _ => true) held m 2 [c0] = some y0 := by simpa [ce2] using hf 0 _ rfl
    have h1 : DataW.trod enc Tryz.prog W 0 (fun _ => true) held m 2 [c1] = some y1 := by simpa [ce2] using hf 1 _ rfl
    have h2 : DataW.trod enc Tryz.prog W 0 (fun _ => true) held m 9 [c2] = some y2 := by simpa [ce9] using hf 2 _ rfl
    have h3 : DataW.trod enc Tryz.prog W 0 (fun _ => true) held m 22 [c3] = some y3 := by simpa [ce22] using hf 3 _ rfl
    have h4 : DataW.trod enc Tryz.prog W 0 (fun _ => true) held m 23 [c4] = some y4 := by simpa [ce23] using hf 4 _ rfl
    obtain ⟨k, e0, g0⟩ := DataW.trod_int Tryz.underlying2 h0
    obtain ⟨q, e1, _⟩ := DataW.trod_int Tryz.underlying2 h1
    obtain ⟨s, e2, _, hs⟩ := DataW.trod_string Tryz.underlying9 h2
    obtain ⟨ks, hks⟩ := strs_of_trod h3
    injection e0 with e0; injection e1 with e1; injection e2 with e2
    subst e0; subst e1; subst e2
    have hy0 : Rows.uptoBulk y0.1 = 1 := by rw [g0.1]; simp [Rows.uptoBulk]
    have hbulk : Rows.uptoBulk y4.1 + 2 ≤ Rows.uptoBulk (DataW.agg [y0.1, y1.1, y2.1, y3.1, y4.1]) := by
      simp only [Rows.uptoBulk, Rows.uptoBulkAll]
      omega
    show ∃ t, _ ∧ 2 * nodes t ≤ Rows.uptoBulk (DataW.agg [y0.1, y1.1, y2.1, y3.1, y4.1])
    rcases DataW.trod_slice Tryz.underlying23 h4 with ⟨h5, _⟩ | ⟨a, len, cap, elems, rest, m', hm', h5, h6, hb, hle, hc, hln, hel, hsp, _⟩
    · injection h5 with h5
      refine ⟨.mk k q s ks [], ?_, ?_⟩
      · simp only [ValP]
        exact ⟨_, _, rfl, hs, hks, none, 0, h5, Nat.le_refl _, Nat.zero_le _, by simp [ItemsP]⟩
      · rw [nodes_eq]; simp only [imk, List.map_nil, List.sum_nil]; omega
    · injection h5 with h5
      have hall : ∀ i, ∃ t, i < len → ∃ csi, ∃ y, elems[i]? = some y ∧ W.cells? 0 (a.add (i * 5)) 5 = some csi ∧ ValP W (· < W.heap.size) t (.agg csi.toArray) ∧ 2 * nodes t ≤ Rows.uptoBulk y.1 := by
        intro i
        by_cases hi : i < len
        · have he := hel i hi
          rw [ce25, List.getElem?_eq_getElem (by omega)] at he
          obtain ⟨csi, hcs, htr⟩ := Option.bind_eq_some_iff.1 he
          obtain ⟨t, ht, hnt⟩ := IH m' (by omega) csi _ htr
          exact ⟨t, fun _ => ⟨csi, _, List.getElem?_eq_getElem (by omega), hcs, ht, hnt⟩⟩
        · exact ⟨zV0, fun h => absurd h hi⟩
      obtain ⟨f, hfa⟩ := Classical.axiomOfChoice hall
      have hget : ∀ j t, ((List.range len).map f)[j]? = some t → j < len ∧ t = f j := by
        intro j t hj
        rw [List.getElem?_map] at hj
        obtain ⟨z, hz, rfl⟩ := Option.map_eq_some_iff.1 hj
        obtain ⟨h1, h2⟩ := List.getElem?_eq_some_iff.1 hz
        rw [List.getElem_range] at h2
        rw [List.length_range] at h1
        exact ⟨h1, by rw [h2]⟩
      refine ⟨.mk k q s ks ((List.range len).map f), ?_, ?_⟩
      · simp only [ValP]
        refine ⟨_, _, rfl, hs, hks, some a, cap, by rw [List.length_map, List.length_range]; exact h5, by rw [List.length_map, List.length_range]; exact hle, hc, ItemsP.of_get fun j t hj => ?_⟩
        obtain ⟨hjl, rfl⟩ := hget j t hj
        obtain ⟨csi, y, _, hcs, hv, _⟩ := hfa j hjl
        obtain ⟨_, hcl, hcc⟩ := World.cells?_some hcs
        have hadd : ∀ q, (a.add (j * 5)).add q = a.add ((0 + j) * 5 + q) := fun q => by rw [Nat.zero_add]; exact add_add' a _ _
        refine ⟨a, .agg csi.toArray, rfl, ?_, fun q u hq => ?_, hv⟩
        · have := hcc 0 (by omega)
          rw [List.getElem?_eq_getElem (by omega)] at this
          have := lt_of_cell this
          rwa [uD, uD] at this
        · have hq' : csi[q]? = some u := by simpa [Value.cells] using hq
          have hql := (List.getElem?_eq_some_iff.1 hq').1
          rw [← hadd, hcc q (by omega)]
          exact hq'
      · have hsum := bulk_sum ((List.range len).map f) (elems.map (·.1)) (by simp; omega) (fun i t d ht hd => by
          obtain ⟨hil, rfl⟩ := hget i t ht
          obtain ⟨csi, y, hy, _, _, hn⟩ := hfa i hil
          rw [List.getElem?_map, hy] at hd
          injection hd with hd
          rw [← hd]; exact hn)
        rw [nodes_eq]
        simp only [imk]
        have : Rows.uptoBulkAll (elems.map (·.1)) ≤ Rows.uptoBulk y4.1 := by
          rw [h6]
          simp only [Rows.uptoBulk]
          omega
        omega
end
theorem qS {P : Program} {w : World} {n : String} {d : DataW Unit} : ∀ {l : List (String × DataW Unit)} {ps : List MemPlace}, DataW.LaidVars P w l ps → (n, d) ∈ l →
    ∃ g t cs fuel p, P.globalNamed n = some g ∧ (P.globals[g]?).map (·.type) = some t ∧ w.var? P n = some cs ∧ DataW.trod (fun _ => ()) P w 0 (fun _ => true) false fuel t cs.toList = some (d, p)
  | [], _, _, h => by cases h
  | (n', d') :: l, ps, ⟨g, t, cs, fuel, p, q, h1, h2, h3, h4, h5, _⟩, h => by
    rcases List.mem_cons.1 h with h | h
    · injection h with h h'
      subst h; subst h'
      exact ⟨g, t, cs, fuel, p, h1, h2, h3, h4⟩
    · exact qS h5 h
theorem gU : Tryz.prog.globalNamed "internal/strconv.uint64pow10" = some 0 := by kernel_rfl
theorem gUt : (Tryz.prog.globals[0]?).map (·.type) = some 270 := by kernel_rfl
theorem ce235 : Tryz.prog.cellsOf 235 = 1 := by kernel_rfl
theorem ce270 : Tryz.prog.cellsOf 270 = 20 := by kernel_rfl
theorem tab_of {W : World} {l : List (String × DataW Unit)} (h : laidMet Tryz.prog l W) (hm : ("internal/strconv.uint64pow10", Rows.laid_internal_strconv_uint64pow10) ∈ l) : DA.tab.p W (· < W.heap.size) := by
  obtain ⟨ps, hv, _⟩ := h
  obtain ⟨g, t, cs, fuel, p, h1, h2, h3, h4⟩ := qS hv hm
  obtain rfl := Option.some.inj (gU.symm.trans h1)
  obtain rfl := Option.some.inj (gUt.symm.trans h2)
  have hc := Lib.cells_of_tab (zs := Lib.pow10Tab) Tryz.underlying270 Tryz.underlying235 ce235 ce270 h4
  unfold World.var? at h3
  rw [h1] at h3
  simp only [Option.bind_some] at h3
  cases hh : W.heap[0]? with
  | none => rw [hh] at h3; cases h3
  | some o =>
    rw [hh] at h3
    cases o with
    | cells c T fz =>
      simp at h3
      subst h3
      refine ⟨0, T, fz, gU, (Array.getElem?_eq_some_iff.1 hh).1, ?_⟩
      rw [hh, ← hc]
    | _ => simp at h3
def DA.any : DA := ⟨fun _ _ => True, fun _ _ _ => trivial⟩
theorem calls_of {f : FuncId} {args : Array Value} {D : List DA} {v : Value} {W : World} (h : CtV Tryz.prog f args D v) (hD : ∀ d ∈ D, d.p W (· < W.heap.size)) : Calls Tryz.prog f args W fun e W' => e = .returned v ∧ Below W.heap.size W W' :=
 (h.2 W (· < W.heap.size) (fun k hk => ⟨hk, by simp [foots]⟩) (by simp) (by simp [foots]) hD).mono fun e W' ⟨u, M', D', he, ⟨hu, hM, hd⟩, hc, _⟩ => ⟨by rw [he, hu], hc.below⟩
theorem laidOut : laidOutB Tryz.prog = true := by kernel_rfl
end Go.Jw

namespace Go.Jw
open Go Go.RowKit Go.Proofs Go.ChangeShapes Go.WideShapes Go.Proofs.YtlcfillobkdnmaaGreatDoor
set_option maxRecDepth 20000
section
variable {W : World}
noncomputable abbrev trodU (W : World) (fuel : Nat) (t : TypeId) (cs : List Value) := DataW.trod (fun _ => ()) Tryz.prog W 0 (fun _ => true) false fuel t cs
theorem var_of {l : List (String × DataW Unit)} (h : laidMet Tryz.prog l W) {n : String} {d : DataW Unit} (hm : (n, d) ∈ l) {g t : Nat} (hg : Tryz.prog.globalNamed n = some g) (ht : (Tryz.prog.globals[g]?).map (·.type) = some t) :
    ∃ (c : Array Value) (fuel : Nat) (p : List MemPlace), (∀ (i : Nat) v, c.toList[i]? = some v → W.cell? ⟨g, i, none⟩ = some v) ∧ trodU W fuel t c.toList = some (d, p) := by
  obtain ⟨ps, hv, _⟩ := h
  obtain ⟨g', t', cs, fuel, p, h1, h2, h3, h4⟩ := qS hv hm
  obtain rfl := Option.some.inj (hg.symm.trans h1)
  obtain rfl := Option.some.inj (ht.symm.trans h2)
  refine ⟨cs, fuel, p, fun i v hi => ?_, h4⟩
  unfold World.var? at h3
  rw [h1] at h3
  simp only [Option.bind_some] at h3
  unfold World.cell?
  cases hh : W.heap[g]? with
  | none => rw [hh] at h3; cases h3
  | some o =>
    rw [hh] at h3
    cases o with
    | cells c T fz =>
      simp at h3
      subst h3
      simpa using hi
    | _ => simp at h3
theorem trod_fl {fuel : Nat} {t : TypeId} {cs : List Value} {x : DataW Unit × List MemPlace} (ht : Tryz.prog.underlying t = some (.float .f64)) (h : trodU W fuel t cs = some x) : ∃ b, cs = [.float .f64 b] ∧ x = (.lit (.float .f64 b), []) := by
  cases fuel with
  | zero => simp [trodU, DataW.trod] at h
  | succ n =>
    unfold trodU DataW.trod at h
    rw [ht] at h
    split at h <;> simp_all
theorem ce359 : Tryz.prog.cellsOf 359 = 2 := by kernel_rfl
theorem ce360 : Tryz.prog.cellsOf 360 = 1392 := by kernel_rfl
theorem ce214 : Tryz.prog.cellsOf 214 = 1 := by kernel_rfl
theorem get1 {cs : List Value} {o : Nat} {v : Value} (h : (cs.drop o).take 1 = [v]) : cs[o]? = some v := by
 have := congrArg (·[0]?) h
 simpa [List.getElem?_take, List.getElem?_drop] using this
theorem pair_of {fuel : Nat} {cs : List Value} {x : DataW Unit × List MemPlace} {a b : Int} (h : trodU W fuel 359 cs = some x) (hx : x.1 = .agg [.lit (.int .u64 a), .lit (.int .u64 b)]) : cs[0]? = some (.int .u64 a) ∧ cs[1]? = some (.int .u64 b) := by
  obtain ⟨xs, n, _, rfl, _, hl, hf⟩ := DataW.trod_struct Tryz.underlying359 h
  have h0 := hf 0 _ rfl
  have h1 := hf 1 _ rfl
  have hxs : xs.map (·.1) = [.lit (.int .u64 a), .lit (.int .u64 b)] := by
    have := hx
    simpa using this
  match xs, hxs with
  | [y0, y1], hxs =>
    simp only [List.map_cons, List.map_nil, List.cons.injEq, and_true] at hxs
    obtain ⟨m0, e0, f0, _⟩ := DataW.trod_int Tryz.underlying235 h0
    obtain ⟨m1, e1, f1, _⟩ := DataW.trod_int Tryz.underlying235 h1
    subst f0; subst f1
    simp only [DataW.lit.injEq, Lit.int.injEq, true_and] at hxs
    obtain ⟨rfl, rfl⟩ := hxs
    exact ⟨get1 (o := 0) e0, get1 (o := 1) e1⟩
theorem row_of {fuel : Nat} {cs : List Value} {p : List MemPlace} (h : trodU W fuel 360 cs = some (Go.Pinned.pow10Tab, p)) (i : Nat) (hi : i < 696) {a b : Nat} (hr : Go.Pinned.pow10Rows[i]? = some (a, b)) : cs[2 * i]? = some (.int .u64 a) ∧ cs[2 * i + 1]? = some (.int .u64 b) := by
  cases fuel with
  | zero => simp [trodU, DataW.trod] at h
  | succ fuel =>
    simp only [trodU, DataW.trod, Tryz.underlying360, ce359, ce360] at h
    split at h
    · obtain ⟨xs, hm, hx⟩ := Option.map_eq_some_iff.1 h
      obtain ⟨y, hy, hf⟩ := Lib.mapM_at hm i i (by simp [hi])
      have hxs : xs.map (·.1) = Go.Pinned.pow10Rows.map fun x => .agg [.lit (.int .u64 x.1), .lit (.int .u64 x.2)] := by
        have := congrArg Prod.fst hx
        simpa [Go.Pinned.pow10Tab] using this
      have hy1 : y.1 = .agg [.lit (.int .u64 (a : Int)), .lit (.int .u64 (b : Int))] := by
        have := congrArg (·[i]?) hxs
        simp only [List.getElem?_map, hy, hr, Option.map_some, Option.some.injEq] at this
        exact this
      obtain ⟨h0, h1⟩ := pair_of hf hy1
      rw [List.getElem?_take, if_pos (by omega), List.getElem?_drop] at h0 h1
      rw [Nat.mul_comm 2 i]
      exact ⟨h0, h1⟩
    · cases h
theorem p10Tab (i : Nat) (h : i < 20) : Lib.pow10Tab[i]? = some ((10 ^ i : Nat) : Int) := (show ∀ i, i < 20 → Lib.pow10Tab[i]? = some ((10 ^ i : Nat) : Int) by decide) i h
theorem g4 : Tryz.prog.globalNamed "internal/strconv.optimize" = some 4 := by kernel_rfl
theorem g4t : (Tryz.prog.globals[4]?).map (·.type) = some 4 := by kernel_rfl
theorem g5 : Tryz.prog.globalNamed "internal/strconv.float64info" = some 5 := by kernel_rfl
theorem g5t : (Tryz.prog.globals[5]?).map (·.type) = some 305 := by kernel_rfl
theorem g10 : Tryz.prog.globalNamed "internal/strconv.float64pow10" = some 10 := by kernel_rfl
theorem g10t : (Tryz.prog.globals[10]?).map (·.type) = some 349 := by kernel_rfl
theorem g11 : Tryz.prog.globalNamed "internal/strconv.pow10Tab" = some 11 := by kernel_rfl
theorem g11t : (Tryz.prog.globals[11]?).map (·.type) = some 360 := by kernel_rfl
theorem r354 : Go.Pinned.pow10Rows[354]? = some (17592186044416000000, 0) := by kernel_rfl
theorem r355 : Go.Pinned.pow10Rows[355]? = some (10995116277760000000, 0) := by kernel_rfl
theorem ft_of {l : List (String × DataW Unit)} (h : laidMet Tryz.prog l W) (m0 : ("internal/strconv.uint64pow10", Rows.laid_internal_strconv_uint64pow10) ∈ l) (m4 : ("internal/strconv.optimize", Rows.laid_internal_strconv_optimize) ∈ l)
  (m5 : ("internal/strconv.float64info", Rows.laid_internal_strconv_float64info) ∈ l) (m10 : ("internal/strconv.float64pow10", Rows.laid_internal_strconv_float64pow10) ∈ l) (m11 : ("internal/strconv.pow10Tab", Rows.laid_internal_strconv_pow10Tab) ∈ l) :
  ∃ fb, (ftA fb).p W (· < W.heap.size) := by
 obtain ⟨c0, fu0, p0, k0, t0⟩ := var_of h m0 gU gUt
 obtain ⟨c4, fu4, p4, k4, t4⟩ := var_of h m4 g4 g4t
 obtain ⟨c5, fu5, p5, k5, t5⟩ := var_of h m5 g5 g5t
 obtain ⟨c10, fu10, p10, k10, t10⟩ := var_of h m10 g10 g10t
 obtain ⟨c11, fu11, p11, k11, t11⟩ := var_of h m11 g11 g11t
 have e0 := Lib.cells_of_tab (zs := Lib.pow10Tab) Tryz.underlying270 Tryz.underlying235 ce235 ce270 t0
 obtain ⟨b4, e4, f4⟩ := DataW.trod_bool Tryz.underlying4 t4
 have hb4 : b4 = true := by
  have := congrArg Prod.fst f4
  simp only [Rows.laid_internal_strconv_optimize, DataW.lit.injEq, Lit.bool.injEq] at this
  exact this.symm
 obtain ⟨xs5, n5, _, f5, _, _, hf5⟩ := DataW.trod_struct Tryz.underlying305 t5
 have h50 := hf5 0 _ rfl
 have hx5 : (xs5.map (·.1))[0]? = some (.lit (.int .u64 52)) := by
  have := congrArg Prod.fst f5
  simp only [Rows.laid_internal_strconv_float64info, DataW.agg.injEq] at this
  rw [← this]; rfl
 rw [List.getElem?_map] at hx5
 obtain ⟨y5, hy5, hy51⟩ := Option.map_eq_some_iff.1 hx5
 rw [hy5] at h50
 obtain ⟨m5v, e5, fy5, _⟩ := DataW.trod_int Tryz.underlying206 h50
 have hm5 : m5v = 52 := by
  rw [fy5] at hy51
  simp only [DataW.lit.injEq, Lit.int.injEq, true_and] at hy51
  exact hy51
 obtain ⟨h708, h709⟩ := row_of t11 354 (by decide) r354
 obtain ⟨h710, h711⟩ := row_of t11 355 (by decide) r355
 rcases DataW.trod_slice Tryz.underlying349 t10 with ⟨_, hx⟩ | ⟨a, len, cap, elems, rest, n10, _, e10, f10, _, hlc, _, hel, hell, hrest, _⟩
 ·have := congrArg Prod.fst hx
  simp [Rows.laid_internal_strconv_float64pow10] at this
 have hd := congrArg Prod.fst f10
 simp only [Rows.laid_internal_strconv_float64pow10, DataW.slice.injEq] at hd
 obtain ⟨hd1, hd2⟩ := hd
 have hlen : len = 23 := by
  rw [← hel]
  have := congrArg List.length hd1
  simpa using this.symm
 have hcap : cap = 23 := by
  have h1 := (hrest rfl).1
  have h2 : rest = [] := List.map_eq_nil_iff.1 hd2.symm
  rw [h2] at h1
  simp only [List.length_nil] at h1
  omega
 have hfl : ∀ i m, i < 23 → (elems.map (·.1))[i]? = some (.lit (.float .f64 m)) → W.cell? (a.add i) = some (.float .f64 m) := fun i m hi hm => by
  rw [List.getElem?_map] at hm
  obtain ⟨y, hy, hy1⟩ := Option.map_eq_some_iff.1 hm
  have h1 := hell i (by omega)
  rw [hy, ce214, Nat.mul_one] at h1
  obtain ⟨cs, hcs, ht⟩ := Option.bind_eq_some_iff.1 h1
  obtain ⟨q, rfl, fq⟩ := trod_fl Tryz.underlying214 ht
  rw [fq] at hy1
  simp only [DataW.lit.injEq, Lit.float.injEq, true_and] at hy1
  subst hy1
  unfold World.cells? at hcs
  split at hcs
  ·obtain ⟨v, hv, hv2⟩ := Lib.mapM_at hcs 0 0 rfl
   simp only [List.getElem?_cons_zero, Option.some.injEq] at hv
   rw [hv]
   simpa [Addr.add] using hv2
  ·cases hcs
 rw [← hd1] at hfl
 refine ⟨a, tab_of h m0, fun q hq => ?_⟩
 suffices hc : W.cell? q.1 = some q.2 from ⟨lt_of_cell hc, hc⟩
 simp only [ftL, List.cons_append, List.nil_append, List.mem_cons, List.mem_map, List.mem_range] at hq
 rcases hq with rfl | rfl | rfl | rfl | rfl | rfl | rfl | rfl | rfl | rfl | ⟨i, hi, rfl⟩
 ·exact k4 0 _ (by rw [e4, hb4]; rfl)
 ·exact k5 0 _ (by rw [← hm5]; exact get1 (o := 0) e5)
 ·exact k10 0 _ (by rw [e10, hlen, hcap]; rfl)
 ·exact hfl 1 _ (by decide) rfl
 ·exact hfl 2 _ (by decide) rfl
 ·exact hfl 6 _ (by decide) rfl
 ·exact k11 708 _ h708
 ·exact k11 709 _ h709
 ·exact k11 710 _ h710
 ·exact k11 711 _ h711
 ·exact k0 i _ (by rw [e0, List.getElem?_map, p10Tab i hi]; rfl)
end
end Go.Jw

namespace Go.Jw
open Go Go.Proofs Go.Proofs.YtlcfillobkdnmaaGreatDoor
set_option maxRecDepth 100000
theorem ty_later : Tryz.prog.laidByTextLater (Rows.fnTextedRow.laid.take 11) [.data, .data, .widerDeep, .widerDeep, .data, .data, .data, .data, .data, .sentinel, .sentinel] true :=
 Program.laidByTextLater_by_one 91 8 65 (by kernel_rfl) (by kernel_rfl) (by kernel_rfl) (by kernel_rfl) (by kernel_rfl) (by kernel_rfl) (fun _ _ => by kernel_rfl)
theorem ty_pin1 : Tryz.pinned.checked.prog.pinnedFits "internal/strconv.leftcheats" = true := by kernel_rfl
theorem ty_pin2 : Tryz.pinned.checked.prog.pinnedFits "internal/strconv.pow10Tab" = true := by kernel_rfl
theorem ty_own : Tryz.pinned.checked.prog.headLifts.contains "ownunsafe" = false := by kernel_rfl
theorem ty_fits : Tryz.pinned.checked.prog.listedFits Rows.fnTextedRow.laid = true := by
 unfold Program.listedFits
 rw [ty_own]
 kernel_rfl
theorem ty_row (c : OpenClaim) (hl : c.laid = Rows.fnTextedRow.laid) (hs : c.start = .entering) :
    c.laidByTextAt .later Tryz.pinned [.data, .data, .widerDeep, .widerDeep, .data, .data, .data, .data, .data, .sentinel, .sentinel, .pinned, .pinned] true :=
  OpenClaim.laidByTextAt_pinned (by rw [hl]; rfl) hs ty_later rfl (by rw [hl]; rfl) (by rw [hl]; rfl) rfl (fun y hy _e => by
    rw [hl] at hy
    simp only [Rows.fnTextedRow, List.zip_cons_cons, List.zip_nil_right, List.mem_cons, List.mem_nil_iff, or_false] at hy
    rcases hy with rfl | rfl | rfl | rfl | rfl | rfl | rfl | rfl | rfl | rfl | rfl | rfl | rfl
    iterate 11 exact nomatch _e
    exact ⟨ty_pin1, by kernel_rfl⟩
    exact ⟨ty_pin2, by kernel_rfl⟩) (by rw [hl]; exact ty_fits)
end Go.Jw

namespace Go.Jw
open Go Go.RowKit Go.Proofs Go.ChangeShapes Go.WideShapes Go.ChangeAt Go.Proofs.YtlcfillobkdnmaaGreatDoor
set_option maxRecDepth 8000
theorem post_of_below {H : Type} {enc : TypeId × Value → H} {P : Program} {f : Func} {s : ChangeSpec} {apart fresh handsOn again : Bool} {W W' : World} {args : Array Value} {v : Value} {ds gs : List (DataW H)} {before pa pv : List MemPlace}
  (hW : DataW.Whole enc P f.params.toList s.vars apart W args.toList ds gs before)
  (hres : ∀ (b : Nat) (sp : Nat → Bool) (hd : Bool), DataW.TrodAll enc P W' b sp hd f.resultTypes.toList (v.resultList f.resultTypes.size) (s.fn H (ds ++ gs)).results [])
  (hargs : ∀ sp : Nat → Bool, (∀ p ∈ before, sp p.block = true) → DataW.TrodAll enc P W' 0 sp true f.params.toList args.toList (s.fn H (ds ++ gs)).args pa)
  (hvars : ∀ sp : Nat → Bool, (∀ p ∈ before, sp p.block = true) → DataW.TrodVars enc P W' sp s.vars (s.fn H (ds ++ gs)).vars pv)
  (hps : before = pa ++ pv) (hb : Below W.heap.size W W')
  (hok : ∀ (j : Nat) (t : TypeId) (r : Value), f.resultTypes[j]? = some t → (v.resultList f.resultTypes.size)[j]? = some r → Value.okWide P W' .any 0 t r) :
  s.post enc P f apart fresh handsOn again W args v W' := by
 have hlt := hW.lt
 have hold : ∀ p ∈ before, (fun b => decide (b < W.heap.size)) p.block = true := fun p hp => by simpa using hlt p hp
 refine ⟨ds, gs, before, [], pa, pv, hW, hres _ _ _, hargs _ hold, hvars _ hold, hb.frame _, fun _ => ?_⟩
 obtain ⟨_, _, _, _, _, hz, hn⟩ := hW
 refine ⟨hok, _, _, ([] ++ pa) ++ pv, ⟨[] ++ pa, pv, trodAll_append (hargs _ (fun _ _ => rfl)) (hres _ _ _), hvars _ (fun _ _ => rfl), rfl, ?_, ?_⟩, ?_⟩
 ·intro b off hp
  have hp' : MemPlace.cell b off ∈ before := by rw [hps]; simpa using hp
  rw [hb.frozen (p := ⟨b, off, none⟩) (hlt _ hp')]
  exact hz b off hp'
 ·intro ha
  have := hn ha
  rw [hps] at this
  simpa using this
 ·intro p hp _
  rw [hps]
  simpa using hp
theorem own : ownKnob Tryz.prog.godebug = none := by kernel_rfl
theorem rd25 : Tryz.prog.readableRec 25 = true := by kernel_rfl
theorem lt25 : 25 < Tryz.prog.types.size := of_decide_eq_true (by kernel_rfl)
theorem met_eq (W : World) : laidMetH Tryz.prog Rows.fnTextedUptoRow.laid W = laidMet Tryz.prog Rows.fnTextedUptoRow.laid W := by kernel_rfl
end Go.Jw

namespace Go.Jw
open Go Go.RowKit Go.Proofs Go.ChangeShapes Go.WideShapes Go.ChangeAt Go.Proofs.YtlcfillobkdnmaaGreatDoor
set_option maxRecDepth 100000
theorem cell1 {v c : Value} (h : ∀ cs, v ≠ .agg cs) (hc : v.cells.toList = [c]) : v = c := by
 cases v <;> simp_all [Value.cells]
theorem contract6 (H : Type) (enc : TypeId × Value → H) (W : World) (base : Nat) (args : Array Value) (ds gs : List (DataW H)) (before : List MemPlace)
  (hval : ∀ (j : Nat) t v, Tryz.f6.params[j]? = some t → args[j]? = some v → Value.okWide Tryz.prog W .any base t v)
  (hW : DataW.Whole enc Tryz.prog Tryz.f6.params.toList Rows.fnAddedSpec.vars false W args.toList ds gs before) (hL : laidMetH Tryz.prog Rows.fnAddedRow.laid W) :
  Calls Tryz.prog 6 args W fun e W' => ∃ v, e = .returned v ∧ Rows.fnAddedSpec.post enc Tryz.prog Tryz.f6 false true false false W args v W' := by
 have hW' := hW
 obtain ⟨p, q, hA0, hV, rfl, hfz, hnd⟩ := hW
 have hA : DataW.TrodAll enc Tryz.prog W 0 (fun _ => true) true Tryz.f6.params.toList args.toList ds p := hA0
 rw [Tryz.params6] at hA hval
 obtain ⟨v0, v1, v2, d0, d1, d2, p0, p1, p2, rfl, rfl, rfl, h0, h1, h2⟩ := trodAll_three hA
 have hvo0 := hval 0 25 v0 rfl rfl
 unfold Value.okWide at hvo0
 rw [Tryz.underlying25] at hvo0
 obtain ⟨cs0, rfl, _⟩ := hvo0
 obtain ⟨fuel0, hf0⟩ := id h0
 obtain ⟨t0, hv0, _⟩ := val_of_trod fuel0 _ _ hf0
 have hv0' : ValP W (· < W.heap.size) t0 (.agg cs0) := by simpa [Value.cells] using hv0
 obtain ⟨fuel1, hf1⟩ := id h1
 obtain ⟨s1, hb1, hx1, hs1⟩ := DataW.trod_string Tryz.underlying9 hf1
 have hv1 : v1 = .string s1 := cell1 (fun cs e => by
  have ho := hval 1 9 v1 rfl rfl
  subst e
  unfold Value.okWide at ho
  rw [Tryz.underlying9] at ho
  exact absurd ho (by unfold Cell.okWide; rw [Tryz.underlying9]; simp [Cell.ok, Tryz.underlying9])) hb1
 subst hv1
 obtain ⟨rfl, rfl⟩ : d1 = .lit (.string s1.data.toList) ∧ p1 = [] := by
  injection hx1 with e1 e2
  exact ⟨e1, e2⟩
 have hvo2 := hval 2 25 v2 rfl rfl
 unfold Value.okWide at hvo2
 rw [Tryz.underlying25] at hvo2
 obtain ⟨cs2, rfl, _⟩ := hvo2
 obtain ⟨fuel2, hf2⟩ := id h2
 obtain ⟨t2, hv2, _⟩ := val_of_trod fuel2 _ _ hf2
 have hv2' : ValP W (· < W.heap.size) t2 (.agg cs2) := by simpa [Value.cells] using hv2
 obtain ⟨rfl, rfl⟩ := trodVars_none hV
 clear hA0
 simp only [List.append_nil] at hW'
 have hL' : laidMet Tryz.prog Rows.fnTextedUptoRow.laid W := by rw [← met_eq]; exact hL
 have htab := tab_of hL' (.tail _ (.tail _ (.tail _ (.tail _ (.tail _ (.tail _ (.tail _ (.tail _ (.head _)))))))))
 obtain ⟨fb, hft⟩ := ft_of hL' (.tail _ (.tail _ (.tail _ (.tail _ (.tail _ (.tail _ (.tail _ (.tail _ (.head _))))))))) (.tail _ (.tail _ (.tail _ (.tail _ (.head _))))) (.tail _ (.tail _ (.tail _ (.head _)))) (.tail _ (.tail _ (.tail _ (.tail _ (.tail _ (.tail _ (.head _)))))))
  (.tail _ (.tail _ (.tail _ (.tail _ (.tail _ (.tail _ (.tail _ (.tail _ (.tail _ (.tail _ (.tail _ (.tail _ (.head _)))))))))))))
 have hc := calls_of (W := W) (l6 fb t0 (.agg cs0) s1 hs1 t2 (.agg cs2)) (by
  intro d hd
  rcases List.mem_cons.1 hd with rfl | hd
  ·exact hv0'
  rcases List.mem_cons.1 hd with rfl | hd
  ·exact hv2'
  rcases List.mem_cons.1 hd with rfl | hd
  ·exact htab
  rcases List.mem_cons.1 hd with rfl | hd
  ·exact hft
  ·cases hd)
 refine hc.mono fun e W' ⟨he, hb⟩ => ?_
 subst he
 have hlt := hW'.lt
 exact ⟨_, rfl, post_of_below (pa := p0 ++ ([] ++ p2)) (pv := []) hW' (fun _ _ _ => trodAll_cons_mk (shut_bool Tryz.underlying4 _) trodAll_mk0)
  (fun sp hs => trodAll_mk3 (Go.WideElems.Trod_stays laidOut rd25 lt25 h0 (fun x hx => hb.same (hlt x (by simp [hx]))) (fun x hx => hs x (by simp [hx]))) (Go.ChangeMaps.shut_string Tryz.underlying9 hs1) (Go.WideElems.Trod_stays laidOut rd25 lt25 h2 (fun x hx => hb.same (hlt x (by simp [hx]))) (fun x hx => hs x (by simp [hx])))) (fun _ _ => rfl) (by simp) hb (ok_one (by kernel_rfl) rfl (okWide_bool_mk Tryz.underlying4 _))⟩
end Go.Jw

namespace Go.Jw
open Go Go.RowKit Go.Proofs Go.ChangeShapes Go.WideShapes Go.Proofs.YtlcfillobkdnmaaGreatDoor
set_option maxRecDepth 100000
def setG (h : Array Obj) (g : Nat) (cs : List Value) : Array Obj := h.modify g fun
  | .cells _ t fr => .cells cs.toArray t fr
  | o => o
def wBlocks : Array Obj := #[.cells #[.string ⟨#[105, 110, 118, 97, 108, 105, 100, 32, 115, 121, 110, 116, 97, 120]⟩] 228 (0, 0), .cells #[.string ⟨#[118, 97, 108, 117, 101, 32, 111, 117, 116, 32, 111, 102, 32, 114, 97, 110, 103, 101]⟩] 228 (0, 0),
 .cells ([.float .f32 1065353216, .float .f32 1092616192, .float .f32 1120403456, .float .f32 1148846080, .float .f32 1176256512, .float .f32 1203982336, .float .f32 1232348160, .float .f32 1259902592, .float .f32 1287568416, .float .f32 1315859240, .float .f32 1343554297] : List Value).toArray 288 (0, 0), .cells ([.int .i64 1, .int .i64 3, .int .i64 6, .int .i64 9, .int .i64 13, .int .i64 16, .int .i64 19, .int .i64 23, .int .i64 26] : List Value).toArray 3 (0, 0), .cells ([.float .f64 4607182418800017408, .float .f64 4621819117588971520, .float .f64 4636737291354636288, .float .f64 4652007308841189376, .float .f64 4666723172467343360, .float .f64 4681608360884174848, .float .f64 4696837146684686336, .float .f64 4711630319722168320, .float .f64 4726483295884279808, .float .f64 4741671816366391296, .float .f64 4756540486875873280, .float .f64 4771362005757984768, .float .f64 4786511204640096256, .float .f64 4801453603149578240, .float .f64 4816244402031689728, .float .f64 4831355200913801216, .float .f64 4846369599423283200, .float .f64 4861130398305394688, .float .f64 4876203697187506176, .float .f64 4891288408196988160, .float .f64 4906019910204099648, .float .f64 4921056587992461136, .float .f64 4936209963552724370] : List Value).toArray 214 (0, 0),
 .cells (Pinned.cheatRows.flatMap fun x => [Value.int .i64 x.1, Value.string ⟨x.2.toArray⟩]).toArray 365 (0, 0)]
noncomputable def laidWorld (os : Os) : World := { World.holding Tryz.prog os ⟨wBlocks, #[], []⟩ with heap := (setG (setG (setG (setG (setG (setG (setG (setG (setG (setG (setG (setG (setG (World.holding Tryz.prog os ⟨wBlocks, #[], []⟩).heap 0 [.int .u64 1, .int .u64 10, .int .u64 100, .int .u64 1000, .int .u64 10000, .int .u64 100000, .int .u64 1000000, .int .u64 10000000, .int .u64 100000000, .int .u64 1000000000, .int .u64 10000000000, .int .u64 100000000000, .int .u64 1000000000000, .int .u64 10000000000000, .int .u64 100000000000000, .int .u64 1000000000000000, .int .u64 10000000000000000, .int .u64 100000000000000000, .int .u64 1000000000000000000, .int .u64 10000000000000000000]) 1 [.iface 226 (.pointer (some ⟨18, 0, none⟩))]) 2 [.iface 226 (.pointer (some ⟨19, 0, none⟩))]) 3 [.int .u64 23, .int .u64 8, .int .i64 (-127)]) 4 [.bool true]) 5 [.int .u64 52, .int .u64 11, .int .i64 (-1023)]) 6 [.int .u8 0, .int .u8 1, .int .u8 28, .int .u8 2, .int .u8 29, .int .u8 14, .int .u8 24, .int .u8 3, .int .u8 30, .int .u8 22, .int .u8 20, .int .u8 15, .int .u8 25, .int .u8 17, .int .u8 4, .int .u8 8, .int .u8 31, .int .u8 27, .int .u8 13, .int .u8 23, .int .u8 21, .int .u8 19, .int .u8 16, .int .u8 7, .int .u8 26, .int .u8 12, .int .u8 18, .int .u8 6, .int .u8 11, .int .u8 5, .int .u8 10, .int .u8 9]) 7 [.int .u8 0, .int .u8 1, .int .u8 56, .int .u8 2, .int .u8 57, .int .u8 49, .int .u8 28, .int .u8 3, .int .u8 61, .int .u8 58, .int .u8 42, .int .u8 50, .int .u8 38, .int .u8 29, .int .u8 17, .int .u8 4, .int .u8 62, .int .u8 47, .int .u8 59, .int .u8 36, .int .u8 45, .int .u8 43, .int .u8 51, .int .u8 22, .int .u8 53, .int .u8 39, .int .u8 33, .int .u8 30, .int .u8 24, .int .u8 18, .int .u8 12, .int .u8 5, .int .u8 63, .int .u8 55, .int .u8 48, .int .u8 27, .int .u8 60, .int .u8 41, .int .u8 37, .int .u8 16, .int .u8 46, .int .u8 35, .int .u8 44, .int .u8 21, .int .u8 52, .int .u8 32, .int .u8 23, .int .u8 11, .int .u8 54, .int .u8 26, .int .u8 40, .int .u8 15, .int .u8 34, .int .u8 20, .int .u8 31, .int .u8 10, .int .u8 25, .int .u8 14, .int .u8 19, .int .u8 9, .int .u8 13, .int .u8 8, .int .u8 7, .int .u8 6]) 8 [.slice (some ⟨20, 0, none⟩) 11 11]) 9 [.slice (some ⟨21, 0, none⟩) 9 9]) 10 [.slice (some ⟨22, 0, none⟩) 23 23]) 11 (Pinned.pow10Rows.flatMap fun x => [Value.int .u64 x.1, Value.int .u64 x.2])) 12 [.slice (some ⟨23, 0, none⟩) Pinned.cheatRows.length Pinned.cheatRows.length]) }
def inB (bs : List Nat) (ps : List MemPlace) : Bool := ps.all fun
  | .cell b _ => bs.contains b
  | .map _ => true
end Go.Jw

namespace Go.Jw
open Go Go.RowKit Go.Proofs Go.Proofs.YtlcfillobkdnmaaGreatDoor
set_option maxRecDepth 100000
theorem okRow_of {P : Program} {w : World} {t u : TypeId} {cs : List Value} {n : Nat} (ht : P.cellTypes P.depth t = some (List.replicate n u)) (hn : cs.length = n) (h0 : 0 < n) (h : cs.all (Cell.okRefB P w u) = true) : Row.okRefB P w t cs.toArray = true := by
 unfold Row.okRefB
 rw [ht]
 simp only [List.length_replicate, List.size_toArray, Bool.and_eq_true, List.all_eq_true, List.mem_range]
 refine ⟨by rw [hn]; simp, fun i hi => ?_⟩
 have hm : i % n < n := Nat.mod_lt _ h0
 rw [List.getElem?_toArray, List.getElem?_eq_getElem hi, List.getElem?_replicate, if_pos hm]
 exact List.all_eq_true.1 h _ (List.getElem_mem hi)
def oneB (P : Program) (w₀ w : World) (g : Nat) : Bool := match (w₀.heap[g]?).bind Obj.row? with
  | none => true
  | some (zero, t) => match w.heap[g]? with
    | some (.cells cs t' frozen) => decide (t' = t) && decide (frozen = (0, 0)) && cs.size == zero.size && (!P.buildable t || Row.okRefB P w t cs)
    | _ => false
theorem vars_of {P : Program} {w : World} (h : ∀ g, g < P.globals.size → oneB P (begin P (fun _ _ => 0) default).world w g = true) : w.variablesRefB P = true := by
 unfold World.variablesRefB
 exact List.all_eq_true.2 fun g hg => h g (List.mem_range.1 hg)
theorem oneB_of {P : Program} {w₀ w : World} {g : Nat} {zero : Array Value} {t : TypeId} {cs : List Value} (h0 : (w₀.heap[g]?).bind Obj.row? = some (zero, t)) (h1 : w.heap[g]? = some (.cells cs.toArray t (0, 0))) (hz : cs.length = zero.size) (h2 : Row.okRefB P w t cs.toArray = true) : oneB P w₀ w g = true := by
 unfold oneB
 rw [h0, h1]
 simp [hz, h2]
theorem vg0 (os : Os) (args : Array Value) : oneB Tryz.prog (begin Tryz.prog (fun _ _ => 0) default).world ((laidWorld os).forCall (fun _ _ => 0) ⟨#[], args, []⟩) 0 = true := by kernel_rfl
theorem vg1 (os : Os) (args : Array Value) : oneB Tryz.prog (begin Tryz.prog (fun _ _ => 0) default).world ((laidWorld os).forCall (fun _ _ => 0) ⟨#[], args, []⟩) 1 = true := by kernel_rfl
theorem vg2 (os : Os) (args : Array Value) : oneB Tryz.prog (begin Tryz.prog (fun _ _ => 0) default).world ((laidWorld os).forCall (fun _ _ => 0) ⟨#[], args, []⟩) 2 = true := by kernel_rfl
theorem vg3 (os : Os) (args : Array Value) : oneB Tryz.prog (begin Tryz.prog (fun _ _ => 0) default).world ((laidWorld os).forCall (fun _ _ => 0) ⟨#[], args, []⟩) 3 = true := by kernel_rfl
theorem vg4 (os : Os) (args : Array Value) : oneB Tryz.prog (begin Tryz.prog (fun _ _ => 0) default).world ((laidWorld os).forCall (fun _ _ => 0) ⟨#[], args, []⟩) 4 = true := by kernel_rfl
theorem vg5 (os : Os) (args : Array Value) : oneB Tryz.prog (begin Tryz.prog (fun _ _ => 0) default).world ((laidWorld os).forCall (fun _ _ => 0) ⟨#[], args, []⟩) 5 = true := by kernel_rfl
theorem vg6 (os : Os) (args : Array Value) : oneB Tryz.prog (begin Tryz.prog (fun _ _ => 0) default).world ((laidWorld os).forCall (fun _ _ => 0) ⟨#[], args, []⟩) 6 = true := by kernel_rfl
theorem vg7 (os : Os) (args : Array Value) : oneB Tryz.prog (begin Tryz.prog (fun _ _ => 0) default).world ((laidWorld os).forCall (fun _ _ => 0) ⟨#[], args, []⟩) 7 = true := by kernel_rfl
theorem vg8 (os : Os) (args : Array Value) : oneB Tryz.prog (begin Tryz.prog (fun _ _ => 0) default).world ((laidWorld os).forCall (fun _ _ => 0) ⟨#[], args, []⟩) 8 = true := by kernel_rfl
theorem vg9 (os : Os) (args : Array Value) : oneB Tryz.prog (begin Tryz.prog (fun _ _ => 0) default).world ((laidWorld os).forCall (fun _ _ => 0) ⟨#[], args, []⟩) 9 = true := by kernel_rfl
theorem vg10 (os : Os) (args : Array Value) : oneB Tryz.prog (begin Tryz.prog (fun _ _ => 0) default).world ((laidWorld os).forCall (fun _ _ => 0) ⟨#[], args, []⟩) 10 = true := by kernel_rfl
theorem vg12 (os : Os) (args : Array Value) : oneB Tryz.prog (begin Tryz.prog (fun _ _ => 0) default).world ((laidWorld os).forCall (fun _ _ => 0) ⟨#[], args, []⟩) 12 = true := by kernel_rfl
def pw : List Value := Pinned.pow10Rows.flatMap fun x => [Value.int .u64 x.1, Value.int .u64 x.2]
theorem v11z : ∃ zero, ((begin Tryz.prog (fun _ _ => 0) default).world.heap[11]?).bind Obj.row? = some (zero, 360) ∧ zero.size = 1392 := ⟨(Array.replicate 1392 (.int .u64 0)), by kernel_rfl, by kernel_rfl⟩
theorem v11h (os : Os) (args : Array Value) : ((laidWorld os).forCall (fun _ _ => 0) ⟨#[], args, []⟩).heap[11]? = some (.cells pw.toArray 360 (0, 0)) := by kernel_rfl
theorem v11t : Tryz.prog.cellTypes Tryz.prog.depth 360 = some (List.replicate 1392 235) := by kernel_rfl
theorem v11l : pw.length = 1392 := by kernel_rfl
theorem v11a (w : World) : pw.all (Cell.okRefB Tryz.prog w 235) = true := by kernel_rfl
theorem vg11 (os : Os) (args : Array Value) : oneB Tryz.prog (begin Tryz.prog (fun _ _ => 0) default).world ((laidWorld os).forCall (fun _ _ => 0) ⟨#[], args, []⟩) 11 = true := by
 obtain ⟨z, h0, hz⟩ := v11z
 exact oneB_of h0 (v11h os args) (by rw [hz]; exact v11l) (okRow_of v11t v11l (by decide) (v11a _))
theorem vars_ref (os : Os) (args : Array Value) : World.variablesRefB Tryz.prog ((laidWorld os).forCall (fun _ _ => 0) ⟨#[], args, []⟩) = true := vars_of fun g hg => by
  have h13 : Tryz.prog.globals.size = 13 := by kernel_rfl
  rw [h13] at hg
  match g, hg with
  | 0, _ => exact vg0 os args
  | 1, _ => exact vg1 os args
  | 2, _ => exact vg2 os args
  | 3, _ => exact vg3 os args
  | 4, _ => exact vg4 os args
  | 5, _ => exact vg5 os args
  | 6, _ => exact vg6 os args
  | 7, _ => exact vg7 os args
  | 8, _ => exact vg8 os args
  | 9, _ => exact vg9 os args
  | 10, _ => exact vg10 os args
  | 11, _ => exact vg11 os args
  | 12, _ => exact vg12 os args
end Go.Jw

namespace Go.Jw
open Go Go.RowKit Go.Proofs Go.ChangeShapes Go.WideShapes Go.Proofs.YtlcfillobkdnmaaGreatDoor
set_option maxRecDepth 100000
section
variable {P : Program} {w : World}
theorem qT {α β : Type} {f : α → Option β} {h : α → β} : ∀ (l : List α), (∀ x ∈ l, f x = some (h x)) → l.mapM f = some (l.map h)
  | [], _ => rfl
  | a :: l, H => by
    rw [List.mapM_cons, H a List.mem_cons_self, qT l (fun x hx => H x (List.mem_cons_of_mem _ hx))]
    rfl
theorem wcell_lit {b off : Nat} {T : TypeId} {cs : List Value} (h : w.heap[b]? = some (.cells cs.toArray T (0, 0))) : w.cell? ⟨b, off, none⟩ = cs[off]? := by
 unfold World.cell?
 simp [h]
theorem wcells_lit {b off n : Nat} {T : TypeId} {cs : List Value} (h : w.heap[b]? = some (.cells cs.toArray T (0, 0))) (hn : off + n ≤ cs.length) : w.cells? 0 ⟨b, off, none⟩ n = some ((cs.drop off).take n) := by
  unfold World.cells?
  rw [if_pos (Nat.zero_le _), qT (h := fun i => cs.getD (off + i) (.bool false)) (List.range n) (fun i hi => ?_)]
  · congr 1
    apply List.ext_getElem?
    intro j
    rw [List.getElem?_map, List.getElem?_take, List.getElem?_drop]
    by_cases hj : j < n
    · rw [if_pos hj, List.getElem?_range hj]
      simp [List.getD_eq_getElem?_getD, List.getElem?_eq_getElem (show off + j < cs.length by omega)]
    · rw [if_neg hj, List.getElem?_eq_none (by simpa using hj)]
      rfl
  · have hi' := List.mem_range.1 hi
    have : (⟨b, off, none⟩ : Addr).add i = ⟨b, off + i, none⟩ := by
      unfold Addr.add
      by_cases h0 : i = 0
      · subst h0; rfl
      · rw [if_neg h0]
    rw [this, wcell_lit h, List.getD_eq_getElem?_getD, List.getElem?_eq_getElem (show off + i < cs.length by omega)]
    rfl
variable {H : Type} {enc : TypeId × Value → H} {sp : Nat → Bool} {held : Bool}
theorem trod_sliceL {fuel : Nat} {t e : TypeId} {b n k : Nat} {T : TypeId} {cs : List Value} {g : Nat → DataW H} (ht : P.underlying t = some (.slice e)) (hk : P.cellsOf e = k) (hb : w.heap[b]? = some (.cells cs.toArray T (0, 0))) (hl : cs.length = n * k) (hn : n ≤ maxLen)
  (he : ∀ i, i < n → DataW.trod enc P w 0 sp held fuel e ((cs.drop (i * k)).take k) = some (g i, [])) : DataW.trod enc P w 0 sp held (fuel + 1) t [.slice (some ⟨b, 0, none⟩) n n] = some (.slice ((List.range n).map g) [], MemPlace.row ⟨b, 0, none⟩ (n * k)) := by
 subst hk
 have hel : ∀ i ∈ List.range n, (w.cells? 0 ((⟨b, 0, none⟩ : Addr).add (i * P.cellsOf e)) (P.cellsOf e)).bind (DataW.trod enc P w 0 sp held fuel e) = some ((g i, []) : DataW H × List MemPlace) := by
  intro i hi
  have hi' := List.mem_range.1 hi
  have : (⟨b, 0, none⟩ : Addr).add (i * P.cellsOf e) = ⟨b, i * P.cellsOf e, none⟩ := by
   unfold Addr.add
   by_cases h0 : i * P.cellsOf e = 0
   ·rw [if_pos h0, h0]
   ·rw [if_neg h0, Nat.zero_add]
  have hle : i * P.cellsOf e + P.cellsOf e ≤ cs.length := by
   rw [hl]
   have := Nat.mul_le_mul_right (P.cellsOf e) (show i + 1 ≤ n by omega)
   rw [Nat.succ_mul] at this
   exact this
  rw [this, wcells_lit hb hle, Option.bind_some, he i hi']
 unfold DataW.trod
 simp only [ht]
 rw [if_pos ⟨Nat.zero_le _, Nat.le_refl _, hn⟩, qT _ hel]
 simp [Nat.sub_self]
theorem trod_arrayL {fuel : Nat} {t e : TypeId} {n k : Nat} {cs : List Value} {g : Nat → DataW H} (ht : P.underlying t = some (.array n e)) (hk : P.cellsOf e = k) (hl : cs.length = P.cellsOf t)
  (he : ∀ i, i < n → DataW.trod enc P w 0 sp held fuel e ((cs.drop (i * k)).take k) = some (g i, [])) : DataW.trod enc P w 0 sp held (fuel + 1) t cs = some (.agg ((List.range n).map g), []) := by
 subst hk
 have hel : ∀ i ∈ List.range n, DataW.trod enc P w 0 sp held fuel e ((cs.drop (i * P.cellsOf e)).take (P.cellsOf e)) = some ((g i, []) : DataW H × List MemPlace) := fun i hi => he i (List.mem_range.1 hi)
 unfold DataW.trod
 simp only [ht]
 rw [if_pos hl, qT _ hel]
 simp
theorem vI {n : String} {d : DataW Unit} {r : List (String × DataW Unit)} {p q : List MemPlace} {g t T : Nat} {cs : List Value} (fuel : Nat) (hg : P.globalNamed n = some g) (ht : (P.globals[g]?).map (·.type) = some t) (hh : w.heap[g]? = some (.cells cs.toArray T (0, 0)))
  (hd : DataW.trod (fun _ => ()) P w 0 (fun _ => true) false fuel t cs = some (d, p)) (hr : DataW.LaidVars P w r q) : DataW.LaidVars P w ((n, d) :: r) (MemPlace.row ⟨g, 0, none⟩ cs.length ++ p ++ q) :=
 ⟨g, t, cs.toArray, fuel, p, q, hg, ht, by unfold World.var?; rw [hg]; simp [hh], by simpa using hd, hr, by simp⟩
def wplainB : Value → Bool
  | .iface .. => false
  | _ => true
theorem xW {b off : Nat} {T : TypeId} {cs : List Value} (h : w.heap[b]? = some (.cells cs.toArray T (0, 0))) (hn : cs.all wplainB = true) :
  (∃ c t, w.heap[b]? = some (.cells c t (0, 0))) ∧ ∀ u v, w.cell? ⟨b, off, none⟩ = some (.iface u v) → Value.okWide P w .any 0 u v := by
 refine ⟨⟨_, _, h⟩, fun u v hc => ?_⟩
 rw [wcell_lit h] at hc
 have := List.all_eq_true.1 hn _ (List.mem_of_getElem? hc)
 cases this
theorem wgood_one {b off : Nat} {T u : TypeId} {v : Value} (h : w.heap[b]? = some (.cells [.iface u v].toArray T (0, 0))) (hn : Value.okWideB P w u v = true) :
  (∃ c t, w.heap[b]? = some (.cells c t (0, 0))) ∧ ∀ u' v', w.cell? ⟨b, off, none⟩ = some (.iface u' v') → Value.okWide P w .any 0 u' v' := by
 refine ⟨⟨_, _, h⟩, fun u' v' hc => ?_⟩
 rw [wcell_lit h] at hc
 have := List.mem_of_getElem? hc
 simp only [List.mem_singleton, Value.iface.injEq] at this
 obtain ⟨rfl, rfl⟩ := this
 exact Value.okWide_of_okWideB hn
end
theorem wflat_at {α : Type} (f : α → List Value) (k : Nat) (hf : ∀ x, (f x).length = k) : ∀ (l : List α) (i : Nat) (h : i < l.length), ((l.flatMap f).drop (i * k)).take k = f l[i]
  | [], i, h => by simp at h
  | x :: l, 0, _ => by simp [List.flatMap_cons, ← hf x]
  | x :: l, i + 1, h => by
    rw [List.flatMap_cons, Nat.succ_mul, Nat.add_comm, ← List.drop_drop, List.drop_append_of_le_length (by rw [hf x]; exact Nat.le_refl _), ← hf x, List.drop_length, List.nil_append, hf x]
    exact wflat_at f k hf l i (by simpa using h)
theorem wflat_len {α : Type} (f : α → List Value) (k : Nat) (hf : ∀ x, (f x).length = k) (l : List α) : (l.flatMap f).length = l.length * k := by
  induction l with
  | nil => simp
  | cons x l ih => rw [List.flatMap_cons, List.length_append, hf, ih, List.length_cons, Nat.succ_mul, Nat.add_comm]
theorem wrange_get {α β : Type} [Inhabited α] (f : α → β) (l : List α) : (List.range l.length).map (fun i => f (l.getD i default)) = l.map f := by
  apply List.ext_getElem?
  intro j
  rw [List.getElem?_map, List.getElem?_map]
  by_cases h : j < l.length
  · rw [List.getElem?_range h, List.getElem?_eq_getElem h]
    simp [List.getD_eq_getElem?_getD, h]
  · rw [List.getElem?_eq_none (by simpa using h), List.getElem?_eq_none (by simpa using h)]
    rfl
def wlitOf : Value → DataW Unit
  | .int k n => .lit (.int k n)
  | .float k b => .lit (.float k b)
  | _ => .nil
def wlitB (d : TypeDesc) : Value → Bool
  | .int k n => (match d with | .int k' => decide (k = k') | _ => false) && (Lit.int k n).wf
  | .float k n => (match d with | .float k' => decide (k = k') | _ => false) && (Lit.float k n).wf
  | _ => false
theorem wtrod_lit {P : Program} {w : World} {sp : Nat → Bool} {held : Bool} {fuel : Nat} {e : TypeId} {d : TypeDesc} {v : Value} (he : P.underlying e = some d) (h : wlitB d v = true) : DataW.trod (fun _ => ()) P w 0 sp held (fuel + 1) e [v] = some (wlitOf v, []) := by
 unfold DataW.trod
 cases v <;> simp [wlitB] at h <;> cases d <;> simp at h <;> (obtain ⟨rfl, h2⟩ := h; simp [he, wlitOf, h2])
theorem pP {P : Program} {w : World} {fuel : Nat} {t e : TypeId} {d : TypeDesc} {b n : Nat} {T : TypeId} {cs : List Value} (ht : P.underlying t = some (.slice e)) (he : P.underlying e = some d) (hk : P.cellsOf e = 1) (hb : w.heap[b]? = some (.cells cs.toArray T (0, 0))) (hl : cs.length = n) (hn : n ≤ maxLen) (hs : cs.all (wlitB d) = true) :
    DataW.trod (fun _ => ()) P w 0 (fun _ => true) false (fuel + 2) t [.slice (some ⟨b, 0, none⟩) n n] = some (.slice (cs.map wlitOf) [], MemPlace.row ⟨b, 0, none⟩ n) := by
  subst hl
  have := trod_sliceL (P := P) (w := w) (enc := fun _ => ()) (sp := fun _ => true) (held := false) (fuel := fuel + 1) (k := 1) (n := cs.length) (g := fun i => wlitOf (cs.getD i (.bool false))) ht hk hb (by omega) hn (fun i hi => by
    have h1 : (cs.drop (i * 1)).take 1 = [cs[i]] := by rw [Nat.mul_one, List.drop_eq_getElem_cons hi]; rfl
    rw [h1, wtrod_lit he (List.all_eq_true.1 hs _ (List.getElem_mem hi)), List.getD_eq_getElem?_getD, List.getElem?_eq_getElem hi]
    rfl)
  rw [this, Nat.mul_one]
  congr 2
  have h2 : (List.range cs.length).map (fun i => wlitOf (cs.getD i (.bool false))) = cs.map wlitOf := @wrange_get _ _ ⟨.bool false⟩ wlitOf cs
  rw [h2]
def pwF (x : Nat × Nat) : List Value := [Value.int .u64 x.1, Value.int .u64 x.2]
def chF (x : Nat × List UInt8) : List Value := [Value.int .i64 x.1, Value.string ⟨x.2.toArray⟩]
def wc0 : List Value := [.int .u64 1, .int .u64 10, .int .u64 100, .int .u64 1000, .int .u64 10000, .int .u64 100000, .int .u64 1000000, .int .u64 10000000, .int .u64 100000000, .int .u64 1000000000, .int .u64 10000000000, .int .u64 100000000000, .int .u64 1000000000000, .int .u64 10000000000000, .int .u64 100000000000000, .int .u64 1000000000000000, .int .u64 10000000000000000, .int .u64 100000000000000000, .int .u64 1000000000000000000, .int .u64 10000000000000000000]
def wc1 : List Value := [.iface 226 (.pointer (some ⟨18, 0, none⟩))]
def wc2 : List Value := [.iface 226 (.pointer (some ⟨19, 0, none⟩))]
def wc3 : List Value := [.int .u64 23, .int .u64 8, .int .i64 (-127)]
def wc4 : List Value := [.bool true]
def wc5 : List Value := [.int .u64 52, .int .u64 11, .int .i64 (-1023)]
def wc6 : List Value := [.int .u8 0, .int .u8 1, .int .u8 28, .int .u8 2, .int .u8 29, .int .u8 14, .int .u8 24, .int .u8 3, .int .u8 30, .int .u8 22, .int .u8 20, .int .u8 15, .int .u8 25, .int .u8 17, .int .u8 4, .int .u8 8, .int .u8 31, .int .u8 27, .int .u8 13, .int .u8 23, .int .u8 21, .int .u8 19, .int .u8 16, .int .u8 7, .int .u8 26, .int .u8 12, .int .u8 18, .int .u8 6, .int .u8 11, .int .u8 5, .int .u8 10, .int .u8 9]
def wc7 : List Value := [.int .u8 0, .int .u8 1, .int .u8 56, .int .u8 2, .int .u8 57, .int .u8 49, .int .u8 28, .int .u8 3, .int .u8 61, .int .u8 58, .int .u8 42, .int .u8 50, .int .u8 38, .int .u8 29, .int .u8 17, .int .u8 4, .int .u8 62, .int .u8 47, .int .u8 59, .int .u8 36, .int .u8 45, .int .u8 43, .int .u8 51, .int .u8 22, .int .u8 53, .int .u8 39, .int .u8 33, .int .u8 30, .int .u8 24, .int .u8 18, .int .u8 12, .int .u8 5, .int .u8 63, .int .u8 55, .int .u8 48, .int .u8 27, .int .u8 60, .int .u8 41, .int .u8 37, .int .u8 16, .int .u8 46, .int .u8 35, .int .u8 44, .int .u8 21, .int .u8 52, .int .u8 32, .int .u8 23, .int .u8 11, .int .u8 54, .int .u8 26, .int .u8 40, .int .u8 15, .int .u8 34, .int .u8 20, .int .u8 31, .int .u8 10, .int .u8 25, .int .u8 14, .int .u8 19, .int .u8 9, .int .u8 13, .int .u8 8, .int .u8 7, .int .u8 6]
def wc8 : List Value := [.slice (some ⟨20, 0, none⟩) 11 11]
def wc9 : List Value := [.slice (some ⟨21, 0, none⟩) 9 9]
def wc10 : List Value := [.slice (some ⟨22, 0, none⟩) 23 23]
def wc11 : List Value := Pinned.pow10Rows.flatMap pwF
def wc12 : List Value := [.slice (some ⟨23, 0, none⟩) Pinned.cheatRows.length Pinned.cheatRows.length]
def wc18 : List Value := [.string ⟨#[105, 110, 118, 97, 108, 105, 100, 32, 115, 121, 110, 116, 97, 120]⟩]
def wc19 : List Value := [.string ⟨#[118, 97, 108, 117, 101, 32, 111, 117, 116, 32, 111, 102, 32, 114, 97, 110, 103, 101]⟩]
def wc20 : List Value := [.float .f32 1065353216, .float .f32 1092616192, .float .f32 1120403456, .float .f32 1148846080, .float .f32 1176256512, .float .f32 1203982336, .float .f32 1232348160, .float .f32 1259902592, .float .f32 1287568416, .float .f32 1315859240, .float .f32 1343554297]
def wc21 : List Value := [.int .i64 1, .int .i64 3, .int .i64 6, .int .i64 9, .int .i64 13, .int .i64 16, .int .i64 19, .int .i64 23, .int .i64 26]
def wc22 : List Value := [.float .f64 4607182418800017408, .float .f64 4621819117588971520, .float .f64 4636737291354636288, .float .f64 4652007308841189376, .float .f64 4666723172467343360, .float .f64 4681608360884174848, .float .f64 4696837146684686336, .float .f64 4711630319722168320, .float .f64 4726483295884279808, .float .f64 4741671816366391296, .float .f64 4756540486875873280, .float .f64 4771362005757984768, .float .f64 4786511204640096256, .float .f64 4801453603149578240, .float .f64 4816244402031689728, .float .f64 4831355200913801216, .float .f64 4846369599423283200, .float .f64 4861130398305394688, .float .f64 4876203697187506176, .float .f64 4891288408196988160, .float .f64 4906019910204099648, .float .f64 4921056587992461136, .float .f64 4936209963552724370]
def wc23 : List Value := Pinned.cheatRows.flatMap chF
noncomputable def wW (os : Os) (args : Array Value) : World := ((laidWorld os).forCall (fun _ _ => 0) ⟨#[], args, []⟩).memory
theorem wh0 (os : Os) (args : Array Value) : (wW os args).heap[0]? = some (.cells wc0.toArray 270 (0, 0)) := by kernel_rfl
theorem wh1 (os : Os) (args : Array Value) : (wW os args).heap[1]? = some (.cells wc1.toArray 77 (0, 0)) := by kernel_rfl
theorem wh2 (os : Os) (args : Array Value) : (wW os args).heap[2]? = some (.cells wc2.toArray 77 (0, 0)) := by kernel_rfl
theorem wh3 (os : Os) (args : Array Value) : (wW os args).heap[3]? = some (.cells wc3.toArray 305 (0, 0)) := by kernel_rfl
theorem wh4 (os : Os) (args : Array Value) : (wW os args).heap[4]? = some (.cells wc4.toArray 4 (0, 0)) := by kernel_rfl
theorem wh5 (os : Os) (args : Array Value) : (wW os args).heap[5]? = some (.cells wc5.toArray 305 (0, 0)) := by kernel_rfl
theorem wh6 (os : Os) (args : Array Value) : (wW os args).heap[6]? = some (.cells wc6.toArray 323 (0, 0)) := by kernel_rfl
theorem wh7 (os : Os) (args : Array Value) : (wW os args).heap[7]? = some (.cells wc7.toArray 324 (0, 0)) := by kernel_rfl
theorem wh8 (os : Os) (args : Array Value) : (wW os args).heap[8]? = some (.cells wc8.toArray 340 (0, 0)) := by kernel_rfl
theorem wh9 (os : Os) (args : Array Value) : (wW os args).heap[9]? = some (.cells wc9.toArray 139 (0, 0)) := by kernel_rfl
theorem wh10 (os : Os) (args : Array Value) : (wW os args).heap[10]? = some (.cells wc10.toArray 349 (0, 0)) := by kernel_rfl
theorem wh11 (os : Os) (args : Array Value) : (wW os args).heap[11]? = some (.cells wc11.toArray 360 (0, 0)) := by kernel_rfl
theorem wh12 (os : Os) (args : Array Value) : (wW os args).heap[12]? = some (.cells wc12.toArray 366 (0, 0)) := by kernel_rfl
theorem wh18 (os : Os) (args : Array Value) : (wW os args).heap[18]? = some (.cells wc18.toArray 228 (0, 0)) := by kernel_rfl
theorem wh19 (os : Os) (args : Array Value) : (wW os args).heap[19]? = some (.cells wc19.toArray 228 (0, 0)) := by kernel_rfl
theorem wh20 (os : Os) (args : Array Value) : (wW os args).heap[20]? = some (.cells wc20.toArray 288 (0, 0)) := by kernel_rfl
theorem wh21 (os : Os) (args : Array Value) : (wW os args).heap[21]? = some (.cells wc21.toArray 3 (0, 0)) := by kernel_rfl
theorem wh22 (os : Os) (args : Array Value) : (wW os args).heap[22]? = some (.cells wc22.toArray 214 (0, 0)) := by kernel_rfl
theorem wh23 (os : Os) (args : Array Value) : (wW os args).heap[23]? = some (.cells wc23.toArray 365 (0, 0)) := by kernel_rfl
theorem wt0 (w : World) : DataW.trod (fun _ => ()) Tryz.prog w 0 (fun _ => true) false 8 270 wc0 = some (Rows.laid_internal_strconv_uint64pow10, []) := by kernel_rfl
theorem wt3 (w : World) : DataW.trod (fun _ => ()) Tryz.prog w 0 (fun _ => true) false 8 305 wc3 = some (Rows.laid_internal_strconv_float32info, []) := by kernel_rfl
theorem wt4 (w : World) : DataW.trod (fun _ => ()) Tryz.prog w 0 (fun _ => true) false 8 4 wc4 = some (Rows.laid_internal_strconv_optimize, []) := by kernel_rfl
theorem wt5 (w : World) : DataW.trod (fun _ => ()) Tryz.prog w 0 (fun _ => true) false 8 305 wc5 = some (Rows.laid_internal_strconv_float64info, []) := by kernel_rfl
theorem wt6 (w : World) : DataW.trod (fun _ => ()) Tryz.prog w 0 (fun _ => true) false 8 323 wc6 = some (Rows.laid_math_bits_deBruijn32tab, []) := by kernel_rfl
theorem wt7 (w : World) : DataW.trod (fun _ => ()) Tryz.prog w 0 (fun _ => true) false 8 324 wc7 = some (Rows.laid_math_bits_deBruijn64tab, []) := by kernel_rfl
theorem wt8 (os : Os) (args : Array Value) : DataW.trod (fun _ => ()) Tryz.prog (wW os args) 0 (fun _ => true) false 8 340 wc8 = some (Rows.laid_internal_strconv_float32pow10, MemPlace.row ⟨20, 0, none⟩ 11) :=
 (pP (fuel := 6) (e := 288) (d := .float .f32) (cs := wc20) (n := 11) (by kernel_rfl) (by kernel_rfl) (by kernel_rfl) (wh20 os args) rfl (by unfold maxLen; omega) (by kernel_rfl)).trans (by kernel_rfl)
theorem wt9 (os : Os) (args : Array Value) : DataW.trod (fun _ => ()) Tryz.prog (wW os args) 0 (fun _ => true) false 8 139 wc9 = some (Rows.laid_internal_strconv_powtab, MemPlace.row ⟨21, 0, none⟩ 9) :=
 (pP (fuel := 6) (e := 3) (d := .int .i64) (cs := wc21) (n := 9) (by kernel_rfl) (by kernel_rfl) (by kernel_rfl) (wh21 os args) rfl (by unfold maxLen; omega) (by kernel_rfl)).trans (by kernel_rfl)
theorem wt10 (os : Os) (args : Array Value) : DataW.trod (fun _ => ()) Tryz.prog (wW os args) 0 (fun _ => true) false 8 349 wc10 = some (Rows.laid_internal_strconv_float64pow10, MemPlace.row ⟨22, 0, none⟩ 23) :=
 (pP (fuel := 6) (e := 214) (d := .float .f64) (cs := wc22) (n := 23) (by kernel_rfl) (by kernel_rfl) (by kernel_rfl) (wh22 os args) rfl (by unfold maxLen; omega) (by kernel_rfl)).trans (by kernel_rfl)
theorem wt1 (os : Os) (args : Array Value) : DataW.trod (fun _ => ()) Tryz.prog (wW os args) 0 (fun _ => true) false 8 77 wc1 = some (Rows.laid_strconv_ErrSyntax, MemPlace.row ⟨18, 0, none⟩ 1) := by kernel_rfl
theorem wo1 (os : Os) (args : Array Value) : Value.okWideB Tryz.prog (wW os args) 226 (.pointer (some ⟨18, 0, none⟩)) = true := by kernel_rfl
theorem wt2 (os : Os) (args : Array Value) : DataW.trod (fun _ => ()) Tryz.prog (wW os args) 0 (fun _ => true) false 8 77 wc2 = some (Rows.laid_strconv_ErrRange, MemPlace.row ⟨19, 0, none⟩ 1) := by kernel_rfl
theorem wo2 (os : Os) (args : Array Value) : Value.okWideB Tryz.prog (wW os args) 226 (.pointer (some ⟨19, 0, none⟩)) = true := by kernel_rfl
theorem wpw_one (w : World) (x : Nat × Nat) (h1 : (Lit.int .u64 (x.1 : Int)).wf = true) (h2 : (Lit.int .u64 (x.2 : Int)).wf = true) : DataW.trod (fun _ => ()) Tryz.prog w 0 (fun _ => true) false 7 359 (pwF x) = some (.agg [.lit (.int .u64 x.1), .lit (.int .u64 x.2)], []) := by
 have e1 : Tryz.prog.underlying 359 = some (.struct #[⟨ "hi", 235, 0, false, "", "internal/strconv", 0⟩, ⟨ "lo", 235, 1, false, "", "internal/strconv", 8⟩]) := by kernel_rfl
 have e2 : Tryz.prog.cellsOf 359 = 2 := by kernel_rfl
 have e3 : Tryz.prog.cellsOf 235 = 1 := by kernel_rfl
 have e4 : Tryz.prog.underlying 235 = some (.int .u64) := by kernel_rfl
 unfold DataW.trod
 simp only [e1, pwF, e2]
 rw [if_pos (show ([Value.int .u64 (x.1 : Int), Value.int .u64 (x.2 : Int)] : List Value).length = 2 from rfl)]
 simp only [List.mapM_cons, List.mapM_nil, e3]
 have t1 : DataW.trod (fun _ => ()) Tryz.prog w 0 (fun _ => true) false 6 235 [Value.int .u64 x.1] = some (.lit (.int .u64 x.1), []) := wtrod_lit (fuel := 5) e4 (by simp [wlitB, h1])
 have t2 : DataW.trod (fun _ => ()) Tryz.prog w 0 (fun _ => true) false 6 235 [Value.int .u64 x.2] = some (.lit (.int .u64 x.2), []) := wtrod_lit (fuel := 5) e4 (by simp [wlitB, h2])
 simp [t1, t2]
theorem wt11 (w : World) : DataW.trod (fun _ => ()) Tryz.prog w 0 (fun _ => true) false 8 360 wc11 = some (Rows.laid_internal_strconv_pow10Tab, []) := by
  have hl : wc11.length = Pinned.pow10Rows.length * 2 := wflat_len pwF 2 (fun _ => rfl) _
  have hr : Pinned.pow10Rows.length = 696 := by kernel_rfl
  have hwf : Pinned.pow10Rows.all (fun x => (Lit.int .u64 x.1).wf && (Lit.int .u64 x.2).wf) = true := by kernel_rfl
  have := trod_arrayL (P := Tryz.prog) (w := w) (enc := fun _ => ()) (sp := fun _ => true) (held := false) (fuel := 7) (t := 360) (e := 359) (n := 696) (k := 2) (cs := wc11) (g := fun i => (fun x : Nat × Nat => (.agg [.lit (.int .u64 x.1), .lit (.int .u64 x.2)] : DataW Unit)) (Pinned.pow10Rows.getD i default)) (by kernel_rfl) (by kernel_rfl) (by rw [hl, hr]; kernel_rfl) (fun i hi => by
    have hi' : i < Pinned.pow10Rows.length := by rw [hr]; exact hi
    have h1 : (wc11.drop (i * 2)).take 2 = pwF Pinned.pow10Rows[i] := wflat_at pwF 2 (fun _ => rfl) _ i hi'
    have h2 := List.all_eq_true.1 hwf _ (List.getElem_mem hi')
    simp only [Bool.and_eq_true] at h2
    rw [h1, List.getD_eq_getElem?_getD, List.getElem?_eq_getElem hi', Option.getD_some]
    exact wpw_one w _ h2.1 h2.2)
  rw [this]
  have h3 := wrange_get (fun x : Nat × Nat => (.agg [.lit (.int .u64 x.1), .lit (.int .u64 x.2)] : DataW Unit)) Pinned.pow10Rows
  rw [hr] at h3
  rw [h3]
  rfl
theorem wch_one (w : World) (x : Nat × List UInt8) (h1 : (Lit.int .i64 (x.1 : Int)).wf = true) (h2 : x.2.length ≤ maxLen) : DataW.trod (fun _ => ()) Tryz.prog w 0 (fun _ => true) false 7 365 (chF x) = some (.agg [.lit (.int .i64 x.1), .lit (.string x.2)], []) := by
 have e1 : Tryz.prog.underlying 365 = some (.struct #[⟨ "delta", 3, 0, false, "", "internal/strconv", 0⟩, ⟨ "cutoff", 9, 1, false, "", "internal/strconv", 8⟩]) := by kernel_rfl
 have e2 : Tryz.prog.cellsOf 365 = 2 := by kernel_rfl
 have e3 : Tryz.prog.cellsOf 3 = 1 := by kernel_rfl
 have e4 : Tryz.prog.cellsOf 9 = 1 := by kernel_rfl
 have e5 : Tryz.prog.underlying 3 = some (.int .i64) := by kernel_rfl
 have e6 : Tryz.prog.underlying 9 = some .string := by kernel_rfl
 have t1 : DataW.trod (fun _ => ()) Tryz.prog w 0 (fun _ => true) false 6 3 [Value.int .i64 x.1] = some (.lit (.int .i64 x.1), []) := wtrod_lit (fuel := 5) e5 (by simp [wlitB, h1])
 have t2 : DataW.trod (fun _ => ()) Tryz.prog w 0 (fun _ => true) false 6 9 [Value.string ⟨x.2.toArray⟩] = some (.lit (.string x.2), []) := by
  unfold DataW.trod
  have : (ByteArray.mk x.2.toArray).size ≤ maxLen := by simpa [ByteArray.size] using h2
  simp [e6, this]
 unfold DataW.trod
 simp only [e1, chF, e2]
 rw [if_pos (show ([Value.int .i64 (x.1 : Int), Value.string ⟨x.2.toArray⟩] : List Value).length = 2 from rfl)]
 simp only [List.mapM_cons, List.mapM_nil, e3, e4]
 simp [t1, t2]
theorem wt12 (os : Os) (args : Array Value) : DataW.trod (fun _ => ()) Tryz.prog (wW os args) 0 (fun _ => true) false 8 366 wc12 = some (Rows.laid_internal_strconv_leftcheats, MemPlace.row ⟨23, 0, none⟩ 122) := by
  have hl : wc23.length = Pinned.cheatRows.length * 2 := wflat_len chF 2 (fun _ => rfl) _
  have hr : Pinned.cheatRows.length = 61 := by kernel_rfl
  have hwf : Pinned.cheatRows.all (fun x => (Lit.int .i64 x.1).wf && decide (x.2.length ≤ maxLen)) = true := by kernel_rfl
  have := trod_sliceL (P := Tryz.prog) (w := wW os args) (enc := fun _ => ()) (sp := fun _ => true) (held := false) (fuel := 7) (t := 366) (e := 365) (b := 23) (n := 61) (k := 2) (T := 365) (cs := wc23) (g := fun i => (fun x : Nat × List UInt8 => (.agg [.lit (.int .i64 x.1), .lit (.string x.2)] : DataW Unit)) (Pinned.cheatRows.getD i default)) (by kernel_rfl) (by kernel_rfl) (wh23 os args) (by rw [hl, hr]) (by unfold maxLen; omega) (fun i hi => by
    have hi' : i < Pinned.cheatRows.length := by rw [hr]; exact hi
    have h1 : (wc23.drop (i * 2)).take 2 = chF Pinned.cheatRows[i] := wflat_at chF 2 (fun _ => rfl) _ i hi'
    have h2 := List.all_eq_true.1 hwf _ (List.getElem_mem hi')
    simp only [Bool.and_eq_true, decide_eq_true_eq] at h2
    rw [h1, List.getD_eq_getElem?_getD, List.getElem?_eq_getElem hi', Option.getD_some]
    exact wch_one _ _ h2.1 h2.2)
  have h3 := wrange_get (fun x : Nat × List UInt8 => (.agg [.lit (.int .i64 x.1), .lit (.string x.2)] : DataW Unit)) Pinned.cheatRows
  rw [hr] at h3
  rw [h3] at this
  exact this
def wPs : List MemPlace := MemPlace.row ⟨6, 0, none⟩ wc6.length ++ [] ++ (MemPlace.row ⟨7, 0, none⟩ wc7.length ++ [] ++ (MemPlace.row ⟨3, 0, none⟩ wc3.length ++ [] ++ (MemPlace.row ⟨5, 0, none⟩ wc5.length ++ [] ++ (MemPlace.row ⟨4, 0, none⟩ wc4.length ++ [] ++ (MemPlace.row ⟨9, 0, none⟩ wc9.length ++ MemPlace.row ⟨21, 0, none⟩ 9 ++ (MemPlace.row ⟨10, 0, none⟩ wc10.length ++ MemPlace.row ⟨22, 0, none⟩ 23 ++ (MemPlace.row ⟨8, 0, none⟩ wc8.length ++ MemPlace.row ⟨20, 0, none⟩ 11 ++ (MemPlace.row ⟨0, 0, none⟩ wc0.length ++ [] ++ (MemPlace.row ⟨2, 0, none⟩ wc2.length ++ MemPlace.row ⟨19, 0, none⟩ 1 ++ (MemPlace.row ⟨1, 0, none⟩ wc1.length ++ MemPlace.row ⟨18, 0, none⟩ 1 ++ (MemPlace.row ⟨12, 0, none⟩ wc12.length ++ MemPlace.row ⟨23, 0, none⟩ 122 ++ (MemPlace.row ⟨11, 0, none⟩ wc11.length ++ [] ++ ([])))))))))))))
theorem wLv (os : Os) (args : Array Value) : DataW.LaidVars Tryz.prog (wW os args) Rows.fnTextedRow.laid wPs :=
 vI 8 (by kernel_rfl) (by kernel_rfl) (wh6 os args) (wt6 _) (vI 8 (by kernel_rfl) (by kernel_rfl) (wh7 os args) (wt7 _) (vI 8 (by kernel_rfl) (by kernel_rfl) (wh3 os args) (wt3 _) (vI 8 (by kernel_rfl) (by kernel_rfl) (wh5 os args) (wt5 _) (vI 8 (by kernel_rfl) (by kernel_rfl) (wh4 os args) (wt4 _) (vI 8 (by kernel_rfl) (by kernel_rfl) (wh9 os args) (wt9 os args) (vI 8 (by kernel_rfl) (by kernel_rfl) (wh10 os args) (wt10 os args) (vI 8 (by kernel_rfl) (by kernel_rfl) (wh8 os args) (wt8 os args) (vI 8 (by kernel_rfl) (by kernel_rfl) (wh0 os args) (wt0 _) (vI 8 (by kernel_rfl) (by kernel_rfl) (wh2 os args) (wt2 os args) (vI 8 (by kernel_rfl) (by kernel_rfl) (wh1 os args) (wt1 os args) (vI 8 (by kernel_rfl) (by kernel_rfl) (wh12 os args) (wt12 os args) (vI 8 (by kernel_rfl) (by kernel_rfl) (wh11 os args) (wt11 _) (rfl)))))))))))))
def wBs : List Nat := [0, 1, 2, 3, 4, 5, 6, 7, 8, 9, 10, 11, 12, 18, 19, 20, 21, 22, 23]
theorem wNd : nodupBits 1400 wPs 0 = true := by kernel_rfl
theorem wIn : inB wBs wPs = true := by kernel_rfl
theorem laid_met (os : Os) (args : Array Value) : laidMet Tryz.prog Rows.fnTextedRow.laid (wW os args) := by
 refine ⟨wPs, wLv os args, (nodupBits_sound wNd).1, fun b off hp => ?_⟩
 have h1 := List.all_eq_true.1 wIn _ hp
 have hb : b ∈ wBs := by simpa using h1
 simp only [wBs, List.mem_cons, List.not_mem_nil, or_false] at hb
 rcases hb with rfl | rfl | rfl | rfl | rfl | rfl | rfl | rfl | rfl | rfl | rfl | rfl | rfl | rfl | rfl | rfl | rfl | rfl | rfl
 ·exact xW (wh0 os args) (by kernel_rfl)
 ·exact wgood_one (wh1 os args) (wo1 os args)
 ·exact wgood_one (wh2 os args) (wo2 os args)
 ·exact xW (wh3 os args) (by kernel_rfl)
 ·exact xW (wh4 os args) (by kernel_rfl)
 ·exact xW (wh5 os args) (by kernel_rfl)
 ·exact xW (wh6 os args) (by kernel_rfl)
 ·exact xW (wh7 os args) (by kernel_rfl)
 ·exact xW (wh8 os args) (by kernel_rfl)
 ·exact xW (wh9 os args) (by kernel_rfl)
 ·exact xW (wh10 os args) (by kernel_rfl)
 ·exact xW (wh11 os args) (by kernel_rfl)
 ·exact xW (wh12 os args) (by kernel_rfl)
 ·exact xW (wh18 os args) (by kernel_rfl)
 ·exact xW (wh19 os args) (by kernel_rfl)
 ·exact xW (wh20 os args) (by kernel_rfl)
 ·exact xW (wh21 os args) (by kernel_rfl)
 ·exact xW (wh22 os args) (by kernel_rfl)
 ·exact xW (wh23 os args) (by kernel_rfl)
end Go.Jw

namespace Go.Jw
open Go Go.RowKit Go.Proofs Go.ChangeShapes Go.WideShapes Go.ChangeAt Go.Proofs.YtlcfillobkdnmaaGreatDoor
set_option maxRecDepth 100000
noncomputable abbrev jP : Program := Tryz.pinned.checked.prog
def jL : List Char := ([104, 97, 114, 110, 101, 115, 115, 32, 51, 52, 54, 53, 50, 48, 98, 97, 101, 52, 98, 52, 51, 99, 98, 99, 55, 56, 100, 101, 53, 53, 51, 57, 50, 50, 101, 54, 99, 51, 55, 50, 100, 97, 98, 97, 102, 48, 98, 100, 48, 48, 53, 100, 102, 57, 97, 97, 102, 99, 54, 50, 57, 100, 55, 55, 100, 51, 48, 101, 52, 48, 56, 53, 32, 99, 117, 116, 32, 97, 116, 32, 108, 111, 111, 112, 46, 101, 120, 97, 109, 112, 108, 101, 47, 112, 117, 98, 45, 103, 48, 49, 53, 50, 50, 47, 108, 97, 119, 115, 46, 70, 110, 84, 101, 120, 116, 101, 100, 32, 108, 111, 111, 112, 46, 101, 120, 97, 109, 112, 108, 101, 47, 112, 117, 98, 45, 103, 48, 49, 53, 50, 50, 47, 108, 97, 119, 115, 46, 70, 110, 87, 114, 105, 116, 116, 101, 110, 32, 108, 111, 111, 112, 46, 101, 120, 97, 109, 112, 108, 101, 47, 112, 117, 98, 45, 103, 48, 49, 53, 50, 50, 47, 108, 97, 119, 115, 46, 70, 110, 87, 114, 105, 116, 116, 101, 110, 84, 119, 105, 99, 101, 32, 108, 111, 111, 112, 46, 101, 120, 97, 109, 112, 108, 101, 47, 112, 117, 98, 45, 103, 48, 49, 53, 50, 50, 47, 108, 97, 119, 115, 46, 70, 110, 65, 100, 100, 101, 100, 32, 108, 111, 111, 112, 46, 101, 120, 97, 109, 112, 108, 101, 47, 112, 117, 98, 45, 103, 48, 49, 53, 50, 50, 47, 108, 97, 119, 115, 46, 70, 110, 70, 111, 117, 110, 100, 32, 108, 111, 111, 112, 46, 101, 120, 97, 109, 112, 108, 101, 47, 112, 117, 98, 45, 103, 48, 49, 53, 50, 50, 47, 108, 97, 119, 115, 46, 70, 110, 80, 111, 105, 110, 116, 101, 100, 32, 108, 111, 111, 112, 46, 101, 120, 97, 109, 112, 108, 101, 47, 112, 117, 98, 45, 103, 48, 49, 53, 50, 50, 47, 108, 97, 119, 115, 46, 70, 110, 67, 111, 112, 105, 101, 100, 32, 108, 111, 111, 112, 46, 101, 120, 97, 109, 112, 108, 101, 47, 112, 117, 98, 45, 103, 48, 49, 53, 50, 50, 47, 108, 97, 119, 115, 46, 70, 110, 67, 111, 112, 105, 101, 100, 65, 99, 99, 101, 112, 116, 115, 32, 108, 111, 111, 112, 46, 101, 120, 97, 109, 112, 108, 101, 47, 112, 117, 98, 45, 103, 48, 49, 53, 50, 50, 47, 108, 97, 119, 115, 46, 70, 110, 65, 108, 108, 83, 116, 101, 112, 115, 32, 108, 111, 111, 112, 46, 101, 120, 97, 109, 112, 108, 101, 47, 112, 117, 98, 45, 103, 48, 49, 53, 50, 50, 47, 108, 97, 119, 115, 46, 70, 110, 67, 104, 111, 115, 101, 110, 32, 108, 111, 111, 112, 46, 101, 120, 97, 109, 112, 108, 101, 47, 112, 117, 98, 45, 103, 48, 49, 53, 50, 50, 47, 108, 97, 119, 115, 46, 70, 110, 67, 104, 111, 115, 101, 110, 78, 97, 114, 114, 111, 119, 115, 32, 108, 111, 111, 112, 46, 101, 120, 97, 109, 112, 108, 101, 47, 112, 117, 98, 45, 103, 48, 49, 53, 50, 50, 47, 108, 97, 119, 115, 46, 70, 110, 77, 101, 114, 103, 101, 100, 32, 108, 111, 111, 112, 46, 101, 120, 97, 109, 112, 108, 101, 47, 112, 117, 98, 45, 103, 48, 49, 53, 50, 50, 47, 108, 97, 119, 115, 46, 70, 110, 77, 101, 114, 103, 101, 100, 65, 99, 99, 101, 112, 116, 115, 32, 108, 111, 111, 112, 46, 101, 120, 97, 109, 112, 108, 101, 47, 112, 117, 98, 45, 103, 48, 49, 53, 50, 50, 47, 108, 97, 119, 115, 46, 70, 110, 82, 101, 115, 111, 108, 118, 101, 100, 32, 108, 111, 111, 112, 46, 101, 120, 97, 109, 112, 108, 101, 47, 112, 117, 98, 45, 103, 48, 49, 53, 50, 50, 47, 108, 97, 119, 115, 46, 70, 110, 82, 101, 115, 111, 108, 118, 101, 100, 65, 99, 99, 101, 112, 116, 115, 32, 108, 111, 111, 112, 46, 101, 120, 97, 109, 112, 108, 101, 47, 112, 117, 98, 45, 103, 48, 49, 53, 50, 50, 47, 108, 97, 119, 115, 46, 70, 110, 82, 101, 115, 111, 108, 118, 101, 100, 84, 119, 105, 99, 101] : List Nat).map Char.ofNat
def jW : List (List Char) := ([[104, 97, 114, 110, 101, 115, 115], [51, 52, 54, 53, 50, 48, 98, 97, 101, 52, 98, 52, 51, 99, 98, 99, 55, 56, 100, 101, 53, 53, 51, 57, 50, 50, 101, 54, 99, 51, 55, 50, 100, 97, 98, 97, 102, 48, 98, 100, 48, 48, 53, 100, 102, 57, 97, 97, 102, 99, 54, 50, 57, 100, 55, 55, 100, 51, 48, 101, 52, 48, 56, 53], [99, 117, 116], [97, 116], [108, 111, 111, 112, 46, 101, 120, 97, 109, 112, 108, 101, 47, 112, 117, 98, 45, 103, 48, 49, 53, 50, 50, 47, 108, 97, 119, 115, 46, 70, 110, 84, 101, 120, 116, 101, 100], [108, 111, 111, 112, 46, 101, 120, 97, 109, 112, 108, 101, 47, 112, 117, 98, 45, 103, 48, 49, 53, 50, 50, 47, 108, 97, 119, 115, 46, 70, 110, 87, 114, 105, 116, 116, 101, 110], [108, 111, 111, 112, 46, 101, 120, 97, 109, 112, 108, 101, 47, 112, 117, 98, 45, 103, 48, 49, 53, 50, 50, 47, 108, 97, 119, 115, 46, 70, 110, 87, 114, 105, 116, 116, 101, 110, 84, 119, 105, 99, 101], [108, 111, 111, 112, 46, 101, 120, 97, 109, 112, 108, 101, 47, 112, 117, 98, 45, 103, 48, 49, 53, 50, 50, 47, 108, 97, 119, 115, 46, 70, 110, 65, 100, 100, 101, 100], [108, 111, 111, 112, 46, 101, 120, 97, 109, 112, 108, 101, 47, 112, 117, 98, 45, 103, 48, 49, 53, 50, 50, 47, 108, 97, 119, 115, 46, 70, 110, 70, 111, 117, 110, 100], [108, 111, 111, 112, 46, 101, 120, 97, 109, 112, 108, 101, 47, 112, 117, 98, 45, 103, 48, 49, 53, 50, 50, 47, 108, 97, 119, 115, 46, 70, 110, 80, 111, 105, 110, 116, 101, 100], [108, 111, 111, 112, 46, 101, 120, 97, 109, 112, 108, 101, 47, 112, 117, 98, 45, 103, 48, 49, 53, 50, 50, 47, 108, 97, 119, 115, 46, 70, 110, 67, 111, 112, 105, 101, 100], [108, 111, 111, 112, 46, 101, 120, 97, 109, 112, 108, 101, 47, 112, 117, 98, 45, 103, 48, 49, 53, 50, 50, 47, 108, 97, 119, 115, 46, 70, 110, 67, 111, 112, 105, 101, 100, 65, 99, 99, 101, 112, 116, 115], [108, 111, 111, 112, 46, 101, 120, 97, 109, 112, 108, 101, 47, 112, 117, 98, 45, 103, 48, 49, 53, 50, 50, 47, 108, 97, 119, 115, 46, 70, 110, 65, 108, 108, 83, 116, 101, 112, 115], [108, 111, 111, 112, 46, 101, 120, 97, 109, 112, 108, 101, 47, 112, 117, 98, 45, 103, 48, 49, 53, 50, 50, 47, 108, 97, 119, 115, 46, 70, 110, 67, 104, 111, 115, 101, 110], [108, 111, 111, 112, 46, 101, 120, 97, 109, 112, 108, 101, 47, 112, 117, 98, 45, 103, 48, 49, 53, 50, 50, 47, 108, 97, 119, 115, 46, 70, 110, 67, 104, 111, 115, 101, 110, 78, 97, 114, 114, 111, 119, 115], [108, 111, 111, 112, 46, 101, 120, 97, 109, 112, 108, 101, 47, 112, 117, 98, 45, 103, 48, 49, 53, 50, 50, 47, 108, 97, 119, 115, 46, 70, 110, 77, 101, 114, 103, 101, 100], [108, 111, 111, 112, 46, 101, 120, 97, 109, 112, 108, 101, 47, 112, 117, 98, 45, 103, 48, 49, 53, 50, 50, 47, 108, 97, 119, 115, 46, 70, 110, 77, 101, 114, 103, 101, 100, 65, 99, 99, 101, 112, 116, 115], [108, 111, 111, 112, 46, 101, 120, 97, 109, 112, 108, 101, 47, 112, 117, 98, 45, 103, 48, 49, 53, 50, 50, 47, 108, 97, 119, 115, 46, 70, 110, 82, 101, 115, 111, 108, 118, 101, 100], [108, 111, 111, 112, 46, 101, 120, 97, 109, 112, 108, 101, 47, 112, 117, 98, 45, 103, 48, 49, 53, 50, 50, 47, 108, 97, 119, 115, 46, 70, 110, 82, 101, 115, 111, 108, 118, 101, 100, 65, 99, 99, 101, 112, 116, 115], [108, 111, 111, 112, 46, 101, 120, 97, 109, 112, 108, 101, 47, 112, 117, 98, 45, 103, 48, 49, 53, 50, 50, 47, 108, 97, 119, 115, 46, 70, 110, 82, 101, 115, 111, 108, 118, 101, 100, 84, 119, 105, 99, 101]] : List (List Nat)).map fun l => l.map Char.ofNat
theorem hI : jP.initOrder = String.ofList jL := by kernel_rfl
theorem hW0 : wordsSigns jL = jW := by kernel_rfl
theorem hW : wordsSigns jP.initOrder.toList = jW := by rw [hI, String.toList_ofList, hW0]
theorem jh : behindMainWord (wordsSigns jP.initOrder.toList) = "cut".toList :: jW.drop 3 := by rw [hW]; kernel_rfl
theorem make_of {P : Program} {rest : List (List Char)} (h : behindMainWord (wordsSigns P.initOrder.toList) = "cut".toList :: rest) : P.make = some .cut := by unfold Program.make; rw [h]; rfl
theorem lifts_of {P : Program} {rest : List (List Char)} (h : behindMainWord (wordsSigns P.initOrder.toList) = "cut".toList :: rest) : P.liftsFinal = false := by unfold Program.liftsFinal Program.headLifts; rw [h]; rfl
theorem enter_of {P : Program} {rest : List (List Char)} (h : behindMainWord (wordsSigns P.initOrder.toList) = "cut".toList :: rest) (l1 : P.laysLater = false) (l2 : P.bearsReflect = false) (l3 : P.doorFits [] = true) : P.mayEnter = true := by
 have h1 : (stripLifts liftWords ("cut".toList :: rest)).1 = [] := rfl
 have h2 : (stripLifts liftWords ("cut".toList :: rest)).2 = "cut".toList :: rest := rfl
 unfold Program.mayEnter
 rw [h]
 simp only [h1, h2, l1, l2, l3, List.head?_cons]
 simp
theorem jl1 : jP.laysLater = false := by kernel_rfl
theorem jl2 : jP.bearsReflect = false := by kernel_rfl
theorem jl3 : jP.doorFits [] = true := by kernel_rfl
theorem j1 : (laidOutB jP) = true := by kernel_rfl
theorem j2 : (mapsRowed jP) = true := by kernel_rfl
theorem j6 : ((jP.stops == [])) = true := by kernel_rfl
theorem j8 : ((jP.stopKnobs == [])) = true := by kernel_rfl
theorem j24 : (jP.stopsHeard) = true := by kernel_rfl
theorem j25 : (jP.mayEnter) = true := enter_of jh jl1 jl2 jl3
noncomputable abbrev jC6 : OpenClaim := Rows.fnAddedRow
noncomputable abbrev jS6 : ChangeSpec := (OpenSpec.ofChange Rows.fnAddedSpec).bare
noncomputable abbrev jF6 : Func := Tryz.f6
theorem j0_6 : (jC6.wf (OpenSpec.ofChange jS6)) = true := by kernel_rfl
theorem j3_6 : (jF6.params.all (jP.readableRec ·)) = true := by kernel_rfl
theorem j4_6 : (namedTie jP jC6.named jS6.vars) = true := by kernel_rfl
theorem j5_6 : ((jC6.stops == [])) = true := by kernel_rfl
theorem j7_6 : ((jC6.knobs == [])) = true := by kernel_rfl
theorem j9_6 : ((jC6.inPlace == jP.inPlace 6)) = true := by kernel_rfl
theorem j10_6 : ((jC6.unfollowed == jP.unfollowed 6)) = true := by kernel_rfl
theorem j11_6 : ((jC6.recurses == jP.recurses 6)) = true := by kernel_rfl
theorem j12_6 : ((jC6.named == jP.varsNamed 6)) = true := by kernel_rfl
theorem j13_6 : ((jC6.maps == (jF6.params.toList ++ jS6.plain.varTypes jP).any (jP.mapsRec ·))) = true := by kernel_rfl
theorem j14_6 : ((jC6.ifaces == (jF6.params.toList ++ jS6.plain.varTypes jP).any (jP.ifacesRec ·))) = true := by kernel_rfl
theorem j15_6 : ((jC6.mapsOut == jP.mapsAmong jF6.resultTypes.toList)) = true := by kernel_rfl
theorem j16_6 : ((jC6.loops == (jF6.params.toList ++ jS6.plain.varTypes jP).any (jP.loopsFrom ·))) = true := by kernel_rfl
theorem j17_6 : ((jC6.wideKeys == (jF6.params.toList ++ jS6.plain.varTypes jP ++ jF6.resultTypes.toList).any (jP.wideKeysFrom ·))) = true := by kernel_rfl
theorem j18_6 : (jS6.vars.all (jP.varReadable ·)) = true := by kernel_rfl
theorem j19_6 : (jF6.resultTypes.all (fun t => jP.readableRec t && decide (t < jP.types.size))) = true := by kernel_rfl
theorem j20_6 : ((jC6.ifacesOut == jF6.resultTypes.toList.any (jP.ifacesRec ·))) = true := by kernel_rfl
theorem j21_6 : ((jC6.loopsOut == jF6.resultTypes.toList.any (jP.loopsFrom ·))) = true := by kernel_rfl
theorem j22_6 : ((jC6.plainKeys == jP.plainKeys)) = true := by kernel_rfl
theorem j23_6 : (jC6.shortTexts.isNone) = true := by kernel_rfl
theorem j26_6 : ((jC6.lifted == jP.liftsFinal)) = true := by rw [lifts_of jh]; kernel_rfl
theorem j27_6 : ((jP.make == some jC6.make)) = true := by rw [make_of jh]; kernel_rfl
theorem j28_6 : ((jC6.kinds == (if jC6.domain.isEmpty then [] else jF6.params.toList.map fun t => match jP.underlying t with | some (.int k) => some k | _ => none))) = true := by kernel_rfl
theorem j29_6 : ((jC6.pinned == jC6.pinnedBy)) = true := by kernel_rfl
theorem j30_6 : ((jC6.veiled == (jF6.params.toList ++ jS6.plain.varTypes jP ++ jF6.resultTypes.toList).any (jP.veiledRec ·))) = true := by kernel_rfl
theorem j31_6 : (jC6.veiledFits jP jF6.params.toList (jF6.params.toList ++ jS6.plain.varTypes jP ++ jF6.resultTypes.toList)) = true := by kernel_rfl
theorem jAll6 : joinedFacts jP 6 jF6 jS6 jC6 = true := by
 unfold joinedFacts
 simp only [Bool.and_eq_true]
 exact ⟨⟨⟨⟨⟨⟨⟨⟨⟨⟨⟨⟨⟨⟨⟨⟨⟨⟨⟨⟨⟨⟨⟨⟨⟨⟨⟨⟨⟨⟨⟨j0_6, j1⟩, j2⟩, j3_6⟩, j4_6⟩, j5_6⟩, j6⟩, j7_6⟩, j8⟩, j9_6⟩, j10_6⟩, j11_6⟩, j12_6⟩, j13_6⟩, j14_6⟩, j15_6⟩, j16_6⟩, j17_6⟩, j18_6⟩, j19_6⟩, j20_6⟩, j21_6⟩, j22_6⟩, j23_6⟩, j24⟩, j25⟩, j26_6⟩, j27_6⟩, j28_6⟩, j29_6⟩, j30_6⟩, j31_6⟩
theorem jgoes6 : false = jC6.goesBy jP := by kernel_rfl
theorem jtext6 : jC6.wfByText (OpenSpec.ofChange Rows.fnAddedSpec) = true := by kernel_rfl
def wArg : Value := .agg #[.int .i64 0, .int .i64 0, .string ⟨#[]⟩, .slice none 0 0, .slice none 0 0]
theorem main_of {P : Program} {h s : List Char} {r : List (List Char)} (hw : wordsSigns P.initOrder.toList = h :: s :: r) (h1 : h = "harness".toList) (h2 : isSumSigns s = true) : P.mainIs = some (true, s) := by
 unfold Program.mainIs
 rw [hw, h1]
 simp only [h2]
 rfl
theorem jhd : wordsSigns jP.initOrder.toList = "harness".toList :: "346520bae4b43cbc78de553922e6c372dabaf0bd005df9aafc629d77d30e4085".toList :: jW.drop 2 := by rw [hW]; kernel_rfl
theorem jsum : isSumSigns "346520bae4b43cbc78de553922e6c372dabaf0bd005df9aafc629d77d30e4085".toList = true := by kernel_rfl
theorem jmain : jP.mainIs = some (true, "346520bae4b43cbc78de553922e6c372dabaf0bd005df9aafc629d77d30e4085".toList) := main_of jhd rfl jsum
theorem reads6 (os : Os) {H : Type} (enc : TypeId × Value → H) : ∃ places, DataW.whole enc Tryz.prog ((laidWorld os).forCall (fun _ _ => 0) ⟨#[], #[wArg, .string ⟨#[]⟩, wArg], []⟩).memory Tryz.f6.params.toList Rows.fnAddedSpec.vars false #[wArg, .string ⟨#[]⟩, wArg].toList 8 = some ([.agg [.lit (.int .i64 0), .lit (.int .i64 0), .lit (.string []), .nil, .nil], .lit (.string []), .agg [.lit (.int .i64 0), .lit (.int .i64 0), .lit (.string []), .nil, .nil]], [], places) :=
 ⟨[], by kernel_rfl⟩
theorem lifted6 (os : Os) (started : os.Started) (H : Type) (enc : TypeId × Value → H) (F : Stop.Interp) :
    ReturnsInHanded {} Tryz.checked os 6 .any ((OpenSpec.ofChange Rows.fnAddedSpec).preRow enc Tryz.prog Tryz.f6 Rows.fnAddedRow.domain false Rows.fnAddedRow.laid) (((OpenSpec.ofChange Rows.fnAddedSpec).at F).post enc Tryz.prog Tryz.f6 false true false false) := by
  obtain ⟨places, hx⟩ := reads6 os enc
  refine returnsInHanded_of_row (C := Tryz.checked) (s := (OpenSpec.ofChange Rows.fnAddedSpec)) own started (by kernel_rfl) Tryz.func6
    (witness_row_atRef (enc := enc) (C := Tryz.checked) false (laidWorld os) #[wArg, .string ⟨#[]⟩, wArg] rfl (vars_ref os _) (by kernel_rfl) (by kernel_rfl)
      (OpenSpec.preRow_of_cond 8 hx (by kernel_rfl) (fun k hk => by cases hk) (by kernel_rfl) (laid_met os _))) ?_
  intro W base args ds gs before hval hW _ _ _ hL _ _
  exact contract6 H enc W base args ds gs before hval hW hL
theorem said6 : Rows.FnAddedSaid :=
  OpenClaim.holds_of_cond 6 Tryz.f6 rfl rfl rfl rfl rfl rfl rfl ⟨rfl, rfl, rfl, rfl, rfl⟩ rfl rfl rfl rfl rfl (by kernel_rfl) Tryz.func6 jAll6
    (of_decide_eq_true (by kernel_rfl)) (by unfold Func.isWrapper; first | (rw [if_pos (by decide +kernel)]; kernel_rfl) | (rw [if_neg (by decide +kernel)]; exact ⟨rfl, rfl⟩))
    (fun os started H enc _ F => by rw [OpenClaim.pre_eq_preRow]; exact lifted6 os started H enc F)
theorem plain6 (f : FuncId) (fn : Func) (hf : Tryz.pinned.checked.prog.funcNamed "loop.example/pub-g01522/laws.FnAdded" = some f) (hfn : Tryz.pinned.checked.prog.funcs[f]? = some fn) :
  true = Tryz.pinned.checked.prog.looks [] ∧ ∀ (j : Nat) t, fn.params[j]? = some t → Tryz.pinned.checked.prog.wantsStandIn t = false := by
 obtain rfl : f = 6 := Option.some.inj ((show Tryz.prog.funcNamed "loop.example/pub-g01522/laws.FnAdded" = some 6 by kernel_rfl).symm.trans hf) |>.symm
 obtain rfl : fn = Tryz.f6 := (Option.some.inj (Tryz.func6.symm.trans hfn)).symm
 refine ⟨by kernel_rfl, fun j t ht => ?_⟩
 rw [Tryz.params6] at ht
 have hm : t ∈ #[25, 9, 25] := Array.mem_of_getElem? ht
 simp only [List.mem_toArray, List.mem_cons, List.not_mem_nil, or_false] at hm
 rcases hm with rfl | rfl | rfl
 ·exact (show Tryz.prog.wantsStandIn 25 = false by kernel_rfl)
 ·exact (show Tryz.prog.wantsStandIn 9 = false by kernel_rfl)
 ·exact (show Tryz.prog.wantsStandIn 25 = false by kernel_rfl)
theorem card6 : Rows.FnAddedCardSaid :=
 Claim7.holds_tied_plain_at .later [] _ _ _ _ said6 (fun _ h => by cases h) jtext6 (fun _ h => by cases h) (ty_row _ rfl rfl) rfl ⟨rfl, rfl⟩ jmain rfl plain6 jgoes6
end Go.Jw
namespace Go.Proofs.YtlcfillobkdnmaaGreatDoor
/-- Whatever the input: the law FnAdded returns true, and what it reads, reads ags it did. -/
theorem fnAdded_holds : Rows.FnAddedCardSaid := Go.Jw.card6
end Go.Proofs.YtlcfillobkdnmaaGreatDoor

