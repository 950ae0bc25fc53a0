/- FnTextedUptoCardSaid, for every input within the row's bound: the JSON text of a schema without numbers has its keywords, part 6: the proof's texts, made small by a program. -/
import Derived.Test.YtlcfillobkdnmaaGreatDoorTa5
import Derived.Test.YtlcfillobkdnmaaGreatDoorRows
import Derived.ProofKit
import Derived.Deep.Slices
import Derived.SliceStrings
import Derived.Lib.LaidTab
import Derived.Test.YtlcfillobkdnmaaGreatDoorCards
import Derived.Test.YtlcfillobkdnmaaGreatDoorTie
import Derived.OpenShut
import Derived.Deep.DeepHandedRow
import Derived.Deep.DeepWitnessRowRef
import Derived.RowKit
import Derived.DataWitness
import Derived.LaidLaws
set_option linter.unusedVariables false
set_option linter.unusedSimpArgs false
namespace Go.Jw
open Go Go.RowKit Go.Proofs
set_option maxRecDepth 8000
theorem strOf_bytes (s : List UInt8) : strOfNums (s.map fun b => (b.toNat : Int)) = bs s := by
  unfold strOfNums bs
  congr 1
  apply Array.ext'
  simp only [List.map_toArray, List.map_map]
  conv => rhs; rw [← List.map_id s]
  refine List.map_congr_left fun b _ => ?_
  simp
section rules
variable {P : Program} {n : Nat} {F : List Nat} {c : Ctx F} {ops : Array Oper} {d : Nat} {T : TypeId} {l : List Oper} {k : List KI} {Q : Post} {e : Env} {M : List HA} {D : List DA}
/-- A text out of a row of bytes. -/
theorem op_convBS (i : Nat) {x : Operand} {A : Option Addr} {m cap : Nat} {S S' E : TypeId} {s : List UInt8} (hs : P.underlying S = some (.slice E)) (he : P.underlying E = some (.int .u8)) (hd' : P.underlying S' = some .string) (hd : Nat.blt d n = true) (hx : ev e x = some (.slice A m cap)) (hi : M[i]? = some (.row A m cap E 1 (s.map fun b => .int .u8 (b.toNat : Int))))
    (next : RunOps P n c ops l k Q ((d, .string (bs s)) :: e) M D) : RunOp P n c ops (some d) (.convert S S' x) T l k Q e M D :=
  wF hd (fun a w hf => by
    have hrow := hf.toFitsW.mem hi
    obtain ⟨h1, h2, h3⟩ := row_cells hrow
    have hm : s.length = m := by have := hrow.1; simpa using this
    have hcv : (convert S S' (.slice A m cap)).run P w = .ok (.string (bs s)) w := by
      rcases hrow.2 with ⟨h, h0⟩ | ⟨g, cap', cur, hv, _, hc, hn, hmm, hcs, ht⟩
      · injection h with h4 h5 h6
        subst h4
        rw [run_convert_bytes_nil w S E hs he m cap S' hd']
        have : s = [] := List.eq_nil_of_length_eq_zero (by omega)
        subst this
        rfl
      · injection hv with h4 h5 h6
        subst h4; subst h6
        rw [run_convert_bytes_arg w S E hs he g 0 m cap (s.map fun b => (b.toNat : Int)) (by simpa using hm) (fun j hj => by
          obtain ⟨a', ha, _, hcell⟩ := h3 j (.int .u8 ((s[j]'(by omega)).toNat : Int)) (by rw [List.getElem?_map, List.getElem?_eq_getElem (by omega)]; rfl)
          cases ha
          rw [add_none] at hcell
          rw [hcell]
          simp [List.getD_eq_getElem?_getD, List.getElem?_map, List.getElem?_eq_getElem (show j < s.length by omega)]) S' hd', strOf_bytes]
    simp [execOp, opr, hf.ev hx, hcv]) next
end rules
theorem headN_get {S : ByteArray} {p : Nat} {l : List UInt8} (h : Sf S p l) (hs : p < S.size) : S[p].toNat = headN l := by
  have hsz := h.size
  cases l with
  | nil => simp at hsz; omega
  | cons b r =>
    have := h.get (i := 0) (by simp) (by simpa using hs)
    simp only [Nat.add_zero, List.getElem_cons_zero] at this
    rw [this]; rfl
theorem c95 (rb : Nat) (S : ByteArray) (p : Nat) (bd : Bool) (ws rest : List UInt8) (hS : Sf S p (ws ++ rest)) (hws : Blanks ws) (hr : NoBl rest) (hm : S.size ≤ maxLen) : Ct Tryz.prog 95 #[ptr rb] [rblk rb S p bd] [] (fun u M' D' => u = .int .u8 (headN rest : Int) ∧ M' = [rblk rb S (p + ws.length) bd] ∧ D' = []) := by
  refine Ct.of_run (args := [ptr rb]) Tryz.func95 (by kernel_rfl) rfl Tryz.ntmps95 rfl (fun c => ?_)
  have hsz := hS.size
  rw [List.length_append] at hsz
  have hmx := hm
  unfold maxLen at hmx
  refine zD (zB ?_)
  refine zA (zE rfl rfl ?_)
  refine zC (zD ?_)
  refine zB (zA ?_)
  refine zF rfl rfl (zA ?_)
  refine zY 0 rfl rfl rfl (c56 rb S p bd ws rest hS hws hr hm) rfl sub0 (fun u4 M4 D4 hv4 => ?_)
  obtain ⟨rfl, rfl, rfl⟩ := hv4
  refine zC (zD ?_)
  refine zD (xK Tryz_mixed ?_)
  refine zW (tP 0 rfl wanted0 (zX rfl) ?_)
  refine tP 1 rfl wanted0 (yG rfl) (tP 2 rfl wanted0 (yB fo61_1 rfl) ?_)
  refine tP 4 rfl wanted0 (zX rfl) (tP 5 rfl wanted0 (yG rfl) ?_)
  refine tP 6 rfl wanted0 (yB fo61_0 rfl) (yJ ?_)
  refine tM 3 rfl wanted0 (yK 0 sc3 rfl rfl rfl) (tM 7 rfl wanted0 (yK 0 sc9 rfl rfl rfl) ?_)
  refine tM 8 rfl wanted0 (st_lenStr st9 rfl) (tM 9 rfl wanted0 (st_eqlN rfl rfl) ?_)
  refine yV (by decide +kernel) (zG [14, 0] ?_)
  change Run _ _ _ _ _ [(14, _), (0, _)] _ _
  refine zT rfl (fun h14 => ?_) (fun h14 => ?_)
  · refine zD (zB ?_)
    refine zA (zE rfl rfl ?_)
    refine zC ?_
    obtain rfl : rest = [] := List.eq_nil_of_length_eq_zero (by omega)
    exact zK Tryz.results95 rfl ⟨rfl, rfl, rfl⟩ (List.Sublist.refl _) (fun _ h => by cases h)
  refine zL (zD ?_)
  refine xK Tryz_mixed (zW ?_)
  refine tP 0 rfl wanted0 (zX rfl) (tP 1 rfl wanted0 (yG rfl) ?_)
  refine tP 2 rfl wanted0 (yB fo61_0 rfl) (tP 4 rfl wanted0 (zX rfl) ?_)
  refine tP 5 rfl wanted0 (yG rfl) (tP 6 rfl wanted0 (yB fo61_1 rfl) ?_)
  refine yJ (tM 3 rfl wanted0 (yK 0 sc9 rfl rfl rfl) ?_)
  refine tM 7 rfl wanted0 (yK 0 sc3 rfl rfl rfl) (tM 8 rfl wanted0 (st_index st9 rfl rfl (by omega)) ?_)
  refine zW (tP 9 rfl wanted0 (xZ rfl) ?_)
  refine yV (by decide +kernel) (zG [2] ?_)
  change Run _ _ _ _ _ [(2, _)] _ _
  exact zK Tryz.results95 rfl ⟨congrArg (fun q : Nat => Value.int .u8 (q : Int)) (headN_get hS.adv _), rfl, rfl⟩ (List.Sublist.refl _) (fun _ h => by cases h)
theorem c98h (rb : Nat) (S : ByteArray) (p : Nat) (bd : Bool) (ws : List UInt8) (b : UInt8) (r : List UInt8) (hS : Sf S p (ws ++ b :: r)) (hws : Blanks ws) (hb : ¬ isBl b) (hm : S.size ≤ maxLen) : Ct Tryz.prog 98 #[ptr rb, .int .u8 (b.toNat : Int)] [rblk rb S p bd] [] (fun u M' D' => u = .bool true ∧ M' = [rblk rb S (p + ws.length + 1) bd] ∧ D' = []) := by
  refine Ct.of_run (args := [ptr rb, .int .u8 (b.toNat : Int)]) Tryz.func98 (by kernel_rfl) rfl Tryz.ntmps98 rfl (fun c => ?_)
  have hsz := hS.size
  rw [List.length_append] at hsz
  have hmx := hm
  unfold maxLen at hmx
  rw [List.length_cons] at hsz
  refine zD (zB ?_)
  refine zA (zE rfl rfl ?_)
  refine zC (zD ?_)
  refine zD (xK Tryz_mixed ?_)
  refine zW (tP 0 rfl wanted0 (zX rfl) ?_)
  refine tP 2 rfl wanted0 (zX rfl) (yD 1 (by decide +kernel) ?_)
  refine one_op (I2 := [[2], []]) rfl wanted0 (by decide +kernel) (fun Kd hKd => ?_)
  refine zY 0 rfl rfl rfl (c95 rb S p bd ws (b :: r) hS hws (fun b' r' h => by cases h; exact hb) hm) rfl sub0 (fun u6 M6 D6 hv6 => ?_)
  obtain ⟨rfl, rfl, rfl⟩ := hv6
  refine hKd _ _ _ (hC (zO (yI))) (yJ ?_)
  refine tM 3 rfl wanted0 (st_neqN rfl rfl) (zW ?_)
  refine tP 4 rfl wanted0 (zX rfl) (any_knowF (s := 9) rfl (decide_eq_false (fun h => h rfl)) ?_)
  refine tP 5 rfl (wanted1 rfl rfl) (zX rfl) (tP 6 rfl (wanted1 rfl rfl) (yG rfl) ?_)
  refine tP 7 rfl (wanted1 rfl rfl) (yB fo61_1 rfl) (tP 9 rfl (wanted1 rfl rfl) (zX rfl) ?_)
  refine tP 10 rfl (wanted1 rfl rfl) (yG rfl) (tP 11 rfl (wanted1 rfl rfl) (yB fo61_0 rfl) ?_)
  refine yJ (tM 8 rfl (wanted1 rfl rfl) (yK 0 sc3 rfl rfl rfl) ?_)
  refine tM 12 rfl (wanted1 rfl rfl) (yK 0 sc9 rfl rfl rfl) (tM 13 rfl (wanted1 rfl rfl) (st_lenStr st9 rfl) ?_)
  refine tM 14 rfl (wanted1 rfl rfl) (st_eqlN rfl rfl) (zW ?_)
  refine tP 15 rfl wanted0 (wB rfl rfl) (yV (by decide +kernel) ?_)
  refine zG [20, 0] ?_
  change Run _ _ _ _ _ [(20, _), (0, _)] _ _
  refine xJ rfl (decide_eq_false (by omega)) (zL ?_)
  refine zD (zB ?_)
  refine zA (zF rfl rfl ?_)
  refine zA (zH rfl rfl ?_)
  refine zA (zJ fo61_1 rfl rfl ?_)
  refine zA (zS 0 sc3 rfl rfl rfl rfl ?_)
  refine zA (xC rfl rfl (by omega) ?_)
  refine zA (zH rfl rfl ?_)
  refine zA (zJ fo61_1 rfl rfl ?_)
  refine zA (zU 0 (M' := [HA.blk _ [_, _, _] _]) rfl rfl rfl rfl si3 rfl rfl rfl ?_)
  refine zC (zG [] ?_)
  change Run _ _ _ _ _ [] _ _
  refine zD (zB ?_)
  refine zA (zE rfl rfl ?_)
  refine zC ?_
  exact zK Tryz.results98 rfl ⟨rfl, rfl, rfl⟩ (List.Sublist.refl _) (fun _ h => by cases h)
theorem c98m (rb : Nat) (S : ByteArray) (p : Nat) (bd : Bool) (ws rest : List UInt8) (hS : Sf S p (ws ++ rest)) (hws : Blanks ws) (hr : NoBl rest) (hm : S.size ≤ maxLen) (ch : Nat) (hc : headN rest ≠ ch) : Ct Tryz.prog 98 #[ptr rb, .int .u8 (ch : Int)] [rblk rb S p bd] [] (fun u M' D' => u = .bool false ∧ M' = [rblk rb S (p + ws.length) bd] ∧ D' = []) := by
  refine Ct.of_run (args := [ptr rb, .int .u8 (ch : Int)]) Tryz.func98 (by kernel_rfl) rfl Tryz.ntmps98 rfl (fun c => ?_)
  have hsz := hS.size
  rw [List.length_append] at hsz
  have hmx := hm
  unfold maxLen at hmx
  refine zD (zB ?_)
  refine zA (zE rfl rfl ?_)
  refine zC (zD ?_)
  refine zD (xK Tryz_mixed ?_)
  refine zW (tP 0 rfl wanted0 (zX rfl) ?_)
  refine tP 2 rfl wanted0 (zX rfl) (yD 1 (by decide +kernel) ?_)
  refine one_op (I2 := [[2], []]) rfl wanted0 (by decide +kernel) (fun Kd hKd => ?_)
  refine zY 0 rfl rfl rfl (c95 rb S p bd ws rest hS hws hr hm) rfl sub0 (fun u6 M6 D6 hv6 => ?_)
  obtain ⟨rfl, rfl, rfl⟩ := hv6
  refine hKd _ _ _ (hC (zO (yI))) (yJ ?_)
  refine tM 3 rfl wanted0 (st_neqN rfl rfl) (zW ?_)
  refine tP 4 rfl wanted0 (zX rfl) (any_knowT (s := 9) rfl (decide_eq_true (by omega)) ?_)
  refine yJ (tS 5 rfl rfl rfl rfl ?_)
  refine tS 6 rfl rfl rfl rfl (tS 7 rfl rfl rfl rfl ?_)
  refine tS 9 rfl rfl rfl rfl (tS 10 rfl rfl rfl rfl ?_)
  refine tS 11 rfl rfl rfl rfl (tS 8 rfl rfl rfl rfl ?_)
  refine tS 12 rfl rfl rfl rfl (tS 13 rfl rfl rfl rfl ?_)
  refine tS 14 rfl rfl rfl rfl (zW ?_)
  refine tP 15 rfl wanted0 (wB rfl rfl) (yV (by decide +kernel) ?_)
  refine zG [20, 0] ?_
  change Run _ _ _ _ _ [(20, _), (0, _)] _ _
  refine yT rfl (zD ?_)
  refine zB (zA ?_)
  refine zE rfl rfl (zC ?_)
  exact zK Tryz.results98 rfl ⟨rfl, rfl, rfl⟩ (List.Sublist.refl _) (fun _ h => by cases h)
theorem c97 (rb : Nat) (S : ByteArray) (p : Nat) (ws : List UInt8) (b : UInt8) (r : List UInt8) (hS : Sf S p (ws ++ b :: r)) (hws : Blanks ws) (hb : ¬ isBl b) (hm : S.size ≤ maxLen) : Ct Tryz.prog 97 #[ptr rb, .int .u8 (b.toNat : Int)] [rblk rb S p false] [] (fun u M' D' => u = .tuple #[] ∧ M' = [rblk rb S (p + ws.length + 1) false] ∧ D' = []) := by
  refine Ct.of_run (args := [ptr rb, .int .u8 (b.toNat : Int)]) Tryz.func97 (by kernel_rfl) rfl Tryz.ntmps97 rfl (fun c => ?_)
  refine zB (zA ?_)
  refine zF rfl rfl (zA ?_)
  refine zF rfl rfl (zA ?_)
  refine zF rfl rfl (zA ?_)
  refine zY 0 rfl rfl rfl (c98h rb S p false ws b r hS hws hb hm) rfl sub0 (fun u7 M7 D7 hv7 => ?_)
  obtain ⟨rfl, rfl, rfl⟩ := hv7
  refine zA (wI rfl rfl ?_)
  refine zA (zF rfl rfl ?_)
  refine run_knowF (s := 9) rfl (rfl) (zM rfl rfl ?_)
  refine zF rfl rfl (zM rfl rfl ?_)
  refine zH rfl rfl (zM rfl rfl ?_)
  refine zJ fo61_2 rfl rfl (zM rfl rfl ?_)
  refine zS 0 sc4 rfl rfl rfl rfl (zA ?_)
  refine zR rfl rfl rfl (zA ?_)
  refine zH rfl rfl (zA ?_)
  refine zJ fo61_2 rfl rfl (zA ?_)
  refine zU 0 (M' := [HA.blk _ [_, _, _] _]) rfl rfl rfl rfl si4 rfl rfl rfl (zC ?_)
  refine zG [] ?_
  change Run _ _ _ _ _ [] _ _
  exact run_end0 Tryz.results97 ⟨rfl, rfl, rfl⟩ (List.Sublist.refl _) (fun _ h => by cases h)
theorem c101 (rb : Nat) (S : ByteArray) (p : Nat) (bd : Bool) (wd : ByteArray) (r : List UInt8) (hS : Sf S p (rl wd ++ r)) (hm : S.size ≤ maxLen) : Ct Tryz.prog 101 #[ptr rb, .string wd] [rblk rb S p bd] [] (fun u M' D' => u = .tuple #[] ∧ M' = [rblk rb S (p + wd.size) bd] ∧ D' = []) := by
  refine Ct.of_run (args := [ptr rb, .string wd]) Tryz.func101 (by kernel_rfl) rfl Tryz.ntmps101 rfl (fun c => ?_)
  have hsz := hS.size
  rw [List.length_append, ← sz_rl] at hsz
  have hmx := hm
  unfold maxLen at hmx
  refine zD (zB ?_)
  refine zA (zE rfl rfl ?_)
  refine zC (zP ?_)
  refine zG [4, 0, 1] ?_
  change Run _ _ _ _ _ [(4, _), (0, _), (1, _)] _ _
  refine run_loopM 1 (fun (i : Nat) => i ≤ wd.size) (fun (i : Nat) => [(4, .int .i64 ((i : Nat) : Int))]) (fun (i : Nat) => rblk rb S (p + i) bd :: []) (fun (i : Nat) => wd.size - i) 0 (by show 0 ≤ _; omega) (EnvLe.cons rfl (EnvLe.nil _)) rfl ?_ (EnvLe.cons rfl (EnvLe.cons rfl (EnvLe.nil _)))
  intro i hI K hK
  change Run _ _ _ _ _ [(4, _), (0, _), (1, _)] _ _
  replace hI : i ≤ wd.size := hI
  change Run _ _ _ _ _ _ (HA.blk rb [.string S, .int .i64 ((p + i : Nat) : Int), .bool bd] 61 :: []) _
  refine zD (zD ?_)
  refine zB (zA ?_)
  refine zF rfl rfl (zA ?_)
  refine zF rfl rfl (zA ?_)
  refine op_lenStr st9 rfl rfl (zA ?_)
  refine xL rfl rfl rfl (zC ?_)
  refine zT rfl (fun h8 => ?_) (fun h8 => ?_)
  · have hlt : i < wd.size := h8
    have hps : p + i < S.size := by omega
    have hsame : S[p + i] = wd[i] := by
      rw [hS.get (i := i) (by rw [List.length_append, ← sz_rl]; omega) hps, List.getElem_append_left (by rw [← sz_rl]; exact hlt)]
      rfl
    refine zL (zD ?_)
    refine zP (zD ?_)
    refine zD (xK Tryz_mixed ?_)
    refine zW (tP 0 rfl wanted0 (zX rfl) ?_)
    refine tP 1 rfl wanted0 (yG rfl) (tP 2 rfl wanted0 (yB fo61_1 rfl) ?_)
    refine tP 4 rfl wanted0 (zX rfl) (tP 5 rfl wanted0 (yG rfl) ?_)
    refine tP 6 rfl wanted0 (yB fo61_0 rfl) (yJ ?_)
    refine tM 3 rfl wanted0 (yK 0 sc3 rfl rfl rfl) (tM 7 rfl wanted0 (yK 0 sc9 rfl rfl rfl) ?_)
    refine tM 8 rfl wanted0 (st_lenStr st9 rfl) (tM 9 rfl wanted0 (st_eqlN rfl rfl) ?_)
    refine zW (tP 10 rfl wanted0 (zX rfl) ?_)
    refine any_knowF (s := 21) rfl (decide_eq_false (by omega)) (tP 11 rfl (wanted1 rfl rfl) (zX rfl) ?_)
    refine tP 12 rfl (wanted1 rfl rfl) (yG rfl) (tP 13 rfl (wanted1 rfl rfl) (yB fo61_0 rfl) ?_)
    refine tP 15 rfl (wanted1 rfl rfl) (zX rfl) (tP 16 rfl (wanted1 rfl rfl) (yG rfl) ?_)
    refine tP 17 rfl (wanted1 rfl rfl) (yB fo61_1 rfl) (tP 20 rfl (wanted1 rfl rfl) (zX rfl) ?_)
    refine tP 21 rfl (wanted1 rfl rfl) (zX rfl) (yJ ?_)
    refine tM 14 rfl (wanted1 rfl rfl) (yK 0 sc9 rfl rfl rfl) (tM 18 rfl (wanted1 rfl rfl) (yK 0 sc3 rfl rfl rfl) ?_)
    refine tM 19 rfl (wanted1 rfl rfl) (st_index st9 rfl rfl (by omega)) (tM 22 rfl (wanted1 rfl rfl) (st_index st9 rfl rfl (by omega)) ?_)
    refine tM 23 rfl (wanted1 rfl rfl) (st_neqN rfl rfl) (zW ?_)
    refine tP 24 rfl wanted0 (wB rfl rfl) (yV (by decide +kernel) ?_)
    refine zG [35, 4, 0, 1] ?_
    change Run _ _ _ _ _ [(35, _), (4, _), (0, _), (1, _)] _ _
    refine xJ rfl (decide_eq_false (fun h => h (by rw [hsame]))) (zL ?_)
    refine zB (zA ?_)
    refine zF rfl rfl (zA ?_)
    refine zH rfl rfl (zA ?_)
    refine zJ fo61_1 rfl rfl (zA ?_)
    refine zS 0 sc3 rfl rfl rfl rfl (zA ?_)
    refine xC rfl rfl (by omega) (zA ?_)
    refine zH rfl rfl (zA ?_)
    refine zJ fo61_1 rfl rfl (zA ?_)
    refine zU 0 (M' := [HA.blk _ [_, _, _] _]) rfl rfl rfl rfl si3 rfl rfl rfl (zC ?_)
    refine zQ (zB ?_)
    refine zA (zF rfl rfl ?_)
    refine zA (xC rfl rfl (by omega) ?_)
    refine zA (zE rfl rfl ?_)
    refine zC (zG [4, 0, 1] ?_)
    change Run _ _ _ _ _ [(4, _), (0, _), (1, _)] _ _
    exact kQ (hK (i + 1) (by show i + 1 ≤ _; omega) (by show wd.size - (i + 1) < wd.size - i; omega)) (EnvLe.cons rfl (EnvLe.cons rfl (EnvLe.cons rfl (EnvLe.nil _))))
  obtain rfl : i = wd.size := by omega
  refine yL rfl ?_
  exact run_end0 Tryz.results101 ⟨rfl, rfl, rfl⟩ (List.Sublist.refl _) (fun _ h => by cases h)
theorem c99 (s : ByteArray) : CtR Tryz.prog 99 #[.string s] [] (fun u D' => D' = [] ∧ u = .agg #[.int .i64 3, .int .i64 0, .string s, .slice none 0 0, .slice none 0 0]) := by
  refine Ct.of_run (args := [.string s]) Tryz.func99 (by kernel_rfl) rfl Tryz.ntmps99 rfl (fun c => ?_)
  refine zD (zB ?_)
  refine zA (yX ze25 rfl (fun b2 => ?_))
  change RunOps _ _ _ _ _ _ _ _ (HA.blk _ [_, _, _, _, _] _ :: _) _
  refine zC (zD ?_)
  refine zB (zA ?_)
  refine zF rfl rfl (zA ?_)
  refine xR rfl rfl (bu25_0_2 ..) (zA ?_)
  refine zU 0 (M' := [HA.blk _ [_, _, _, _, _] _]) rfl rfl rfl rfl si25 rfl rfl rfl (zC ?_)
  exact xW 0 Tryz.results99 rfl rfl ag25 ⟨rfl, rfl, rfl⟩ (List.nil_sublist _) (fun _ h => by cases h)
theorem c100 (rb : Nat) (S : ByteArray) (p : Nat) (ws s r : List UInt8) (hS : Sf S p (ws ++ 34 :: (s ++ 34 :: r))) (hws : Blanks ws) (hs : ∀ b ∈ s, 32 ≤ b.toNat ∧ b.toNat ≠ 34 ∧ b.toNat ≠ 92) (hl : s.length ≤ 1000000) (hm : S.size ≤ maxLen) : Ct Tryz.prog 100 #[ptr rb] [rblk rb S p false] [] (fun u M' D' => u = .string (bs s) ∧ M' = [rblk rb S (p + ws.length + 1 + s.length + 1) false] ∧ D' = []) := by
  refine Ct.of_run (args := [ptr rb]) Tryz.func100 (by kernel_rfl) rfl Tryz.ntmps100 rfl (fun c => ?_)
  have hsz := hS.size
  simp only [List.length_append, List.length_cons] at hsz
  have hmx := hm
  unfold maxLen at hmx
  have hS2 : Sf S (p + ws.length + 1) (s ++ 34 :: r) := hS.adv.adv1
  refine zD (zB ?_)
  refine zA (zE rfl rfl ?_)
  refine zC (zD ?_)
  refine zB (zA ?_)
  refine zF rfl rfl (zA ?_)
  refine zY 0 rfl rfl rfl (c97 rb S p ws 34 _ hS hws (by unfold isBl; decide) hm) rfl sub0 (fun u6 M6 D6 hv6 => ?_)
  obtain ⟨rfl, rfl, rfl⟩ := hv6
  refine zC (zD ?_)
  refine zB (zA ?_)
  refine op_buildSlice0 sl142 rfl (fun b7 => ?_)
  refine zA (zE rfl rfl ?_)
  refine zC (zD ?_)
  refine zP (zG [3, 0] ?_)
  change Run _ _ _ _ _ [(3, _), (0, _)] _ _
  refine xN 1 (fun (⟨i, A, ca⟩ : Nat × Option Addr × Nat) => i ≤ s.length) (fun (⟨i, A, ca⟩ : Nat × Option Addr × Nat) => [(3, .slice A i ca)]) (fun (⟨i, A, ca⟩ : Nat × Option Addr × Nat) => HA.row A i ca 5 1 ((s.take i).map fun b => Value.int .u8 (b.toNat : Int)) :: rblk rb S (p + ws.length + 1 + i) false :: []) (fun (⟨i, A, ca⟩ : Nat × Option Addr × Nat) => []) (fun (⟨i, A, ca⟩ : Nat × Option Addr × Nat) => s.length - i) (0, _, _) (by show 0 ≤ _; omega) (EnvLe.cons rfl (EnvLe.nil _)) rfl rfl ?_ (EnvLe.cons rfl (EnvLe.nil _))
  intro ⟨i, A, ca⟩ hI K hK
  replace hI : i ≤ s.length := hI
  change Run _ _ _ _ _ [(3, .slice A i ca), (0, _)] (HA.row A i ca 5 1 ((s.take i).map fun b => Value.int .u8 (b.toNat : Int)) :: rblk rb S (p + ws.length + 1 + i) false :: []) ([])
  replace hI : i ≤ s.length := hI
  change Run _ _ _ _ _ _ (HA.row _ _ _ _ _ _ :: HA.blk rb [.string S, .int .i64 ((p + ws.length + 1 + i : Nat) : Int), .bool false] 61 :: []) _
  have hps : p + ws.length + 1 + i < S.size := by omega
  refine zD (zD ?_)
  refine zB (zA ?_)
  refine zF rfl rfl (zA ?_)
  refine zH rfl rfl (zA ?_)
  refine zJ fo61_2 rfl rfl (zA ?_)
  refine zS 1 sc4 rfl rfl rfl rfl (zA ?_)
  refine wI rfl rfl (zC ?_)
  refine xG rfl (rfl) (zL ?_)
  refine zP (zD ?_)
  refine zD (xK Tryz_mixed ?_)
  refine zW (tP 0 rfl wanted0 (zX rfl) ?_)
  refine tP 1 rfl wanted0 (yG rfl) (tP 2 rfl wanted0 (yB fo61_1 rfl) ?_)
  refine tP 4 rfl wanted0 (zX rfl) (tP 5 rfl wanted0 (yG rfl) ?_)
  refine tP 6 rfl wanted0 (yB fo61_0 rfl) (yJ ?_)
  refine tM 3 rfl wanted0 (yK 1 sc3 rfl rfl rfl) (tM 7 rfl wanted0 (yK 1 sc9 rfl rfl rfl) ?_)
  refine tM 8 rfl wanted0 (st_lenStr st9 rfl) (tM 9 rfl wanted0 (st_eqlN rfl rfl) ?_)
  refine yV (by decide +kernel) (zG [22, 3, 0] ?_)
  change Run _ _ _ _ _ [(22, _), (3, _), (0, _)] _ _
  refine xJ rfl (decide_eq_false (by omega)) (zL ?_)
  refine zD (xK Tryz_mixed ?_)
  refine zW (tP 0 rfl wanted0 (zX rfl) ?_)
  refine tP 1 rfl wanted0 (yG rfl) (tP 2 rfl wanted0 (yB fo61_0 rfl) ?_)
  refine tP 4 rfl wanted0 (zX rfl) (tP 5 rfl wanted0 (yG rfl) ?_)
  refine tP 6 rfl wanted0 (yB fo61_1 rfl) (yJ ?_)
  refine tM 3 rfl wanted0 (yK 1 sc9 rfl rfl rfl) (tM 7 rfl wanted0 (yK 1 sc3 rfl rfl rfl) ?_)
  refine tM 8 rfl wanted0 (st_index st9 rfl rfl (by omega)) (zW ?_)
  refine tP 9 rfl wanted0 (xZ rfl) (yV (by decide +kernel) ?_)
  refine zG [4, 3, 0] ?_
  change Run _ _ _ _ _ [(4, _), (3, _), (0, _)] _ _
  refine zD (zB ?_)
  refine zA (zF rfl rfl ?_)
  refine zA (zH rfl rfl ?_)
  refine zA (zJ fo61_1 rfl rfl ?_)
  refine zA (zS 1 sc3 rfl rfl rfl rfl ?_)
  refine zA (xC rfl rfl (by omega) ?_)
  refine zA (zH rfl rfl ?_)
  refine zA (zJ fo61_1 rfl rfl ?_)
  refine zA (zU 1 (M' := [_, HA.blk _ [_, _, _] _]) rfl rfl rfl rfl si3 rfl rfl rfl ?_)
  refine zC (zP ?_)
  refine zD (zB ?_)
  refine zA (zF rfl rfl ?_)
  refine zA (zZ rfl rfl rfl ?_)
  refine zA (zE rfl rfl ?_)
  refine zC (zG [46, 4, 3, 0] ?_)
  change Run _ _ _ _ _ [(46, _), (4, _), (3, _), (0, _)] _ _
  refine zT rfl (fun h46 => ?_) (fun h46 => ?_)
  · obtain rfl : i = s.length := by
      rcases Nat.lt_or_eq_of_le hI with h | h
      · exfalso
        have h1 : S[p + ws.length + 1 + i] = s[i] := by rw [hS2.get (i := i) (by rw [List.length_append]; omega) hps, List.getElem_append_left h]
        have h2 := (hs _ (List.getElem_mem h)).2.1
        rw [h1] at h46
        omega
      · exact h
    refine zD (zB ?_)
    refine zA (zF rfl rfl ?_)
    refine zA ?_
    rw [List.take_length]
    refine op_convBS 0 Tryz.underlying142 Tryz.underlying5 Tryz.underlying9 rfl rfl rfl (zA ?_)
    refine zE rfl rfl (zC ?_)
    exact zK Tryz.results100 rfl ⟨rfl, rfl, rfl⟩ (by repeat (first | exact List.Sublist.refl _ | apply List.Sublist.cons)) (fun _ h => by cases h)
  have hlt : i < s.length := by
    rcases Nat.lt_or_eq_of_le hI with h | h
    · exact h
    · exfalso
      refine h46 ?_
      have h1 : S[p + ws.length + 1 + i] = 34 := by
        rw [hS2.get (i := i) (by rw [List.length_append, List.length_cons]; omega) hps, List.getElem_append_right (by omega)]
        simp [h]
      rw [h1]; rfl
  have h1 : S[p + ws.length + 1 + i] = s[i] := by rw [hS2.get (i := i) (by rw [List.length_append]; omega) hps, List.getElem_append_left hlt]
  have h2 := hs _ (List.getElem_mem hlt)
  rw [h1]
  refine zD (zB ?_)
  refine zA (zF rfl rfl ?_)
  refine zA (op_lss rfl rfl rfl ?_)
  refine zA (zE rfl rfl ?_)
  refine zC (xJ rfl (decide_eq_false (by omega)) ?_)
  refine zD (zB ?_)
  refine zA (zF rfl rfl ?_)
  refine zA (zZ rfl rfl rfl ?_)
  refine zA (zE rfl rfl ?_)
  refine zC (xJ rfl (decide_eq_false (by omega)) ?_)
  refine zB (zA ?_)
  refine zF rfl rfl (zA ?_)
  refine zF rfl rfl (zA ?_)
  refine yC sl142 rfl rfl rfl rfl rfl (fun b44 => ?_)
  refine zA ?_
  refine yY 1 0 sl142 rfl rfl rfl rfl rfl rfl rfl (by unfold maxLen; omega) (by omega) (fun A45 c45 => ?_)
  refine zA (zE rfl rfl ?_)
  refine zC (zG [3, 0] ?_)
  change Run _ _ _ _ _ [(3, _), (0, _)] _ _
  refine zQ (zQ ?_)
  rw [snoc_map (f := fun b : UInt8 => Value.int .u8 (b.toNat : Int)) hlt]
  exact kQ (hK (i + 1, _, _) (by show i + 1 ≤ _; omega) (by show s.length - (i + 1) < s.length - i; omega)) (EnvLe.cons rfl (EnvLe.cons rfl (EnvLe.nil _)))
end Go.Jw

namespace Go.Jw
open Go Go.RowKit Go.Proofs Go.Sort
set_option maxRecDepth 20000
def ltK (keys : List ByteArray) (a b : Nat) : Bool := decide (rl (keys.getD a ⟨#[]⟩) < rl (keys.getD b ⟨#[]⟩))
theorem ltK_swo (keys : List ByteArray) : SWO (ltK keys) := by
  refine ⟨fun x => ?_, fun x y z h1 h2 => ?_, fun x y z h1 h2 => ?_⟩
  · exact decide_eq_false (List.lt_irrefl _)
  · exact decide_eq_true (List.lt_trans (of_decide_eq_true h1) (of_decide_eq_true h2))
  · have h3 := List.not_lt.1 (of_decide_eq_false h1)
    have h4 := List.not_lt.1 (of_decide_eq_false h2)
    exact decide_eq_false (List.not_lt.2 (List.le_trans h4 h3))
set_option maxHeartbeats 2000000 in
theorem less131 (W : World) (keys : List ByteArray) (dk : List Nat) (b5 b8 b n c : Nat) (ka : Addr) (kc : Nat) (hks : W.cell? ⟨b5, 0, none⟩ = some (.slice (some ka) keys.length kc)) (hps : W.cell? ⟨b8, 0, none⟩ = some (.slice (some ⟨b, 0, none⟩) n c)) (hn : dk.length = n)
    (hdk : ∀ j x, dk[j]? = some x → W.cell? ⟨b, j, none⟩ = some (encN x)) (hkk : ∀ j s, keys[j]? = some s → W.cell? (ka.add j) = some (.string s)) (hlt : ∀ x ∈ dk, x < keys.length) (i j : Nat) (hi : i < dk.length) (hj : j < dk.length) :
    Calls Tryz.prog 131 #[.int .i64 i, .int .i64 j, ptr b5, ptr b8] W fun e w' => e = .returned (.bool (ltK keys dk[i] dk[j])) ∧ ∃ q, w' = W.drewN q := by
  have hxi := hlt _ (List.getElem_mem hi)
  have hxj := hlt _ (List.getElem_mem hj)
  have ci := hdk i _ (List.getElem?_eq_getElem hi)
  have cj := hdk j _ (List.getElem?_eq_getElem hj)
  have ki := hkk _ _ (List.getElem?_eq_getElem hxi)
  have kj := hkk _ _ (List.getElem?_eq_getElem hxj)
  have hin : i < n := by omega
  have hjn : j < n := by omega
  have hlk : ltK keys dk[i] dk[j] = Op.bytesLess keys[dk[i]].toList keys[dk[j]].toList := by
    unfold ltK
    rw [less_lt, getD_at hxi, getD_at hxj, rl_toList, rl_toList]
  go_enter Tryz.func131, Tryz.ntmps131
  go_wp2
  go_quiet (fail)
  go_wp2
  go_ret
  refine ⟨?_, nq, rfl⟩
  rw [hlk]
  rfl
end Go.Jw

namespace Go.Jw
open Go Go.RowKit Go.Proofs
set_option maxRecDepth 8000
def linesFrom (f : Nat → List UInt8) (n : Nat) (i : Nat) : List UInt8 := if i < n then f i ++ ((if i + 1 < n then [44] else []) ++ ([10] ++ linesFrom f n (i + 1))) else []
  termination_by n - i
theorem linesFrom_lt {f : Nat → List UInt8} {n i : Nat} (h : i < n) : linesFrom f n i = f i ++ ((if i + 1 < n then [44] else []) ++ ([10] ++ linesFrom f n (i + 1))) := by
  rw [linesFrom, if_pos h]
theorem linesFrom_end {f : Nat → List UInt8} {n : Nat} : linesFrom f n n = [] := by
  rw [linesFrom, if_neg (by omega)]
theorem lines_split {f : Nat → List UInt8} {n : Nat} : ∀ (k i : Nat), n - i = k → i ≤ n → linesTo f n i ++ linesFrom f n i = linesTo f n n
  | 0, i, h, hi => by
    obtain rfl : i = n := by omega
    rw [linesFrom_end, List.append_nil]
  | k + 1, i, h, hi => by
    have := lines_split (f := f) (n := n) k (i + 1) (by omega) (by omega)
    rw [← this, linesFrom_lt (by omega)]
    simp only [linesTo, List.append_assoc]
/-- What follows behind so many elements. -/
def restAt (f : Nat → List UInt8) (n i : Nat) (tl : List UInt8) : List UInt8 := (if 0 < i ∧ i < n then [44] else []) ++ ([10] ++ (linesFrom f n i ++ tl))
theorem restAt_step {f : Nat → List UInt8} {n i : Nat} {tl : List UInt8} (h : i < n) : restAt f n i tl = (if 0 < i then [44] else []) ++ ([10] ++ (f i ++ restAt f n (i + 1) tl)) := by
  unfold restAt
  rw [linesFrom_lt h]
  have e1 : (if 0 < i ∧ i < n then [44] else ([] : List UInt8)) = if 0 < i then [44] else [] := by simp [h]
  have e2 : (if 0 < i + 1 ∧ i + 1 < n then [44] else ([] : List UInt8)) = if i + 1 < n then [44] else [] := by simp
  rw [e1, e2]
  simp only [List.append_assoc]
theorem restAt_end {f : Nat → List UInt8} {n : Nat} {tl : List UInt8} : restAt f n n tl = [10] ++ tl := by
  unfold restAt
  rw [linesFrom_end, if_neg (by omega)]
  simp
theorem restAt_zero {f : Nat → List UInt8} {n : Nat} {tl : List UInt8} : [10] ++ (linesTo f n n ++ tl) = restAt f n 0 tl := by
  unfold restAt
  rw [← lines_split (f := f) (n := n) n 0 (by omega) (Nat.zero_le _)]
  simp [linesTo]
theorem bl10 : isBl 10 := by unfold isBl; decide
theorem bl32 : isBl 32 := by unfold isBl; decide
theorem Blanks.nil : Blanks [] := by intro b hb; cases hb
theorem Blanks.cons {b : UInt8} {l : List UInt8} (h : isBl b) (hl : Blanks l) : Blanks (b :: l) := by
  intro x hx
  rcases List.mem_cons.1 hx with rfl | hx
  · exact h
  · exact hl x hx
theorem Blanks.app {a b : List UInt8} (ha : Blanks a) (hb : Blanks b) : Blanks (a ++ b) := by
  intro x hx
  rcases List.mem_append.1 hx with hx | hx
  · exact ha x hx
  · exact hb x hx
theorem noBl_cons {b : UInt8} {l : List UInt8} (h : ¬ isBl b) : NoBl (b :: l) := by
  intro x r he
  cases he
  exact h
/-- Between two elements: what 'take' sees. -/
theorem take_at {f : Nat → List UInt8} {n i : Nat} {ind tl : List UInt8} {c0 : UInt8} {b0 : Nat → UInt8} {g : Nat → List UInt8} (hi : i ≤ n) (hind : Blanks ind) (hf : ∀ j, j < n → f j = ind ++ ([32, 32] ++ (b0 j :: g j))) (hc : ¬ isBl c0) (h44 : c0 ≠ 44) (hb : ∀ j, j < n → ¬ isBl (b0 j) ∧ b0 j ≠ c0) :
    ∃ ws rest, restAt f n i (ind ++ (c0 :: tl)) = ws ++ rest ∧ Blanks ws ∧ NoBl rest ∧ ((i < n ∧ headN rest ≠ c0.toNat ∧ ((0 < i ∧ rest = 44 :: ([10] ++ (f i ++ restAt f n (i + 1) (ind ++ (c0 :: tl))))) ∨ (i = 0 ∧ rest = b0 i :: (g i ++ restAt f n (i + 1) (ind ++ (c0 :: tl)))))) ∨ (i = n ∧ rest = c0 :: tl)) := by
  rcases Nat.lt_or_eq_of_le hi with h | h
  · rw [restAt_step h]
    rcases Nat.eq_zero_or_pos i with h0 | h0
    · refine ⟨[10] ++ (ind ++ [32, 32]), b0 i :: (g i ++ restAt f n (i + 1) (ind ++ (c0 :: tl))), ?_, ?_, noBl_cons (hb i h).1, .inl ⟨h, ?_, .inr ⟨h0, rfl⟩⟩⟩
      · rw [if_neg (by omega), hf i h]; simp
      · exact .app (.cons bl10 .nil) (.app hind (.cons bl32 (.cons bl32 .nil)))
      · intro he
        exact (hb i h).2 (UInt8.toNat_inj.1 he)
    · refine ⟨[], 44 :: ([10] ++ (f i ++ restAt f n (i + 1) (ind ++ (c0 :: tl)))), ?_, .nil, noBl_cons (by unfold isBl; decide), .inl ⟨h, ?_, .inl ⟨h0, rfl⟩⟩⟩
      · rw [if_pos h0]; simp
      · intro he
        exact h44 (UInt8.toNat_inj.1 he).symm
  · subst h
    refine ⟨[10] ++ ind, c0 :: tl, ?_, .app (.cons bl10 .nil) hind, noBl_cons hc, .inr ⟨rfl, rfl⟩⟩
    rw [restAt_end]; simp
theorem range_snoc (i : Nat) : (List.range i).map encN ++ [encN i] = (List.range (i + 1)).map encN := by rw [List.range_succ, List.map_append]; rfl
/-- The places in the order of their keys give the sorted pairs. -/
theorem places_srt {α : Type} (dflt : α) (ks : List ByteArray) (vs : List α) (ds : List Nat) (hl : ks.length = vs.length) (hn : ks.Nodup) (hp : ds.Perm (List.range ks.length)) (hs : ds.Pairwise (fun x y => ltK ks y x = false)) :
    srtP (ks.zip vs) = ds.map (fun i => (ks.getD i ⟨#[]⟩, vs.getD i dflt)) := by
  have hall : (List.range ks.length).map (fun i => (ks.getD i ⟨#[]⟩, vs.getD i dflt)) = ks.zip vs := by
    apply List.ext_getElem
    · simp; omega
    · intro i h1 h2
      simp only [List.length_map, List.length_range] at h1
      rw [List.getElem_map, List.getElem_range, List.getElem_zip, getD_at h1, getD_at (by omega)]
  refine srtP_eq ?_ ?_ ?_
  · rw [← hall]
    exact hp.map _
  · rw [List.pairwise_map]
    exact hs.imp fun h => List.not_lt.1 (of_decide_eq_false h)
  · rw [map_fst_zip (by omega)]; exact hn
theorem places_lt {n : Nat} {ds : List Nat} (hp : ds.Perm (List.range n)) : ∀ x ∈ ds, x < n := fun x hx => List.mem_range.1 (hp.mem_iff.1 hx)
/-- Neighbours in the order have other keys. -/
theorem places_ne {ks : List ByteArray} {ds : List Nat} (hn : ks.Nodup) (hp : ds.Perm (List.range ks.length)) {i j : Nat} (hij : i < j) (hj : j < ds.length) : ks.getD (ds[i]'(by omega)) ⟨#[]⟩ ≠ ks.getD ds[j] ⟨#[]⟩ := by
  have h1 := places_lt hp _ (List.getElem_mem (show i < ds.length by omega))
  have h2 := places_lt hp _ (List.getElem_mem hj)
  rw [getD_at h1, getD_at h2]
  intro he
  have hnd : ds.Nodup := hp.nodup_iff.2 List.nodup_range
  have h3 := (List.getElem_inj hn).1 he
  have h4 := (List.getElem_inj hnd).1 h3
  omega
end Go.Jw

namespace Go.Jw
open Go Go.RowKit Go.Proofs
set_option maxRecDepth 8000
open Go.Sort (SWO)
section rules
variable {P : Program} {n : Nat} {F : List Nat} {c : Ctx F} {ops : Array Oper} {d : Nat} {T : TypeId} {l : List Oper} {k : List KI} {Q : Post} {e : Env} {M : List HA} {D : List DA}
theorem op_makeIface {x : Operand} {v : Value} {S : TypeId} (hS : P.concrete S = true) (hd : Nat.blt d n = true) (hx : ev e x = some v) (next : RunOps P n c ops l k Q ((d, .iface S v) :: e) M D) : RunOp P n c ops (some d) (.makeInterface S x) T l k Q e M D :=
  wF hd (fun a w hf => by
    have := run_makeInterface (P := P) (w := w) S v hS
    simp [execOp, opr, hf.ev hx, this]) next
/-- A row with elements has a block. -/
theorem run_rowA (i : Nat) {A : Option Addr} {m cap U sz : Nat} {xs : List Value} (hi : M[i]? = some (.row A m cap U sz xs)) (h0 : m ≠ 0) (next : ∀ b, A = some ⟨b, 0, none⟩ → Run P n c k Q e M D) : Run P n c k Q e M D := by
  intro a w hf
  have hrow := hf.toFitsW.mem hi
  rcases hrow.2 with ⟨_, h⟩ | ⟨g, cap', cur, hv, _⟩
  · exact absurd h h0
  · injection hv with h4
    exact next g h4 a w hf
theorem row_at {w : World} (h : FitsW c M D w) {i j : Nat} {A : Addr} {m cap U : Nat} {xs : List Value} {v : Value} (hi : M[i]? = some (.row (some A) m cap U 1 xs)) (hv : xs[j]? = some v) : w.cell? (A.add (j * 1)) = some v := by
  obtain ⟨_, _, h3⟩ := row_cells (h.mem hi)
  obtain ⟨a, ha, _, hc⟩ := h3 j v hv
  cases ha
  rw [Nat.mul_one]
  exact hc
theorem row_atA {w : World} (h : FitsW c M D w) {i j : Nat} {A : Option Addr} {m cap U : Nat} {xs : List Value} {v : Value} (hi : M[i]? = some (.row A m cap U 1 xs)) (hv : xs[j]? = some v) : w.cell? (At A (j * 1)) = some v := by
  obtain ⟨_, _, h3⟩ := row_cells (h.mem hi)
  obtain ⟨a, ha, _, hc⟩ := h3 j v hv
  subst ha
  rw [Nat.mul_one]
  exact hc
theorem st_idxRow (i : Nat) {x y : Operand} {A : Option Addr} {m cap j : Nat} {kd : IntKind} {S E sz by_ U : Nat} {xs : List Value} (hS : SliceOf P S E sz by_) (hx : ev e x = some (.slice A m cap)) (hy : ev e y = some (.int kd (j : Nat))) (hi : M[i]? = some (.row A m cap U 1 xs)) (hj : j < m) :
    St P n c (.indexAddr S x y) T e M D (.pointer (some (At A (j * sz)))) := by
  intro d a w hf
  obtain ⟨_, _, h3⟩ := row_cells (hf.toFitsW.mem hi)
  have hl : xs.length = m := by have := (hf.toFitsW.mem hi : (HA.row A m cap U 1 xs).holds w).1; omega
  obtain ⟨a', ha, _⟩ := h3 j xs[j] (List.getElem?_eq_getElem (by omega))
  subst ha
  exact st_indexAddr (T := T) hS hx hy hj d a w hf
end rules
theorem bs_rl (s : ByteArray) : bs (rl s) = s := rl_inj (by rw [rl_bs])
theorem c98u (rb : Nat) (S : ByteArray) (p : Nat) (bd : Bool) (ws rest : List UInt8) (hS : Sf S p (ws ++ rest)) (hws : Blanks ws) (hr : NoBl rest) (hm : S.size ≤ maxLen) (b : UInt8) (hb : ¬ isBl b) (h0 : b.toNat ≠ 0) :
    Ct Tryz.prog 98 #[ptr rb, .int .u8 (b.toNat : Int)] [rblk rb S p bd] [] (fun u M' D' => ∃ bb : Bool, u = .bool bb ∧ M' = [rblk rb S (p + ws.length + bb.toNat) bd] ∧ D' = [] ∧ (bb = true ↔ ∃ r, rest = b :: r)) := by
  by_cases h : ∃ r, rest = b :: r
  · obtain ⟨r, rfl⟩ := h
    refine (c98h rb S p bd ws b r hS hws hb hm).mono ?_
    rintro u M' D' ⟨rfl, rfl, rfl⟩
    exact ⟨true, rfl, rfl, rfl, by simp⟩
  · have hne : headN rest ≠ b.toNat := by
      cases rest with
      | nil => exact fun h => h0 h.symm
      | cons x r => exact fun he => h ⟨r, by rw [UInt8.toNat_inj.1 he]⟩
    refine (c98m rb S p bd ws rest hS hws hr hm b.toNat hne).mono ?_
    rintro u M' D' ⟨rfl, rfl, rfl⟩
    exact ⟨false, rfl, rfl, rfl, by simpa using h⟩
/-- The reader's contract for a value's text. -/
def C55 (u : V) : Prop := ∀ (d dep rb : Nat) (S : ByteArray) (p : Nat) (ind ws tl : List UInt8), IsPlain d (srtV u) → d < dep → dep ≤ 1000 → Sf S p (ws ++ (rend u ind ++ tl)) → Blanks ws → Blanks ind → S.size ≤ maxLen →
  Ct Tryz.prog 55 #[ptr rb, .int .i64 (dep : Int)] [rblk rb S p false] [] (fun r M' D' => ∃ q, Sf S q tl ∧ M' = [rblk rb S q false] ∧ RV (srtV u) r D')
def EasyL (k : ByteArray) : Prop := k.size ≤ 1000000 ∧ ∀ b ∈ rl k, 32 ≤ b.toNat ∧ b.toNat ≠ 34 ∧ b.toNat ≠ 92
theorem less_ok (ks : List ByteArray) (A : Option Addr) (m ca b5 b8 pb n c8 : Nat) : ∀ (W : World) (dk : List Nat), dk.length = n → (∀ x ∈ dk, x < ks.length) → (∀ x ∈ [HA.blk b8 [.slice (some ⟨pb, 0, none⟩) n c8] 139], x.holds W) → (∀ j x, dk[j]? = some x → W.cell? ⟨pb, j, none⟩ = some (encN x)) →
    (∃ ok, ∀ d ∈ [DA.dblk b5 [.slice A m ca] 22, .strs (.slice A m ca) ks], d.p W ok) → ∀ (i j : Nat) (hi : i < dk.length) (hj : j < dk.length),
      Calls Tryz.prog 131 (#[.int .i64 i, .int .i64 j] ++ #[ptr b5, ptr b8]) W fun e w' => e = .returned (.bool (ltK ks dk[i] dk[j])) ∧ ∃ q, w' = W.drewN q := by
  intro W dk hn hlt hM hdk hD i j hi hj
  obtain ⟨ok, hD⟩ := hD
  have h1 : BlkP W ok b5 [.slice A m ca] 22 := hD _ List.mem_cons_self
  obtain ⟨A', c', hv, _, _, _, hk⟩ : StrsP W ok (.slice A m ca) ks := hD _ (List.mem_cons_of_mem _ List.mem_cons_self)
  injection hv with e1 e2 e3
  subst e1; subst e2; subst e3
  obtain ⟨a, rfl, _⟩ := hk dk[i] _ (List.getElem?_eq_getElem (hlt _ (List.getElem_mem hi)))
  refine less131 W ks dk b5 b8 pb n c8 a ca ?_ ?_ hn hdk (fun j s hj => ?_) hlt i j hi hj
  · rw [cell_blk h1.2]; rfl
  · have := hM _ List.mem_cons_self
    rw [cell_blk this]; rfl
  · obtain ⟨a', ha, _, hc⟩ := hk j s hj
    cases ha
    rw [Nat.mul_one] at hc
    exact hc
theorem snoc_take {α β : Type} {f : α → β} {ts : List α} {i : Nat} {x : β} (hi : i < ts.length) (hx : x = f ts[i]) : (ts.take i).map f ++ [x] = (ts.take (i + 1)).map f := by
  subst hx; exact snoc_map hi
theorem take_get {α β : Type} {f : α → β} {ds : List α} {i j : Nat} (h : j < i) (hj : j < ds.length) : ((ds.take i).map f)[j]? = some (f ds[j]) := by
  rw [List.getElem?_map, List.getElem?_take, if_pos h, List.getElem?_eq_getElem hj]; rfl
theorem fun131 : Fun Tryz.prog 131 := ⟨_, Tryz.func131, by kernel_rfl, rfl⟩
section rules
variable {P : Program} {n : Nat} {F : List Nat} {c : Ctx F} {ops : Array Oper} {k : List KI} {Q : Post} {e : Env} {M : List HA} {D : List DA} {I : List (List Nat)} {S : List (List HA × List DA)} {listed : Array Bool} {fuel : Nat}
/-- An element of a slice of values, its cells named. -/
theorem any_itemX {A : Option Addr} {m cap i : Nat} {ts : List V} {t : V} (j : Nat) (hj : D[j]? = some (.vals (.slice A m cap) ts)) (hi : ts[i]? = some t)
    (next : ∀ A1 c1 A2 c2, RunAny P n c ops k Q fuel I S listed e M (.cells A (i * 5) [.int .i64 t.kind, .int .i64 t.num, .string t.text, .slice A1 t.keys.length c1, .slice A2 t.items.length c2] :: .val (.agg #[.int .i64 t.kind, .int .i64 t.num, .string t.text, .slice A1 t.keys.length c1, .slice A2 t.items.length c2]) t :: D)) : RunAny P n c ops k Q fuel I S listed e M D := by
  intro a w hf hT
  obtain ⟨A', c', hv, _, _, hit⟩ : ValsP w (c.now M w) (.slice A m cap) ts := hf.dat _ (List.mem_of_getElem? hj)
  injection hv with hA hm
  subst hA
  obtain ⟨a', v, ha, hok, hcells, hval⟩ := hit.get hi
  subst ha
  obtain ⟨q, r, s, ks, its⟩ := t
  have hval' := hval
  simp only [ValP] at hval'
  obtain ⟨kv, iv, rfl, _, ⟨A1, c1, rfl, _⟩, A2, c2, rfl, _⟩ := hval'
  refine next A1 c1 A2 c2 a w (hf.world (hf.toFitsW.data fun x hx => ?_)) hT
  rcases List.mem_cons.1 hx with rfl | hx
  · refine ⟨a', rfl, hok, fun p u hp => ?_⟩
    have hp' : ([.int .i64 q, .int .i64 r, .string s, .slice A1 ks.length c1, .slice A2 its.length c2] : List Value)[p]? = some u := hp
    have := hcells p u (by simpa [Value.cells] using hp')
    rwa [Nat.zero_add] at this
  rcases List.mem_cons.1 hx with rfl | hx
  · exact hval
  · exact hf.dat x hx
end rules

set_option maxHeartbeats 4000000 in
theorem c96 (ks : List ByteArray) (us : List V) (hl : ks.length = us.length) (h60 : us.length ≤ 60) (hnd : ks.Nodup) (hks : ∀ k ∈ ks, EasyL k) (H : ∀ x ∈ us, C55 x) (d0 dep rb : Nat) (hpl : ∀ x ∈ us, IsPlain d0 (srtV x)) (hdd : d0 + 1 < dep) (hd1 : dep ≤ 1000) (S : ByteArray) (p : Nat) (ind ws tl : List UInt8) (R : Nat → List UInt8) (hR : ∀ i, R i = rend (us.getD i zV0) (ind ++ [32, 32]))
    (hS : Sf S p (ws ++ (rendM (fun i => rl (ks.getD i ⟨#[]⟩)) R ind us.length ++ tl))) (hws : Blanks ws) (hind : Blanks ind) (hm : S.size ≤ maxLen) : Ct Tryz.prog 96 #[ptr rb, .int .i64 (dep : Int)] [rblk rb S p false] [] (fun r M' D' => ∃ q, Sf S q tl ∧ M' = [rblk rb S q false] ∧ RV (srtV (.mk 5 0 ⟨#[]⟩ ks us)) r D') := by
  refine Ct.of_run (args := [ptr rb, .int .i64 (dep : Int)]) Tryz.func96 (by kernel_rfl) rfl Tryz.ntmps96 rfl (fun c => ?_)
  have hszs : ∀ s ∈ ks, s.size ≤ maxLen := fun s hs => by have := (hks s hs).1; unfold maxLen; omega
  have hS0 : Sf S p (ws ++ (123 :: (restAt (lineM (fun j => rl (ks.getD j ⟨#[]⟩)) R ind) us.length 0 (ind ++ (125 :: tl))))) := by
    rw [← restAt_zero]
    simp only [rendM, List.append_assoc, List.cons_append, List.nil_append] at hS ⊢
    exact hS
  have hS1 : Sf S (p + ws.length + 1) (restAt (lineM (fun j => rl (ks.getD j ⟨#[]⟩)) R ind) us.length 0 (ind ++ (125 :: tl))) := hS0.adv.adv1
  refine zD (zB ?_)
  refine zA (yX ze25 rfl (fun b4 => ?_))
  change RunOps _ _ _ _ _ _ _ _ (HA.blk _ [_, _, _, _, _] _ :: _) _
  refine zC (zD ?_)
  refine zB (zA ?_)
  refine zF rfl rfl (zA ?_)
  refine zY 1 rfl rfl rfl (c97 rb S p ws 123 _ hS0 hws (by unfold isBl; decide) hm) rfl sub0 (fun u14 M14 D14 hv14 => ?_)
  obtain ⟨rfl, rfl, rfl⟩ := hv14
  refine zC (zD ?_)
  refine zB (zA ?_)
  refine op_buildSlice0 sl22 rfl (fun b15 => ?_)
  refine zA (op_buildSlice0 sl23 rfl (fun b16 => ?_))
  refine zA (yX ze22 rfl (fun b5 => ?_))
  change RunOps _ _ _ _ _ _ _ _ (HA.blk _ [_] _ :: _) _
  refine zA (zU 0 (M' := [HA.blk _ [_] _, _, _, _, _]) rfl rfl rfl rfl si22 rfl rfl rfl ?_)
  refine zA (zE rfl rfl ?_)
  refine zC (zD ?_)
  refine zP (zG [6, 5, 4, 0, 1] ?_)
  change Run _ _ _ _ _ [(6, _), (5, _), (4, _), (0, _), (1, _)] _ _
  refine run_its0 (run_mem (M' := HA.blk b5 [.slice (some ⟨b15, 0, none⟩) 0 0] 22 :: HA.row (some ⟨b16, 0, none⟩) 0 0 25 5 [] :: HA.row (some ⟨b15, 0, none⟩) 0 0 9 1 [] :: rblk rb S (p + ws.length + 1) false :: HA.blk b4 [.int .i64 0, .int .i64 0, .string ⟨#[]⟩, .slice none 0 0, .slice none 0 0] 25 :: []) (.refl _) ?_)
  refine xN 1 (fun (⟨i, q, A, ca, A2, c2, xs2⟩ : Nat × Nat × Option Addr × Nat × Option Addr × Nat × List Value) => i ≤ us.length ∧ Sf S q (restAt (lineM (fun j => rl (ks.getD j ⟨#[]⟩)) R ind) us.length i (ind ++ (125 :: tl)))) (fun (⟨i, q, A, ca, A2, c2, xs2⟩ : Nat × Nat × Option Addr × Nat × Option Addr × Nat × List Value) => [(6, .slice A2 i c2)]) (fun (⟨i, q, A, ca, A2, c2, xs2⟩ : Nat × Nat × Option Addr × Nat × Option Addr × Nat × List Value) => HA.blk b5 [.slice A i ca] 22 :: HA.row A2 i c2 25 5 xs2 :: HA.row A i ca 9 1 ((ks.take i).map Value.string) :: rblk rb S q false :: HA.blk b4 [.int .i64 0, .int .i64 0, .string ⟨#[]⟩, .slice none 0 0, .slice none 0 0] 25 :: []) (fun (⟨i, q, A, ca, A2, c2, xs2⟩ : Nat × Nat × Option Addr × Nat × Option Addr × Nat × List Value) => .its xs2 ((us.take i).map srtV) :: []) (fun (⟨i, q, A, ca, A2, c2, xs2⟩ : Nat × Nat × Option Addr × Nat × Option Addr × Nat × List Value) => us.length - i) (0, _, _, _, _, _, []) (⟨by show 0 ≤ _; omega, hS1⟩) (EnvLe.cons rfl (EnvLe.nil _)) rfl rfl ?_ (EnvLe.cons rfl (EnvLe.cons rfl (EnvLe.cons rfl (EnvLe.cons rfl (EnvLe.nil _)))))
  intro ⟨i, q, A, ca, A2, c2, xs2⟩ hI K hK
  replace hI : i ≤ us.length ∧ Sf S q (restAt (lineM (fun j => rl (ks.getD j ⟨#[]⟩)) R ind) us.length i (ind ++ (125 :: tl))) := hI
  change Run _ _ _ _ _ [(6, .slice A2 i c2), (5, _), (4, _), (0, _), (1, _)] (HA.blk b5 [.slice A i ca] 22 :: HA.row A2 i c2 25 5 xs2 :: HA.row A i ca 9 1 ((ks.take i).map Value.string) :: rblk rb S q false :: HA.blk b4 [.int .i64 0, .int .i64 0, .string ⟨#[]⟩, .slice none 0 0, .slice none 0 0] 25 :: []) (.its xs2 ((us.take i).map srtV) :: [])
  obtain ⟨hi, hq⟩ := hI
  obtain ⟨ws1, rest1, hre, hws1, hnb1, hcase⟩ := take_at (f := (lineM (fun j => rl (ks.getD j ⟨#[]⟩)) R ind)) (n := us.length) (i := i) (ind := ind) (tl := tl) (c0 := 125) (b0 := fun _ => 34) (g := fun j => rl (ks.getD j ⟨#[]⟩) ++ ([34, 58, 32] ++ R j)) hi hind (fun j hj => rfl) (by unfold isBl; decide) (by decide) (fun j hj => ⟨by unfold isBl; decide, by decide⟩)
  rw [hre] at hq
  refine zD (zD ?_)
  refine zB (zA ?_)
  refine zF rfl rfl (zA ?_)
  refine zY 3 rfl rfl rfl (c98u rb S q false ws1 rest1 hq hws1 hnb1 hm 125 (by unfold isBl; decide) (by decide)) rfl sub0 (fun u18 M18 D18 hv18 => ?_)
  obtain ⟨bb, rfl, rfl, rfl, hbb⟩ := hv18
  refine zA (wI rfl rfl ?_)
  refine zA (zF rfl rfl ?_)
  refine yZ (s := 20) rfl (fun h20 => ?_) (fun h20 => ?_)
  · obtain rfl : bb = false := by cases bb <;> simp_all
    have hq2 : Sf S (q + ws1.length) rest1 := hq.adv
    obtain ⟨hlt, hne, hsp⟩ := hcase.resolve_right (fun h => by have := hbb.2 ⟨tl, h.2⟩; cases this)
    have hlk : i < ks.length := by omega
    have hki : ks.getD i ⟨#[]⟩ = ks[i] := getD_at hlk
    have hui : us.getD i zV0 = us[i] := getD_at hlt
    refine zM rfl rfl (zF rfl rfl ?_)
    refine zM rfl rfl (zH rfl rfl ?_)
    refine zM rfl rfl (zJ fo61_2 rfl rfl ?_)
    refine zM rfl rfl (zS 0 sc4 rfl rfl rfl rfl ?_)
    refine zM rfl rfl (wI rfl rfl ?_)
    refine zA (zR rfl rfl rfl ?_)
    refine zC (zG [26, 6, 5, 4, 0, 1] ?_)
    change Run _ _ _ _ _ [(26, _), (6, _), (5, _), (4, _), (0, _), (1, _)] _ _
    refine xG rfl (rfl) (zL ?_)
    refine zP (zD ?_)
    refine zD (zB ?_)
    refine zA (zS 1 sc22 rfl rfl rfl rfl ?_)
    refine zA (yO sl22 rfl rfl ?_)
    refine zA (op_gtr rfl rfl rfl ?_)
    refine zC (zG [29, 6, 5, 4, 0, 1] ?_)
    change Run _ _ _ _ _ [(29, _), (6, _), (5, _), (4, _), (0, _), (1, _)] _ _
    refine yU [6, 5, 4, 0, 1] (fun (q3 : Nat) => ∃ ws3, Blanks ws3 ∧ Sf S q3 (ws3 ++ (34 :: (rl (ks.getD i ⟨#[]⟩) ++ (34 :: 58 :: 32 :: (R i ++ restAt (lineM (fun j => rl (ks.getD j ⟨#[]⟩)) R ind) us.length (i + 1) (ind ++ (125 :: tl)))))))) (fun (q3 : Nat) => []) (fun (q3 : Nat) => HA.blk b5 [.slice A i ca] 22 :: HA.row A2 i c2 25 5 xs2 :: HA.row A i ca 9 1 ((ks.take i).map Value.string) :: rblk rb S q3 false :: HA.blk b4 [.int .i64 0, .int .i64 0, .string ⟨#[]⟩, .slice none 0 0, .slice none 0 0] 25 :: []) (fun (q3 : Nat) => .its xs2 ((us.take i).map srtV) :: []) ?_ ?_
    · intro Kj1 hKj1
      refine zT rfl (fun h29 => ?_) (fun h29 => ?_)
      · have hr1 := (hsp.resolve_right (fun h => by omega)).2
        rw [hr1] at hq2
        refine zB (zA ?_)
        refine zF rfl rfl (zA ?_)
        refine zY 0 rfl rfl rfl (c97 rb S (q + ws1.length) [] 44 _ hq2 Blanks.nil (by unfold isBl; decide) hm) rfl sub0 (fun u31 M31 D31 hv31 => ?_)
        obtain ⟨rfl, rfl, rfl⟩ := hv31
        refine zC ?_
        exact kQ (hKj1 _ ⟨[10] ++ (ind ++ [32, 32]), .app (.cons bl10 .nil) (.app hind (.cons bl32 (.cons bl32 .nil))), by have h3 := hq2.adv1; simp only [lineM, List.append_assoc, List.cons_append, List.nil_append] at h3 ⊢; exact h3⟩) (EnvLe.cons rfl (EnvLe.cons rfl (EnvLe.cons rfl (EnvLe.cons rfl (EnvLe.cons rfl (EnvLe.nil _))))))
      refine zL ?_
      have hr1 := (hsp.resolve_left (fun h => by omega)).2
      rw [hr1] at hq2
      exact kQ (hKj1 _ ⟨[], .nil, by simp only [List.append_assoc, List.cons_append, List.nil_append] at hq2 ⊢; exact hq2⟩) (EnvLe.cons rfl (EnvLe.cons rfl (EnvLe.cons rfl (EnvLe.cons rfl (EnvLe.cons rfl (EnvLe.nil _))))))
    intro q3 hI
    replace hI : ∃ ws3, Blanks ws3 ∧ Sf S q3 (ws3 ++ (34 :: (rl (ks.getD i ⟨#[]⟩) ++ (34 :: 58 :: 32 :: (R i ++ restAt (lineM (fun j => rl (ks.getD j ⟨#[]⟩)) R ind) us.length (i + 1) (ind ++ (125 :: tl))))))) := hI
    change Run _ _ _ _ _ [(6, _), (5, _), (4, _), (0, _), (1, _)] (HA.blk b5 [.slice A i ca] 22 :: HA.row A2 i c2 25 5 xs2 :: HA.row A i ca 9 1 ((ks.take i).map Value.string) :: rblk rb S q3 false :: HA.blk b4 [.int .i64 0, .int .i64 0, .string ⟨#[]⟩, .slice none 0 0, .slice none 0 0] 25 :: []) (.its xs2 ((us.take i).map srtV) :: [])
    obtain ⟨ws3, hws3, hq3⟩ := hI
    have hq4 := hq3.adv
    rw [hki] at hq3 hq4
    have hek := hks _ (List.getElem_mem hlk)
    have hq5 : Sf S (q3 + ws3.length + ([] : List UInt8).length + 1 + (rl ks[i]).length + 1) (58 :: 32 :: (R i ++ restAt (lineM (fun j => rl (ks.getD j ⟨#[]⟩)) R ind) us.length (i + 1) (ind ++ (125 :: tl)))) := hq4.adv1.adv.adv1
    have hq6 : Sf S (q3 + ws3.length + ([] : List UInt8).length + 1 + (rl ks[i]).length + 1 + ([] : List UInt8).length + 1) ([32] ++ (R i ++ restAt (lineM (fun j => rl (ks.getD j ⟨#[]⟩)) R ind) us.length (i + 1) (ind ++ (125 :: tl)))) := hq5.adv1
    have hRi : R i = rend us[i] (ind ++ [32, 32]) := by rw [hR, hui]
    rw [hRi] at hq6
    refine zD (zB ?_)
    refine zA (zF rfl rfl ?_)
    refine zA ?_
    refine zY 3 rfl rfl rfl (c56 rb S q3 false ws3 _ hq3 hws3 (noBl_cons (by unfold isBl; decide)) hm) rfl sub0 (fun u33 M33 D33 hv33 => ?_)
    obtain ⟨rfl, rfl, rfl⟩ := hv33
    refine zC (zD ?_)
    refine zB (zA ?_)
    refine zF rfl rfl (zA ?_)
    refine zY 0 rfl rfl rfl (c100 rb S (q3 + ws3.length) [] (rl ks[i]) _ hq4 Blanks.nil hek.2 hek.1 hm) rfl sub0 (fun u35 M35 D35 hv35 => ?_)
    obtain ⟨rfl, rfl, rfl⟩ := hv35
    rw [bs_rl]
    refine zA (zE rfl rfl ?_)
    refine zC (zD ?_)
    refine zB (zA ?_)
    refine zF rfl rfl (zA ?_)
    refine zY 0 rfl rfl rfl (c97 rb S _ [] 58 _ hq5 Blanks.nil (by unfold isBl; decide) hm) rfl sub0 (fun u37 M37 D37 hv37 => ?_)
    obtain ⟨rfl, rfl, rfl⟩ := hv37
    refine zC (zD ?_)
    refine zB (zA ?_)
    refine zS 1 sc22 rfl rfl rfl rfl (zA ?_)
    refine zF rfl rfl (zA ?_)
    refine yC sl22 rfl rfl rfl rfl rfl (fun b40 => ?_)
    refine zA ?_
    refine yY 4 0 sl22 rfl rfl rfl rfl rfl rfl rfl (by unfold maxLen; omega) (by omega) (fun A41 c41 => ?_)
    refine zA (zU 2 (M' := [_, _, HA.blk _ [_] _, _, _, _]) rfl rfl rfl rfl si22 rfl rfl rfl ?_)
    refine zC (zG [6, 5, 4, 0, 1] ?_)
    change Run _ _ _ _ _ [(6, _), (5, _), (4, _), (0, _), (1, _)] _ _
    refine zB (zA ?_)
    refine zF rfl rfl (zA ?_)
    refine zF rfl rfl (zA ?_)
    refine zF rfl rfl (zA ?_)
    refine op_subF (s := ((dep - 1 : Nat) : Int)) rfl rfl rfl (by omega) (by omega) (by omega) (zA ?_)
    refine zY 1 rfl rfl rfl (H _ (List.getElem_mem hlt) d0 (dep - 1) rb S _ (ind ++ [32, 32]) [32] _ (hpl _ (List.getElem_mem hlt)) (by omega) (by omega) hq6 (.cons bl32 .nil) (.app hind (.cons bl32 (.cons bl32 .nil))) hm) rfl sub0 (fun u46 M46 D46 hv46 => ?_)
    obtain ⟨q46, hq46, rfl, A46, c46, B46, d46, rfl, rfl⟩ := hv46
    refine zA (yC sl23 rfl rfl rfl rfl rfl (fun b47 => ?_))
    refine zA ?_
    refine yY 4 0 sl23 rfl rfl rfl rfl rfl rfl rfl (by unfold maxLen; omega) (by omega) (fun A48 c48 => ?_)
    refine zA (zE rfl rfl ?_)
    refine zC (zQ ?_)
    refine run_snoc 1 0 rfl rfl rfl ?_
    rw [snoc_map (f := srtV) hlt, snoc_map (f := Value.string) hlk]
    exact kQ (hK (i + 1, q46, _, _, _, _, _) (⟨by show i + 1 ≤ _; omega, hq46⟩) (by show us.length - (i + 1) < us.length - i; omega)) (EnvLe.cons rfl (EnvLe.cons rfl (EnvLe.cons rfl (EnvLe.cons rfl (EnvLe.cons rfl (EnvLe.nil _)))))) (hD := (subc 0 rfl (by intro d hd; repeat (first | exact hd | apply List.mem_cons_of_mem))))
  obtain rfl : bb = true := by cases bb <;> simp_all
  obtain ⟨r1, hr1⟩ := hbb.1 rfl
  obtain ⟨rfl, hr2⟩ := hcase.resolve_left (fun h => h.2.1 (by rw [hr1]; rfl))
  rw [hr2] at hq
  have hqe : Sf S (q + ws1.length + 1) tl := hq.adv.adv1
  have hkt : ks.take us.length = ks := by rw [← hl]; exact List.take_length
  rw [List.take_length, hkt]
  refine zI rfl rfl rfl rfl (zI rfl rfl rfl rfl ?_)
  refine zI rfl rfl rfl rfl (zI rfl rfl rfl rfl ?_)
  refine zI rfl rfl rfl rfl (zA ?_)
  refine zR rfl rfl rfl (zC ?_)
  refine zG [26, 6, 5, 4, 0, 1] ?_
  change Run _ _ _ _ _ [(26, _), (6, _), (5, _), (4, _), (0, _), (1, _)] _ _
  refine run_false rfl (yL rfl ?_)
  refine zD (zB ?_)
  refine zA (op_buildSlice0 sl139 rfl (fun b49 => ?_))
  refine zA (yX ze139 rfl (fun b8 => ?_))
  change RunOps _ _ _ _ _ _ _ _ (HA.blk _ [_] _ :: _) _
  refine zA (zU 0 (M' := [HA.blk _ [_] _, _, _, _, _, _, _]) rfl rfl rfl rfl si139 rfl rfl rfl ?_)
  refine zC (zD ?_)
  refine zD (zB ?_)
  refine zA (zS 3 sc22 rfl rfl rfl rfl ?_)
  refine zA (yO sl22 rfl rfl ?_)
  refine zA (zF rfl rfl ?_)
  refine zC (zP ?_)
  refine zG [52, 51, 8, 6, 5, 4, 0] ?_
  change Run _ _ _ _ _ [(52, _), (51, _), (8, _), (6, _), (5, _), (4, _), (0, _)] _ _
  refine xN 1 (fun (⟨i2, pb, c8⟩ : Nat × Nat × Nat) => i2 ≤ us.length) (fun (⟨i2, pb, c8⟩ : Nat × Nat × Nat) => [(52, .int .i64 ((i2 : Nat) : Int))]) (fun (⟨i2, pb, c8⟩ : Nat × Nat × Nat) => HA.blk b8 [.slice (some ⟨pb, 0, none⟩) i2 c8] 139 :: HA.row (some ⟨pb, 0, none⟩) i2 c8 3 1 ((List.range i2).map encN) :: rblk rb S (q + ws1.length + 1) false :: HA.blk b5 [.slice A us.length ca] 22 :: HA.row A2 us.length c2 25 5 xs2 :: HA.row A us.length ca 9 1 (ks.map Value.string) :: HA.blk b4 [.int .i64 0, .int .i64 0, .string ⟨#[]⟩, .slice none 0 0, .slice none 0 0] 25 :: []) (fun (⟨i2, pb, c8⟩ : Nat × Nat × Nat) => .its xs2 (us.map srtV) :: []) (fun (⟨i2, pb, c8⟩ : Nat × Nat × Nat) => us.length - i2) (0, _, _) (by show 0 ≤ _; omega) (EnvLe.cons rfl (EnvLe.nil _)) rfl rfl ?_ (EnvLe.cons rfl (EnvLe.cons rfl (EnvLe.cons rfl (EnvLe.cons rfl (EnvLe.cons rfl (EnvLe.cons rfl (EnvLe.nil _)))))))
  intro ⟨i2, pb, c8⟩ hI K hK1
  replace hI : i2 ≤ us.length := hI
  change Run _ _ _ _ _ [(52, .int .i64 ((i2 : Nat) : Int)), (51, _), (8, _), (6, _), (5, _), (4, _), (0, _)] (HA.blk b8 [.slice (some ⟨pb, 0, none⟩) i2 c8] 139 :: HA.row (some ⟨pb, 0, none⟩) i2 c8 3 1 ((List.range i2).map encN) :: rblk rb S (q + ws1.length + 1) false :: HA.blk b5 [.slice A us.length ca] 22 :: HA.row A2 us.length c2 25 5 xs2 :: HA.row A us.length ca 9 1 (ks.map Value.string) :: HA.blk b4 [.int .i64 0, .int .i64 0, .string ⟨#[]⟩, .slice none 0 0, .slice none 0 0] 25 :: []) (.its xs2 (us.map srtV) :: [])
  have hi2 : i2 ≤ us.length := hI
  refine zD (zB ?_)
  refine zA (xL rfl rfl rfl ?_)
  refine zC (zD ?_)
  refine zT rfl (fun h53 => ?_) (fun h53 => ?_)
  · refine zL (zD ?_)
    refine zP (zD ?_)
    refine zB (zA ?_)
    refine zF rfl rfl (zA ?_)
    refine zE rfl rfl (zC ?_)
    refine zB (zA ?_)
    refine zS 0 sc139 rfl rfl rfl rfl (zA ?_)
    refine zF rfl rfl (zA ?_)
    refine yC sl139 rfl rfl rfl rfl rfl (fun b57 => ?_)
    refine zA ?_
    refine yY 2 0 sl139 rfl rfl rfl rfl rfl rfl rfl (by unfold maxLen; omega) (by omega) (fun A58 c58 => ?_)
    refine zA (zU 1 (M' := [_, HA.blk _ [_] _, _, _, _, _, _, _]) rfl rfl rfl rfl si139 rfl rfl rfl ?_)
    refine zC (zQ ?_)
    refine zB (zA ?_)
    refine xC rfl rfl (by omega) (zA ?_)
    refine zF rfl rfl (zC ?_)
    refine zG [52, 51, 8, 6, 5, 4, 0] ?_
    change Run _ _ _ _ _ [(52, _), (51, _), (8, _), (6, _), (5, _), (4, _), (0, _)] _ _
    refine run_rowA 2 rfl (by omega) (fun pb1 hpb => ?_)
    subst hpb
    rw [range_snoc]
    exact kQ (hK1 (i2 + 1, pb1, _) (by show i2 + 1 ≤ _; omega) (by show us.length - (i2 + 1) < us.length - i2; omega)) (EnvLe.cons rfl (EnvLe.cons rfl (EnvLe.cons rfl (EnvLe.cons rfl (EnvLe.cons rfl (EnvLe.cons rfl (EnvLe.cons rfl (EnvLe.nil _))))))))
  obtain rfl : i2 = us.length := by omega
  refine wL 5 ks rfl (by simp [foots, HA.foot]) rfl hszs (run_frVals 4 1 (us.map srtV) rfl rfl (by simp [foots, HA.foot]) (by simp) ?_)
  refine xV 3 rfl (by simp [foots, HA.foot]) (yL rfl ?_)
  refine zD (zB ?_)
  refine zA (zS 0 sc139 rfl rfl rfl rfl ?_)
  refine zA (op_makeIface (by kernel_rfl) rfl rfl ?_)
  refine zA (op_makeFunc rfl rfl rfl ?_)
  refine zA ?_
  refine xF 1 0 rfl rfl rfl (c130 131 #[ptr b5, ptr b8] pb us.length c8 us.length (List.range us.length) (fun x hx => List.mem_range.1 hx) (ltK ks) (ltK_swo ks) [HA.blk b8 [.slice (some ⟨pb, 0, none⟩) us.length c8] 139] [.dblk b5 [.slice A us.length ca] 22, .strs (.slice A us.length ca) ks] (by omega) (fun args w => run_callFunc fun131 args w) (fun W dk h1 h2 => less_ok ks A us.length ca b5 b8 pb us.length c8 W dk h1 (by rw [hl]; exact h2))) rfl rfl (sub2 0 2 rfl rfl) (fun u63 M63 D63 hv63 => ?_)
  obtain ⟨rfl, ⟨ds, hdp, hds, rfl⟩, rfl⟩ := hv63
  have hdl : ds.length = us.length := by rw [hdp.length_eq, List.length_range]
  have hdp2 : ds.Perm (List.range ks.length) := by rw [hl]; exact hdp
  refine zC (zD ?_)
  refine zB (zA ?_)
  refine xR rfl rfl (bu25_0 ..) (zA ?_)
  refine yX ze25 rfl (fun b10 => ?_)
  change RunOps _ _ _ _ _ _ _ _ (HA.blk _ [_, _, _, _, _] _ :: _) _
  refine zA (zU 0 (M' := [HA.blk _ [_, _, _, _, _] _, _, _, _, _]) rfl rfl rfl rfl si25 rfl rfl rfl ?_)
  refine zC (zD ?_)
  refine zD (zB ?_)
  refine zA (zS 2 sc139 rfl rfl rfl rfl ?_)
  refine zA (yO sl139 rfl rfl ?_)
  refine zA (zF rfl rfl ?_)
  refine zC (zG [67, 66, 65, 10, 6, 5, 4, 0] ?_)
  change Run _ _ _ _ _ [(67, _), (66, _), (65, _), (10, _), (6, _), (5, _), (4, _), (0, _)] _ _
  refine zP (zG [67, 66, 65, 10, 6, 5, 4, 0] ?_)
  change Run _ _ _ _ _ [(67, _), (66, _), (65, _), (10, _), (6, _), (5, _), (4, _), (0, _)] _ _
  refine wJ 25 5 (wJ 9 1 ?_)
  refine run_its0 (run_data (D' := .its [] [] :: .dblk b5 [.slice A us.length ca] 22 :: .vals (.slice A2 us.length c2) (us.map srtV) :: .strs (.slice A us.length ca) ks :: []) (subc 0 rfl (subc 1 rfl (sub2 2 3 rfl rfl))) ?_)
  refine xN 1 (fun (⟨i3, KA, kc, KI, ic, xv⟩ : Nat × Option Addr × Nat × Option Addr × Nat × List Value) => i3 ≤ us.length) (fun (⟨i3, KA, kc, KI, ic, xv⟩ : Nat × Option Addr × Nat × Option Addr × Nat × List Value) => [(67, .int .i64 ((i3 : Nat) : Int))]) (fun (⟨i3, KA, kc, KI, ic, xv⟩ : Nat × Option Addr × Nat × Option Addr × Nat × List Value) => HA.row KA i3 kc 9 1 ((ds.take i3).map (fun x => Value.string (ks.getD x ⟨#[]⟩))) :: HA.row KI i3 ic 25 5 xv :: HA.blk b10 [.int .i64 5, .int .i64 0, .string ⟨#[]⟩, .slice KA i3 kc, .slice KI i3 ic] 25 :: HA.row (some ⟨pb, 0, none⟩) us.length c8 3 1 (ds.map encN) :: HA.blk b8 [.slice (some ⟨pb, 0, none⟩) us.length c8] 139 :: rblk rb S (q + ws1.length + 1) false :: HA.blk b4 [.int .i64 0, .int .i64 0, .string ⟨#[]⟩, .slice none 0 0, .slice none 0 0] 25 :: []) (fun (⟨i3, KA, kc, KI, ic, xv⟩ : Nat × Option Addr × Nat × Option Addr × Nat × List Value) => .its xv ((ds.take i3).map (fun x => (us.map srtV).getD x zV0)) :: .dblk b5 [.slice A us.length ca] 22 :: .vals (.slice A2 us.length c2) (us.map srtV) :: .strs (.slice A us.length ca) ks :: []) (fun (⟨i3, KA, kc, KI, ic, xv⟩ : Nat × Option Addr × Nat × Option Addr × Nat × List Value) => us.length - i3) (0, none, 0, none, 0, []) (by show 0 ≤ _; omega) (EnvLe.cons rfl (EnvLe.nil _)) rfl rfl ?_ (EnvLe.cons rfl (EnvLe.cons rfl (EnvLe.cons rfl (EnvLe.cons rfl (EnvLe.cons rfl (EnvLe.cons rfl (EnvLe.cons rfl (EnvLe.nil _))))))))
  intro ⟨i3, KA, kc, KI, ic, xv⟩ hI K hK2
  replace hI : i3 ≤ us.length := hI
  change Run _ _ _ _ _ [(67, .int .i64 ((i3 : Nat) : Int)), (66, _), (65, _), (10, _), (6, _), (5, _), (4, _), (0, _)] (HA.row KA i3 kc 9 1 ((ds.take i3).map (fun x => Value.string (ks.getD x ⟨#[]⟩))) :: HA.row KI i3 ic 25 5 xv :: HA.blk b10 [.int .i64 5, .int .i64 0, .string ⟨#[]⟩, .slice KA i3 kc, .slice KI i3 ic] 25 :: HA.row (some ⟨pb, 0, none⟩) us.length c8 3 1 (ds.map encN) :: HA.blk b8 [.slice (some ⟨pb, 0, none⟩) us.length c8] 139 :: rblk rb S (q + ws1.length + 1) false :: HA.blk b4 [.int .i64 0, .int .i64 0, .string ⟨#[]⟩, .slice none 0 0, .slice none 0 0] 25 :: []) (.its xv ((ds.take i3).map (fun x => (us.map srtV).getD x zV0)) :: .dblk b5 [.slice A us.length ca] 22 :: .vals (.slice A2 us.length c2) (us.map srtV) :: .strs (.slice A us.length ca) ks :: [])
  have hi3 : i3 ≤ us.length := hI
  refine zD (zB ?_)
  refine zA (xL rfl rfl rfl ?_)
  refine zC (zD ?_)
  refine zT rfl (fun h68 => ?_) (fun h68 => ?_)
  · have hlt3 : i3 < us.length := h68
    have hld : i3 < ds.length := by omega
    have hdi : ds[i3] < us.length := places_lt hdp _ (List.getElem_mem hld)
    have hdk : ds[i3] < ks.length := by omega
    have hdv : ds[i3] < (us.map srtV).length := by rw [List.length_map]; exact hdi
    refine zL (zD ?_)
    refine zP (zD ?_)
    refine zB (zA ?_)
    refine zF rfl rfl (zA ?_)
    refine op_indexAddr sl139 rfl rfl rfl hlt3 (zA ?_)
    refine xS sc3 rfl rfl (fun _ h => row_at h (i := 3) rfl (by rw [List.getElem?_map, List.getElem?_eq_getElem hld]; rfl)) ?_
    refine zA (zE rfl rfl ?_)
    refine zA (zE rfl rfl ?_)
    refine zC (zD ?_)
    refine zD (xK Tryz_mixed ?_)
    refine zW (tP 0 rfl wanted0 (zX rfl) ?_)
    refine yJ (tM 1 rfl wanted0 (st_gtr rfl rfl) ?_)
    refine zW (tP 2 rfl wanted0 (zX rfl) ?_)
    refine any_splitD (s := 74) rfl (fun h74 => ?_) (fun h74 => ?_)
    · refine tP 3 rfl (wanted1 rfl rfl) (yB fo25_3 rfl) (tP 5 rfl (wanted1 rfl rfl) (zX rfl) ?_)
      refine tP 10 rfl (wanted1 rfl rfl) (zX rfl) (yJ ?_)
      refine tM 4 rfl (wanted1 rfl rfl) (yK 2 sc22 rfl rfl rfl) (tM 6 rfl (wanted1 rfl rfl) (st_subF (s := ((i3 - 1 : Nat) : Int)) rfl rfl (by omega) (by omega) (by omega)) ?_)
      refine tM 7 rfl (wanted1 rfl rfl) (st_idxRow 0 sl22 rfl rfl rfl (by omega)) (tM 8 rfl (wanted1 rfl rfl) (st_load sc9 rfl (v := .string (ks.getD (ds[i3 - 1]'(by omega)) ⟨#[]⟩)) (fun _ h => row_atA h (i := 0) rfl (take_get (by omega) (by omega)))) ?_)
      refine tM 9 rfl (wanted1 rfl rfl) (st_loadB 1 sc22 rfl rfl rfl) (tM 11 rfl (wanted1 rfl rfl) (st_idxStrs 3 sl22 rfl rfl rfl (by omega)) ?_)
      refine tM 12 rfl (wanted1 rfl rfl) (st_load sc9 rfl (fun _ h => strs_cell h (j := 3) rfl (List.getElem?_eq_getElem hdk))) ?_
      refine tM 13 rfl (wanted1 rfl rfl) (st_seql rfl rfl) (zW ?_)
      refine tP 14 rfl wanted0 (wB rfl rfl) (yV (by decide +kernel) ?_)
      refine zG [86, 12, 67, 66, 65, 10, 6, 5, 4, 0] ?_
      change Run _ _ _ _ _ [(86, _), (12, _), (67, _), (66, _), (65, _), (10, _), (6, _), (5, _), (4, _), (0, _)] _ _
      refine xJ rfl (decide_eq_false (fun he => places_ne hnd hdp2 (i := i3 - 1) (j := i3) (by omega) (by omega) (by rw [he, getD_at hdk]))) (zL ?_)
      refine zD (xK Tryz_mixed ?_)
      refine zW (tP 0 rfl wanted0 (yB fo25_3 rfl) ?_)
      refine tP 3 rfl wanted0 (zX rfl) (yJ ?_)
      refine tM 1 rfl wanted0 (yK 2 sc22 rfl rfl rfl) (tM 2 rfl wanted0 (st_loadB 1 sc22 rfl rfl rfl) ?_)
      refine tM 4 rfl wanted0 (st_idxStrs 3 sl22 rfl rfl rfl (by omega)) ?_
      refine tM 5 rfl wanted0 (st_load sc9 rfl (fun _ h => strs_cell h (j := 3) rfl (List.getElem?_eq_getElem hdk))) ?_
      refine yD 6 (by decide +kernel) ?_
      refine one_op (I2 := [[1], [0], []]) rfl wanted0 (by decide +kernel) (fun Kd hKd => ?_)
      refine yC sl22 rfl rfl rfl rfl rfl (fun b96 => ?_)
      refine hKd _ _ _ (hC (hC (zO (yI)))) (yD 7 (by decide +kernel) ?_)
      refine one_op (I2 := [[], [], []]) rfl wanted0 (by decide +kernel) (fun Kd hKd => ?_)
      refine yY 1 0 sl22 rfl rfl rfl rfl rfl rfl rfl (by unfold maxLen; omega) (by omega) (fun A97 c97 => ?_)
      refine hKd _ _ _ (zO (zO (zO (yI)))) (zW ?_)
      refine tP 8 rfl wanted0 (yB fo25_3 rfl) (yD 9 (by decide +kernel) ?_)
      refine one_op (I2 := [[], [], [], []]) rfl wanted0 (by decide +kernel) (fun Kd hKd => ?_)
      refine zU 3 (M' := [_, _, _, HA.blk _ [_, _, _, _, _] _, _, _, _, _]) rfl rfl rfl rfl si22 rfl rfl rfl (hKd _ _ _ (zO (zO (zO (zO (yI))))) ?_)
      refine yV (by decide +kernel) (zG [12, 67, 66, 65, 10, 6, 5, 4, 0] ?_)
      change Run _ _ _ _ _ [(12, _), (67, _), (66, _), (65, _), (10, _), (6, _), (5, _), (4, _), (0, _)] _ _
      refine xK Tryz_mixed (zW ?_)
      refine tP 0 rfl wanted0 (yB fo25_4 rfl) (tP 2 rfl wanted0 (zX rfl) ?_)
      refine tP 3 rfl wanted0 (zX rfl) (yJ ?_)
      refine tM 1 rfl wanted0 (yK 3 sc23 rfl rfl rfl) (tM 4 rfl wanted0 (st_idxVals 2 sl23 rfl rfl rfl (by omega)) ?_)
      refine any_itemX 2 rfl (List.getElem?_eq_getElem hdv) (fun A104 c104 B104 d104 => ?_)
      refine yJ (tM 5 rfl wanted0 (st_cells 0 rfl ag25 rfl rfl) ?_)
      refine yD 6 (by decide +kernel) ?_
      refine one_op (I2 := [[], [1], [0], []]) rfl wanted0 (by decide +kernel) (fun Kd hKd => ?_)
      refine yC sl23 rfl rfl rfl rfl rfl (fun b105 => ?_)
      refine hKd _ _ _ (zO (hC (hC (zO (yI))))) (yD 7 (by decide +kernel) ?_)
      refine one_op (I2 := [[], [], [], []]) rfl wanted0 (by decide +kernel) (fun Kd hKd => ?_)
      refine yY 3 0 sl23 rfl rfl rfl rfl rfl rfl rfl (by unfold maxLen; omega) (by omega) (fun A106 c106 => ?_)
      refine hKd _ _ _ (zO (zO (zO (zO (yI))))) (zW ?_)
      refine tP 8 rfl wanted0 (yB fo25_4 rfl) (yD 9 (by decide +kernel) ?_)
      refine one_op (I2 := [[], [], [], [], []]) rfl wanted0 (by decide +kernel) (fun Kd hKd => ?_)
      refine zU 4 (M' := [_, _, _, _, HA.blk _ [_, _, _, _, _] _, _, _, _, _]) rfl rfl rfl rfl si23 rfl rfl rfl (hKd _ _ _ (zO (zO (zO (zO (zO (yI)))))) ?_)
      refine yV (by decide +kernel) (zG [67, 66, 65, 10, 6, 5, 4, 0] ?_)
      change Run _ _ _ _ _ [(67, _), (66, _), (65, _), (10, _), (6, _), (5, _), (4, _), (0, _)] _ _
      refine zQ (zB ?_)
      refine zA (xC rfl rfl (by omega) ?_)
      refine zA (zF rfl rfl ?_)
      refine zC (run_snoc 2 1 rfl rfl rfl ?_)
      rw [snoc_take (f := fun x => (us.map srtV).getD x zV0) hld (getD_at hdv).symm, snoc_take (f := fun x => Value.string (ks.getD x ⟨#[]⟩)) hld (by rw [getD_at hdk])]
      exact kQ (hK2 (i3 + 1, _, _, _, _, _) (by show i3 + 1 ≤ _; omega) (by show us.length - (i3 + 1) < us.length - i3; omega)) (EnvLe.cons rfl (EnvLe.cons rfl (EnvLe.cons rfl (EnvLe.cons rfl (EnvLe.cons rfl (EnvLe.cons rfl (EnvLe.cons rfl (EnvLe.cons rfl (EnvLe.nil _))))))))) (hD := (subc 0 rfl (by intro d hd; repeat (first | exact hd | apply List.mem_cons_of_mem))))
    refine yJ (tS 3 rfl rfl rfl rfl ?_)
    refine tS 5 rfl rfl rfl rfl (tS 10 rfl rfl rfl rfl ?_)
    refine tS 4 rfl rfl rfl rfl (tS 6 rfl rfl rfl rfl ?_)
    refine tS 7 rfl rfl rfl rfl (tS 8 rfl rfl rfl rfl ?_)
    refine tS 9 rfl rfl rfl rfl (tS 11 rfl rfl rfl rfl ?_)
    refine tS 12 rfl rfl rfl rfl (tS 13 rfl rfl rfl rfl ?_)
    refine zW (tP 14 rfl wanted0 (wB rfl rfl) ?_)
    refine yV (by decide +kernel) (zG [86, 12, 67, 66, 65, 10, 6, 5, 4, 0] ?_)
    change Run _ _ _ _ _ [(86, _), (12, _), (67, _), (66, _), (65, _), (10, _), (6, _), (5, _), (4, _), (0, _)] _ _
    refine run_false rfl (zL ?_)
    refine zD (xK Tryz_mixed ?_)
    refine zW (tP 0 rfl wanted0 (yB fo25_3 rfl) ?_)
    refine tP 3 rfl wanted0 (zX rfl) (yJ ?_)
    refine tM 1 rfl wanted0 (yK 2 sc22 rfl rfl rfl) (tM 2 rfl wanted0 (st_loadB 1 sc22 rfl rfl rfl) ?_)
    refine tM 4 rfl wanted0 (st_idxStrs 3 sl22 rfl rfl rfl (by omega)) ?_
    refine tM 5 rfl wanted0 (st_load sc9 rfl (fun _ h => strs_cell h (j := 3) rfl (List.getElem?_eq_getElem hdk))) ?_
    refine yD 6 (by decide +kernel) ?_
    refine one_op (I2 := [[1], [0], []]) rfl wanted0 (by decide +kernel) (fun Kd hKd => ?_)
    refine yC sl22 rfl rfl rfl rfl rfl (fun b96 => ?_)
    refine hKd _ _ _ (hC (hC (zO (yI)))) (yD 7 (by decide +kernel) ?_)
    refine one_op (I2 := [[], [], []]) rfl wanted0 (by decide +kernel) (fun Kd hKd => ?_)
    refine yY 1 0 sl22 rfl rfl rfl rfl rfl rfl rfl (by unfold maxLen; omega) (by omega) (fun A97 c97 => ?_)
    refine hKd _ _ _ (zO (zO (zO (yI)))) (zW ?_)
    refine tP 8 rfl wanted0 (yB fo25_3 rfl) (yD 9 (by decide +kernel) ?_)
    refine one_op (I2 := [[], [], [], []]) rfl wanted0 (by decide +kernel) (fun Kd hKd => ?_)
    refine zU 3 (M' := [_, _, _, HA.blk _ [_, _, _, _, _] _, _, _, _, _]) rfl rfl rfl rfl si22 rfl rfl rfl (hKd _ _ _ (zO (zO (zO (zO (yI))))) ?_)
    refine yV (by decide +kernel) (zG [12, 67, 66, 65, 10, 6, 5, 4, 0] ?_)
    change Run _ _ _ _ _ [(12, _), (67, _), (66, _), (65, _), (10, _), (6, _), (5, _), (4, _), (0, _)] _ _
    refine xK Tryz_mixed (zW ?_)
    refine tP 0 rfl wanted0 (yB fo25_4 rfl) (tP 2 rfl wanted0 (zX rfl) ?_)
    refine tP 3 rfl wanted0 (zX rfl) (yJ ?_)
    refine tM 1 rfl wanted0 (yK 3 sc23 rfl rfl rfl) (tM 4 rfl wanted0 (st_idxVals 2 sl23 rfl rfl rfl (by omega)) ?_)
    refine any_itemX 2 rfl (List.getElem?_eq_getElem hdv) (fun A104 c104 B104 d104 => ?_)
    refine yJ (tM 5 rfl wanted0 (st_cells 0 rfl ag25 rfl rfl) ?_)
    refine yD 6 (by decide +kernel) ?_
    refine one_op (I2 := [[], [1], [0], []]) rfl wanted0 (by decide +kernel) (fun Kd hKd => ?_)
    refine yC sl23 rfl rfl rfl rfl rfl (fun b105 => ?_)
    refine hKd _ _ _ (zO (hC (hC (zO (yI))))) (yD 7 (by decide +kernel) ?_)
    refine one_op (I2 := [[], [], [], []]) rfl wanted0 (by decide +kernel) (fun Kd hKd => ?_)
    refine yY 3 0 sl23 rfl rfl rfl rfl rfl rfl rfl (by unfold maxLen; omega) (by omega) (fun A106 c106 => ?_)
    refine hKd _ _ _ (zO (zO (zO (zO (yI))))) (zW ?_)
    refine tP 8 rfl wanted0 (yB fo25_4 rfl) (yD 9 (by decide +kernel) ?_)
    refine one_op (I2 := [[], [], [], [], []]) rfl wanted0 (by decide +kernel) (fun Kd hKd => ?_)
    refine zU 4 (M' := [_, _, _, _, HA.blk _ [_, _, _, _, _] _, _, _, _, _]) rfl rfl rfl rfl si23 rfl rfl rfl (hKd _ _ _ (zO (zO (zO (zO (zO (yI)))))) ?_)
    refine yV (by decide +kernel) (zG [67, 66, 65, 10, 6, 5, 4, 0] ?_)
    change Run _ _ _ _ _ [(67, _), (66, _), (65, _), (10, _), (6, _), (5, _), (4, _), (0, _)] _ _
    refine zQ (zB ?_)
    refine zA (xC rfl rfl (by omega) ?_)
    refine zA (zF rfl rfl ?_)
    refine zC (run_snoc 2 1 rfl rfl rfl ?_)
    rw [snoc_take (f := fun x => (us.map srtV).getD x zV0) hld (getD_at hdv).symm, snoc_take (f := fun x => Value.string (ks.getD x ⟨#[]⟩)) hld (by rw [getD_at hdk])]
    exact kQ (hK2 (i3 + 1, _, _, _, _, _) (by show i3 + 1 ≤ _; omega) (by show us.length - (i3 + 1) < us.length - i3; omega)) (EnvLe.cons rfl (EnvLe.cons rfl (EnvLe.cons rfl (EnvLe.cons rfl (EnvLe.cons rfl (EnvLe.cons rfl (EnvLe.cons rfl (EnvLe.cons rfl (EnvLe.nil _))))))))) (hD := (subc 0 rfl (by intro d hd; repeat (first | exact hd | apply List.mem_cons_of_mem))))
  obtain rfl : i3 = us.length := by omega
  have hdt : ds.take us.length = ds := by rw [← hdl]; exact List.take_length
  rw [hdt]
  refine wL 0 (ds.map fun x => ks.getD x ⟨#[]⟩) rfl (by simp [foots, HA.foot]) (by rw [List.map_map]; rfl) (by intro s hs; obtain ⟨x, hx, rfl⟩ := List.mem_map.1 hs; rw [getD_at (places_lt hdp2 _ hx)]; exact hszs _ (List.getElem_mem _)) (run_frVals 0 1 (ds.map fun x => (us.map srtV).getD x zV0) rfl rfl (by simp [foots, HA.foot]) (by rw [List.length_map, hdl]) ?_)
  refine run_mkval 1 0 rfl rfl (s := ⟨#[]⟩) (q := 5) (m := 0) (by decide) (yL rfl ?_)
  refine zD (zB ?_)
  refine zA (yM 0 rfl ag25 rfl rfl ?_)
  refine zA (zU 4 (M' := [_, _, _, _, HA.blk _ [_, _, _, _, _] _]) rfl rfl rfl rfl si25 rfl rfl rfl ?_)
  refine zC (zG [4] ?_)
  change Run _ _ _ _ _ [(4, _)] _ _
  have hsv : srtV (.mk 5 0 ⟨#[]⟩ ks us) = .mk 5 0 ⟨#[]⟩ (ds.map fun x => ks.getD x ⟨#[]⟩) (ds.map fun x => (us.map srtV).getD x zV0) := by
    rw [srtV_map (places_srt zV0 ks (us.map srtV) ds (by rw [List.length_map]; exact hl) hnd hdp2 hds), List.map_map, List.map_map]
    rfl
  rw [hsv]
  refine run_pick (M' := [rblk rb S (q + ws1.length + 1) false, HA.blk b4 [.int .i64 5, .int .i64 0, .string ⟨#[]⟩, .slice KA us.length kc, .slice KI us.length ic] 25]) (yR 3 rfl (yR 3 rfl (pick_nil _))) ?_
  exact xW 1 Tryz.results96 rfl rfl ag25 ⟨_, hqe, rfl, KA, kc, KI, ic, by simp only [V.kind, V.num, V.text, V.keys, V.items, List.length_map, hdl], rfl⟩ ((List.nil_sublist _).cons_cons _) (sub1 0 rfl)
end Go.Jw

namespace Go.Jw
open Go Go.RowKit Go.Proofs
set_option maxRecDepth 8000
def headB (l : List UInt8) : UInt8 := match l with
  | [] => 0
  | b :: _ => b
theorem head_tail {l : List UInt8} (h : l ≠ []) : l = headB l :: l.tail := by
  cases l with
  | nil => exact absurd rfl h
  | cons b r => rfl
/-- The first sign of a value's text. -/
theorem rend_head {u : V} (hk : u.kind = 1 ∨ u.kind = 3 ∨ u.kind = 4 ∨ u.kind = 5) (ind : List UInt8) : rend u ind ≠ [] ∧ ¬ isBl (headB (rend u ind)) ∧ (headB (rend u ind) = if u.kind = 5 then 123 else if u.kind = 4 then 91 else if u.kind = 3 then 34 else if u.num = 1 then 116 else 102) := by
  rw [rend_eq]
  rcases hk with h | h | h | h
  · rw [if_pos h]
    by_cases hn : u.num = 1
    · simp only [hn, decide_true, h]
      exact ⟨by decide, by unfold isBl; decide, by decide⟩
    · simp only [hn, decide_false, h]
      exact ⟨by decide, by unfold isBl; decide, by decide⟩
  · rw [if_neg (by omega), if_pos h]
    simp only [h]
    exact ⟨by simp, by show ¬ isBl 34; unfold isBl; decide, by simp [headB]⟩
  · rw [if_neg (by omega), if_neg (by omega), if_pos h]
    simp only [h, rendL]
    exact ⟨by simp, by show ¬ isBl 91; unfold isBl; decide, by simp [headB]⟩
  · rw [if_neg (by omega), if_neg (by omega), if_neg (by omega), if_pos h]
    simp only [h, rendM]
    exact ⟨by simp, by show ¬ isBl 123; unfold isBl; decide, by simp [headB]⟩
theorem headN_app {l tl : List UInt8} (h : l ≠ []) : headN (l ++ tl) = (headB l).toNat := by
  cases l with
  | nil => exact absurd rfl h
  | cons b r => rfl
theorem noBl_app {l tl : List UInt8} (h : l ≠ []) (hb : ¬ isBl (headB l)) : NoBl (l ++ tl) := by
  cases l with
  | nil => exact absurd rfl h
  | cons b r => exact noBl_cons hb
/-- What is asked of the elements of a list. -/
structure Elem (R : Nat → List UInt8) (j : Nat) : Prop where
  ne : R j ≠ []
  bl : ¬ isBl (headB (R j))
  n93 : headB (R j) ≠ 93

theorem c55m (u : V) (d dep rb : Nat) (S : ByteArray) (p : Nat) (ind ws tl : List UInt8) (hd : IsPlain d (srtV u)) (hdd : d < dep) (hd1 : dep ≤ 1000) (hS : Sf S p (ws ++ (rend u ind ++ tl))) (hws : Blanks ws) (hind : Blanks ind) (hm : S.size ≤ maxLen) (hk : u.kind = 5) (hu : srtV u = srtV (.mk 5 0 ⟨#[]⟩ u.keys u.items)) (hkl : u.keys.length = u.items.length) (h60 : u.items.length ≤ 60) (hnd : u.keys.Nodup) (hks : ∀ k ∈ u.keys, EasyL k) (H : ∀ x ∈ u.items, C55 x) (d0 : Nat) (hd0 : d = d0 + 1) (hpl : ∀ x ∈ u.items, IsPlain d0 (srtV x)) : Ct Tryz.prog 55 #[ptr rb, .int .i64 (dep : Int)] [rblk rb S p false] [] (fun r M' D' => ∃ q, Sf S q tl ∧ M' = [rblk rb S q false] ∧ RV (srtV u) r D') := by
  refine Ct.of_run (args := [ptr rb, .int .i64 (dep : Int)]) Tryz.func55 (by kernel_rfl) rfl Tryz.ntmps55 rfl (fun c => ?_)
  subst hd0
  obtain ⟨hne, hnb, hhd⟩ := rend_head (u := u) (by omega) ind
  have hq1 := hS.adv
  refine zD (zB ?_)
  refine zA (yX ze25 rfl (fun b4 => ?_))
  change RunOps _ _ _ _ _ _ _ _ (HA.blk _ [_, _, _, _, _] _ :: _) _
  refine zC (zD ?_)
  refine zD (zB ?_)
  refine zA (zF rfl rfl ?_)
  refine zA (zZ rfl rfl rfl ?_)
  refine zC (xJ rfl (decide_eq_false (by omega)) ?_)
  refine zL (zD ?_)
  refine zD (zB ?_)
  refine zA (zF rfl rfl ?_)
  refine zA (zH rfl rfl ?_)
  refine zA (zJ fo61_2 rfl rfl ?_)
  refine zA (zS 1 sc4 rfl rfl rfl rfl ?_)
  refine zC (xJ rfl (rfl) ?_)
  refine zL (zD ?_)
  refine zD (zB ?_)
  refine zA (zF rfl rfl ?_)
  refine zA (zY 1 rfl rfl rfl (c95 rb S p false ws _ hS hws (noBl_app hne hnb) hm) rfl sub0 (fun u18 M18 D18 hv18 => ?_))
  obtain ⟨rfl, rfl, rfl⟩ := hv18
  have hh : headN (rend u ind ++ tl) = 123 := by rw [headN_app hne, hhd]; simp [hk]
  refine zA (zE rfl rfl ?_)
  refine zC (zP ?_)
  refine zD (zB ?_)
  refine zA (zF rfl rfl ?_)
  refine zA (zZ rfl rfl rfl ?_)
  refine zA (zE rfl rfl ?_)
  refine zC (zG [19, 5, 4, 0, 1] ?_)
  change Run _ _ _ _ _ [(19, _), (5, _), (4, _), (0, _), (1, _)] _ _
  refine xG rfl (decide_eq_true (by omega)) (zD ?_)
  refine zB (zA ?_)
  refine zF rfl rfl (zA ?_)
  refine zF rfl rfl (zA ?_)
  refine zY 0 rfl rfl rfl (c96 u.keys u.items hkl h60 hnd hks (fun x hx => H x hx) d0 dep rb (fun x hx => hpl x hx) hdd hd1 S (p + ws.length) ind [] tl _ (fun i => rfl) (by have h1 := hq1; rw [rend5 hk] at h1; exact h1) .nil hind hm) rfl sub0 (fun u24 M24 D24 hv24 => ?_)
  obtain ⟨q24, hq24, rfl, A24, c24, B24, d24, rfl, rfl⟩ := hv24
  refine zA (zU 1 (M' := [_, HA.blk _ [_, _, _, _, _] _]) rfl rfl rfl rfl si25 rfl rfl rfl ?_)
  refine zC ?_
  refine run_pick (M' := [rblk rb S q24 false, HA.blk b4 [_, _, _, _, _] 25]) (by repeat (first | exact pick_nil _ | refine yR 0 rfl ?_ | refine yR 1 rfl ?_ | refine yR 2 rfl ?_)) ?_
  exact xW 1 Tryz.results55 rfl rfl ag25 ⟨_, hq24, rfl, A24, c24, B24, d24, by rw [hu], by rw [hu]⟩ ((List.nil_sublist _).cons_cons _) (sub1 0 rfl)
theorem c55t (u : V) (d dep rb : Nat) (S : ByteArray) (p : Nat) (ind ws tl : List UInt8) (hd : IsPlain d (srtV u)) (hdd : d < dep) (hd1 : dep ≤ 1000) (hS : Sf S p (ws ++ (rend u ind ++ tl))) (hws : Blanks ws) (hind : Blanks ind) (hm : S.size ≤ maxLen) (hk : u.kind = 3) (hsu : srtV u = .mk 3 0 u.text [] []) (hks : (rl u.text).length ≤ 1000000 ∧ ∀ b ∈ rl u.text, 32 ≤ b.toNat ∧ b.toNat ≠ 34 ∧ b.toNat ≠ 92) : Ct Tryz.prog 55 #[ptr rb, .int .i64 (dep : Int)] [rblk rb S p false] [] (fun r M' D' => ∃ q, Sf S q tl ∧ M' = [rblk rb S q false] ∧ RV (srtV u) r D') := by
  refine Ct.of_run (args := [ptr rb, .int .i64 (dep : Int)]) Tryz.func55 (by kernel_rfl) rfl Tryz.ntmps55 rfl (fun c => ?_)
  obtain ⟨hne, hnb, hhd⟩ := rend_head (u := u) (by omega) ind
  have hq1 := hS.adv
  have hq2 : Sf S (p + ws.length) ([] ++ 34 :: (rl u.text ++ 34 :: tl)) := by
    have h1 := hq1
    rw [rend_eq, if_neg (by omega), if_pos hk] at h1
    simp only [List.append_assoc, List.cons_append, List.nil_append] at h1 ⊢
    exact h1
  have hq3 : Sf S (p + ws.length + ([] : List UInt8).length + 1 + (rl u.text).length + 1) tl := hq2.adv1.adv.adv1
  refine zD (zB ?_)
  refine zA (yX ze25 rfl (fun b4 => ?_))
  change RunOps _ _ _ _ _ _ _ _ (HA.blk _ [_, _, _, _, _] _ :: _) _
  refine zC (zD ?_)
  refine zD (zB ?_)
  refine zA (zF rfl rfl ?_)
  refine zA (zZ rfl rfl rfl ?_)
  refine zC (xJ rfl (decide_eq_false (by omega)) ?_)
  refine zL (zD ?_)
  refine zD (zB ?_)
  refine zA (zF rfl rfl ?_)
  refine zA (zH rfl rfl ?_)
  refine zA (zJ fo61_2 rfl rfl ?_)
  refine zA (zS 1 sc4 rfl rfl rfl rfl ?_)
  refine zC (xJ rfl (rfl) ?_)
  refine zL (zD ?_)
  refine zD (zB ?_)
  refine zA (zF rfl rfl ?_)
  refine zA (zY 1 rfl rfl rfl (c95 rb S p false ws _ hS hws (noBl_app hne hnb) hm) rfl sub0 (fun u18 M18 D18 hv18 => ?_))
  obtain ⟨rfl, rfl, rfl⟩ := hv18
  have hh : headN (rend u ind ++ tl) = 34 := by rw [headN_app hne, hhd]; simp [hk]
  refine zA (zE rfl rfl ?_)
  refine zC (zP ?_)
  refine zD (zB ?_)
  refine zA (zF rfl rfl ?_)
  refine zA (zZ rfl rfl rfl ?_)
  refine zA (zE rfl rfl ?_)
  refine zC (zG [19, 5, 4, 0, 1] ?_)
  change Run _ _ _ _ _ [(19, _), (5, _), (4, _), (0, _), (1, _)] _ _
  refine xJ rfl (decide_eq_false (by omega)) (zD ?_)
  refine zB (zA ?_)
  refine zF rfl rfl (zA ?_)
  refine zZ rfl rfl rfl (zA ?_)
  refine zE rfl rfl (zC ?_)
  refine xJ rfl (decide_eq_false (by omega)) (zD ?_)
  refine zB (zA ?_)
  refine zF rfl rfl (zA ?_)
  refine zZ rfl rfl rfl (zA ?_)
  refine zE rfl rfl (zC ?_)
  refine xG rfl (decide_eq_true (by omega)) (zD ?_)
  refine zB (zA ?_)
  refine zF rfl rfl (zA ?_)
  refine zY 0 rfl rfl rfl (c100 rb S (p + ws.length) [] (rl u.text) tl hq2 .nil hks.2 hks.1 hm) rfl sub0 (fun u57 M57 D57 hv57 => ?_)
  obtain ⟨rfl, rfl, rfl⟩ := hv57
  rw [bs_rl]
  refine zA (zV rfl rfl rfl (c99 u.text) sub0 (fun u58 D58 hv58 => ?_))
  obtain ⟨rfl, rfl⟩ := hv58
  refine zA (zU 1 (M' := [_, HA.blk _ [_, _, _, _, _] _]) rfl rfl rfl rfl si25 rfl rfl rfl ?_)
  refine zC (zG [4] ?_)
  change Run _ _ _ _ _ [(4, _)] _ _
  refine run_strs0 (run_vals0 ?_)
  refine run_mkval 1 0 rfl rfl (s := u.text) (q := 3) (m := 0) (by have := hks.1; rw [← sz_rl] at this; unfold maxLen; omega) ?_
  refine run_pick (M' := [rblk rb S _ false, HA.blk b4 [.int .i64 3, .int .i64 0, .string u.text, .slice none 0 0, .slice none 0 0] 25]) (by repeat (first | exact pick_nil _ | refine yR 0 rfl ?_ | refine yR 1 rfl ?_ | refine yR 2 rfl ?_)) ?_
  exact xW 1 Tryz.results55 rfl rfl ag25 ⟨_, hq3, rfl, none, 0, none, 0, by rw [hsu]; rfl, by rw [hsu]⟩ ((List.nil_sublist _).cons_cons _) (sub1 0 rfl)
theorem c55b1 (u : V) (d dep rb : Nat) (S : ByteArray) (p : Nat) (ind ws tl : List UInt8) (hd : IsPlain d (srtV u)) (hdd : d < dep) (hd1 : dep ≤ 1000) (hS : Sf S p (ws ++ (rend u ind ++ tl))) (hws : Blanks ws) (hind : Blanks ind) (hm : S.size ≤ maxLen) (hk : u.kind = 1) (hn : u.num = 1) (hsu : srtV u = .mk 1 1 ⟨#[]⟩ [] []) : Ct Tryz.prog 55 #[ptr rb, .int .i64 (dep : Int)] [rblk rb S p false] [] (fun r M' D' => ∃ q, Sf S q tl ∧ M' = [rblk rb S q false] ∧ RV (srtV u) r D') := by
  refine Ct.of_run (args := [ptr rb, .int .i64 (dep : Int)]) Tryz.func55 (by kernel_rfl) rfl Tryz.ntmps55 rfl (fun c => ?_)
  obtain ⟨hne, hnb, hhd⟩ := rend_head (u := u) (by omega) ind
  have hq1 := hS.adv
  have hq2 : Sf S (p + ws.length) (rl ⟨#[116, 114, 117, 101]⟩ ++ tl) := by
    have h1 := hq1
    rw [rend_eq, if_pos hk, hn] at h1
    exact h1
  have hq3 : Sf S (p + ws.length + (⟨#[116, 114, 117, 101]⟩ : ByteArray).size) tl := hq2.adv
  refine zD (zB ?_)
  refine zA (yX ze25 rfl (fun b4 => ?_))
  change RunOps _ _ _ _ _ _ _ _ (HA.blk _ [_, _, _, _, _] _ :: _) _
  refine zC (zD ?_)
  refine zD (zB ?_)
  refine zA (zF rfl rfl ?_)
  refine zA (zZ rfl rfl rfl ?_)
  refine zC (xJ rfl (decide_eq_false (by omega)) ?_)
  refine zL (zD ?_)
  refine zD (zB ?_)
  refine zA (zF rfl rfl ?_)
  refine zA (zH rfl rfl ?_)
  refine zA (zJ fo61_2 rfl rfl ?_)
  refine zA (zS 1 sc4 rfl rfl rfl rfl ?_)
  refine zC (xJ rfl (rfl) ?_)
  refine zL (zD ?_)
  refine zD (zB ?_)
  refine zA (zF rfl rfl ?_)
  refine zA (zY 1 rfl rfl rfl (c95 rb S p false ws _ hS hws (noBl_app hne hnb) hm) rfl sub0 (fun u18 M18 D18 hv18 => ?_))
  obtain ⟨rfl, rfl, rfl⟩ := hv18
  have hh : headN (rend u ind ++ tl) = 116 := by rw [headN_app hne, hhd]; simp [hk, hn]
  refine zA (zE rfl rfl ?_)
  refine zC (zP ?_)
  refine zD (zB ?_)
  refine zA (zF rfl rfl ?_)
  refine zA (zZ rfl rfl rfl ?_)
  refine zA (zE rfl rfl ?_)
  refine zC (zG [19, 5, 4, 0, 1] ?_)
  change Run _ _ _ _ _ [(19, _), (5, _), (4, _), (0, _), (1, _)] _ _
  refine xJ rfl (decide_eq_false (by omega)) (zD ?_)
  refine zB (zA ?_)
  refine zF rfl rfl (zA ?_)
  refine zZ rfl rfl rfl (zA ?_)
  refine zE rfl rfl (zC ?_)
  refine xJ rfl (decide_eq_false (by omega)) (zD ?_)
  refine zB (zA ?_)
  refine zF rfl rfl (zA ?_)
  refine zZ rfl rfl rfl (zA ?_)
  refine zE rfl rfl (zC ?_)
  refine xJ rfl (decide_eq_false (by omega)) (zD ?_)
  refine zB (zA ?_)
  refine zF rfl rfl (zA ?_)
  refine zZ rfl rfl rfl (zA ?_)
  refine zE rfl rfl (zC ?_)
  refine zG [59, 5, 4, 0] ?_
  change Run _ _ _ _ _ [(59, _), (5, _), (4, _), (0, _)] _ _
  refine xG rfl (decide_eq_true (by omega)) (zD ?_)
  refine zB (zA ?_)
  refine zF rfl rfl (zA ?_)
  refine zY 0 rfl rfl rfl (c101 rb S (p + ws.length) false ⟨#[116, 114, 117, 101]⟩ tl hq2 hm) rfl sub0 (fun u63 M63 D63 hv63 => ?_)
  obtain ⟨rfl, rfl, rfl⟩ := hv63
  refine zC (zD ?_)
  refine zB (zA ?_)
  refine xR rfl rfl (bu25_0_1 ..) (zA ?_)
  refine zU 1 (M' := [_, HA.blk _ [_, _, _, _, _] _]) rfl rfl rfl rfl si25 rfl rfl rfl (zC ?_)
  refine run_strs0 (run_vals0 ?_)
  refine run_mkval 1 0 rfl rfl (s := ⟨#[]⟩) (q := 1) (m := 1) (by decide) ?_
  refine run_pick (M' := [rblk rb S _ false, HA.blk b4 [.int .i64 1, .int .i64 1, .string ⟨#[]⟩, .slice none 0 0, .slice none 0 0] 25]) (by repeat (first | exact pick_nil _ | refine yR 0 rfl ?_ | refine yR 1 rfl ?_ | refine yR 2 rfl ?_)) ?_
  exact xW 1 Tryz.results55 rfl rfl ag25 ⟨_, hq3, rfl, none, 0, none, 0, by rw [hsu]; rfl, by rw [hsu]⟩ ((List.nil_sublist _).cons_cons _) (sub1 0 rfl)
theorem c55b0 (u : V) (d dep rb : Nat) (S : ByteArray) (p : Nat) (ind ws tl : List UInt8) (hd : IsPlain d (srtV u)) (hdd : d < dep) (hd1 : dep ≤ 1000) (hS : Sf S p (ws ++ (rend u ind ++ tl))) (hws : Blanks ws) (hind : Blanks ind) (hm : S.size ≤ maxLen) (hk : u.kind = 1) (hn : u.num = 0) (hsu : srtV u = .mk 1 0 ⟨#[]⟩ [] []) : Ct Tryz.prog 55 #[ptr rb, .int .i64 (dep : Int)] [rblk rb S p false] [] (fun r M' D' => ∃ q, Sf S q tl ∧ M' = [rblk rb S q false] ∧ RV (srtV u) r D') := by
  refine Ct.of_run (args := [ptr rb, .int .i64 (dep : Int)]) Tryz.func55 (by kernel_rfl) rfl Tryz.ntmps55 rfl (fun c => ?_)
  obtain ⟨hne, hnb, hhd⟩ := rend_head (u := u) (by omega) ind
  have hq1 := hS.adv
  have hq2 : Sf S (p + ws.length) (rl ⟨#[102, 97, 108, 115, 101]⟩ ++ tl) := by
    have h1 := hq1
    rw [rend_eq, if_pos hk, hn] at h1
    exact h1
  have hq3 : Sf S (p + ws.length + (⟨#[102, 97, 108, 115, 101]⟩ : ByteArray).size) tl := hq2.adv
  refine zD (zB ?_)
  refine zA (yX ze25 rfl (fun b4 => ?_))
  change RunOps _ _ _ _ _ _ _ _ (HA.blk _ [_, _, _, _, _] _ :: _) _
  refine zC (zD ?_)
  refine zD (zB ?_)
  refine zA (zF rfl rfl ?_)
  refine zA (zZ rfl rfl rfl ?_)
  refine zC (xJ rfl (decide_eq_false (by omega)) ?_)
  refine zL (zD ?_)
  refine zD (zB ?_)
  refine zA (zF rfl rfl ?_)
  refine zA (zH rfl rfl ?_)
  refine zA (zJ fo61_2 rfl rfl ?_)
  refine zA (zS 1 sc4 rfl rfl rfl rfl ?_)
  refine zC (xJ rfl (rfl) ?_)
  refine zL (zD ?_)
  refine zD (zB ?_)
  refine zA (zF rfl rfl ?_)
  refine zA (zY 1 rfl rfl rfl (c95 rb S p false ws _ hS hws (noBl_app hne hnb) hm) rfl sub0 (fun u18 M18 D18 hv18 => ?_))
  obtain ⟨rfl, rfl, rfl⟩ := hv18
  have hh : headN (rend u ind ++ tl) = 102 := by rw [headN_app hne, hhd]; simp [hk, hn]
  refine zA (zE rfl rfl ?_)
  refine zC (zP ?_)
  refine zD (zB ?_)
  refine zA (zF rfl rfl ?_)
  refine zA (zZ rfl rfl rfl ?_)
  refine zA (zE rfl rfl ?_)
  refine zC (zG [19, 5, 4, 0, 1] ?_)
  change Run _ _ _ _ _ [(19, _), (5, _), (4, _), (0, _), (1, _)] _ _
  refine xJ rfl (decide_eq_false (by omega)) (zD ?_)
  refine zB (zA ?_)
  refine zF rfl rfl (zA ?_)
  refine zZ rfl rfl rfl (zA ?_)
  refine zE rfl rfl (zC ?_)
  refine xJ rfl (decide_eq_false (by omega)) (zD ?_)
  refine zB (zA ?_)
  refine zF rfl rfl (zA ?_)
  refine zZ rfl rfl rfl (zA ?_)
  refine zE rfl rfl (zC ?_)
  refine xJ rfl (decide_eq_false (by omega)) (zD ?_)
  refine zB (zA ?_)
  refine zF rfl rfl (zA ?_)
  refine zZ rfl rfl rfl (zA ?_)
  refine zE rfl rfl (zC ?_)
  refine zG [59, 5, 4, 0] ?_
  change Run _ _ _ _ _ [(59, _), (5, _), (4, _), (0, _)] _ _
  refine xJ rfl (decide_eq_false (by omega)) (zD ?_)
  refine zB (zA ?_)
  refine zF rfl rfl (zA ?_)
  refine zZ rfl rfl rfl (zA ?_)
  refine zE rfl rfl (zC ?_)
  refine xG rfl (decide_eq_true (by omega)) (zD ?_)
  refine zB (zA ?_)
  refine zF rfl rfl (zA ?_)
  refine zY 0 rfl rfl rfl (c101 rb S (p + ws.length) false ⟨#[102, 97, 108, 115, 101]⟩ tl hq2 hm) rfl sub0 (fun u69 M69 D69 hv69 => ?_)
  obtain ⟨rfl, rfl, rfl⟩ := hv69
  refine zC (zD ?_)
  refine zB (zA ?_)
  refine xR rfl rfl (bu25_0 ..) (zA ?_)
  refine zU 1 (M' := [_, HA.blk _ [_, _, _, _, _] _]) rfl rfl rfl rfl si25 rfl rfl rfl (zC ?_)
  refine zG [4] ?_
  change Run _ _ _ _ _ [(4, _)] _ _
  refine run_strs0 (run_vals0 ?_)
  refine run_mkval 1 0 rfl rfl (s := ⟨#[]⟩) (q := 1) (m := 0) (by decide) ?_
  refine run_pick (M' := [rblk rb S _ false, HA.blk b4 [.int .i64 1, .int .i64 0, .string ⟨#[]⟩, .slice none 0 0, .slice none 0 0] 25]) (by repeat (first | exact pick_nil _ | refine yR 0 rfl ?_ | refine yR 1 rfl ?_ | refine yR 2 rfl ?_)) ?_
  exact xW 1 Tryz.results55 rfl rfl ag25 ⟨_, hq3, rfl, none, 0, none, 0, by rw [hsu]; rfl, by rw [hsu]⟩ ((List.nil_sublist _).cons_cons _) (sub1 0 rfl)
set_option maxHeartbeats 4000000 in
theorem c55l (u : V) (d dep rb : Nat) (S : ByteArray) (p : Nat) (ind ws tl : List UInt8) (hd : IsPlain d (srtV u)) (hdd : d < dep) (hd1 : dep ≤ 1000) (hS : Sf S p (ws ++ (rend u ind ++ tl))) (hws : Blanks ws) (hind : Blanks ind) (hm : S.size ≤ maxLen) (hk : u.kind = 4) (us : List V) (hus : us = u.items) (hsu : srtV u = .mk 4 0 ⟨#[]⟩ [] (us.map srtV)) (h60 : us.length ≤ 60) (H : ∀ x ∈ us, C55 x) (d0 : Nat) (hd0 : d = d0 + 1) (hpl : ∀ x ∈ us, IsPlain d0 (srtV x)) (R : Nat → List UInt8) (hR : ∀ i, R i = rend (us.getD i zV0) (ind ++ [32, 32])) (hR1 : ∀ j, j < us.length → Elem R j) : Ct Tryz.prog 55 #[ptr rb, .int .i64 (dep : Int)] [rblk rb S p false] [] (fun r M' D' => ∃ q, Sf S q tl ∧ M' = [rblk rb S q false] ∧ RV (srtV u) r D') := by
  refine Ct.of_run (args := [ptr rb, .int .i64 (dep : Int)]) Tryz.func55 (by kernel_rfl) rfl Tryz.ntmps55 rfl (fun c => ?_)
  subst hd0
  obtain ⟨hne, hnb, hhd⟩ := rend_head (u := u) (by omega) ind
  have hq1 := hS.adv
  have hS0 : Sf S (p + ws.length) ([] ++ 91 :: restAt (lineL R ind) us.length 0 (ind ++ (93 :: tl))) := by
    have h1 := hq1
    rw [rend4 hk, ← hus, show (fun i => rend (us.getD i zV0) (ind ++ [32, 32])) = R from funext fun i => (hR i).symm] at h1
    rw [← restAt_zero]
    simp only [rendL, List.append_assoc, List.cons_append, List.nil_append] at h1 ⊢
    exact h1
  have hS1 : Sf S (p + ws.length + ([] : List UInt8).length + 1) (restAt (lineL R ind) us.length 0 (ind ++ (93 :: tl))) := hS0.adv1
  obtain ⟨ws1, rest1, hre, hws1, hnb1, hcase⟩ := take_at (f := (lineL R ind)) (n := us.length) (i := 0) (ind := ind) (tl := tl) (c0 := 93) (b0 := fun j => headB (R j)) (g := fun j => (R j).tail) (by omega) hind (fun j hj => by unfold lineL; rw [← head_tail (hR1 j hj).ne]) (by unfold isBl; decide) (by decide) (fun j hj => ⟨(hR1 j hj).bl, (hR1 j hj).n93⟩)
  rw [hre] at hS1
  refine zD (zB ?_)
  refine zA (yX ze25 rfl (fun b4 => ?_))
  change RunOps _ _ _ _ _ _ _ _ (HA.blk _ [_, _, _, _, _] _ :: _) _
  refine zC (zD ?_)
  refine zD (zB ?_)
  refine zA (zF rfl rfl ?_)
  refine zA (zZ rfl rfl rfl ?_)
  refine zC (xJ rfl (decide_eq_false (by omega)) ?_)
  refine zL (zD ?_)
  refine zD (zB ?_)
  refine zA (zF rfl rfl ?_)
  refine zA (zH rfl rfl ?_)
  refine zA (zJ fo61_2 rfl rfl ?_)
  refine zA (zS 1 sc4 rfl rfl rfl rfl ?_)
  refine zC (xJ rfl (rfl) ?_)
  refine zL (zD ?_)
  refine zD (zB ?_)
  refine zA (zF rfl rfl ?_)
  refine zA (zY 1 rfl rfl rfl (c95 rb S p false ws _ hS hws (noBl_app hne hnb) hm) rfl sub0 (fun u18 M18 D18 hv18 => ?_))
  obtain ⟨rfl, rfl, rfl⟩ := hv18
  have hh : headN (rend u ind ++ tl) = 91 := by rw [headN_app hne, hhd]; simp [hk]
  refine zA (zE rfl rfl ?_)
  refine zC (zP ?_)
  refine zD (zB ?_)
  refine zA (zF rfl rfl ?_)
  refine zA (zZ rfl rfl rfl ?_)
  refine zA (zE rfl rfl ?_)
  refine zC (zG [19, 5, 4, 0, 1] ?_)
  change Run _ _ _ _ _ [(19, _), (5, _), (4, _), (0, _), (1, _)] _ _
  refine xJ rfl (decide_eq_false (by omega)) (zD ?_)
  refine zB (zA ?_)
  refine zF rfl rfl (zA ?_)
  refine zZ rfl rfl rfl (zA ?_)
  refine zE rfl rfl (zC ?_)
  refine xG rfl (decide_eq_true (by omega)) (zD ?_)
  refine zB (zA ?_)
  refine zF rfl rfl (zA ?_)
  refine zY 0 rfl rfl rfl (c97 rb S (p + ws.length) [] 91 _ hS0 .nil (by unfold isBl; decide) hm) rfl sub0 (fun u29 M29 D29 hv29 => ?_)
  obtain ⟨rfl, rfl, rfl⟩ := hv29
  refine zC (zD ?_)
  refine zB (zA ?_)
  refine xR rfl rfl (bu25_0 ..) (zA ?_)
  refine yX ze25 rfl (fun b6 => ?_)
  change RunOps _ _ _ _ _ _ _ _ (HA.blk _ [_, _, _, _, _] _ :: _) _
  refine zA (zU 0 (M' := [HA.blk _ [_, _, _, _, _] _, _, _]) rfl rfl rfl rfl si25 rfl rfl rfl ?_)
  refine zC (zD ?_)
  refine zD (zB ?_)
  refine zA (zF rfl rfl ?_)
  refine zA ?_
  refine zY 1 rfl rfl rfl (c98u rb S _ false ws1 rest1 hS1 hws1 hnb1 hm 93 (by unfold isBl; decide) (by decide)) rfl sub0 (fun u32 M32 D32 hv32 => ?_)
  obtain ⟨bb, rfl, rfl, rfl, hbb⟩ := hv32
  refine zC (zG [32, 6, 4, 0, 1] ?_)
  change Run _ _ _ _ _ [(32, _), (6, _), (4, _), (0, _), (1, _)] _ _
  refine yH rfl (fun h32 => ?_) (fun h32 => ?_)
  · obtain rfl : bb = true := by assumption
    obtain ⟨r1, hr1⟩ := hbb.1 rfl
    obtain ⟨hz, hr2⟩ := hcase.resolve_left (fun h => h.2.1 (by rw [hr1]; rfl))
    rw [hr2] at hS1
    have hqe : Sf S (p + ws.length + ([] : List UInt8).length + 1 + ws1.length + 1) tl := hS1.adv.adv1
    obtain rfl : us = [] := List.eq_nil_of_length_eq_zero hz.symm
    refine run_strs0 (run_vals0 ?_)
    refine run_mkval 1 0 rfl rfl (s := ⟨#[]⟩) (q := 4) (m := 0) (by decide) (zD ?_)
    refine zB (zA ?_)
    refine yM 1 rfl ag25 rfl rfl (zA ?_)
    refine zU 2 (M' := [_, _, HA.blk _ [_, _, _, _, _] _]) rfl rfl rfl rfl si25 rfl rfl rfl (zC ?_)
    refine run_pick (M' := [rblk rb S _ false, HA.blk b4 [_, _, _, _, _] 25]) (by repeat (first | exact pick_nil _ | refine yR 0 rfl ?_ | refine yR 1 rfl ?_ | refine yR 2 rfl ?_)) ?_
    exact xW 1 Tryz.results55 rfl rfl ag25 ⟨_, hqe, rfl, none, 0, none, 0, by rw [hsu]; rfl, by rw [hsu]; rfl⟩ ((List.nil_sublist _).cons_cons _) (sub1 0 rfl)
  obtain rfl : bb = false := by cases bb <;> simp_all
  obtain ⟨hz, hne1, hsp⟩ := hcase.resolve_right (fun h => by have := hbb.2 ⟨tl, h.2⟩; cases this)
  have hr1 := (hsp.resolve_left (fun h => by omega)).2
  have hqs : Sf S (p + ws.length + ([] : List UInt8).length + 1 + ws1.length) ([] ++ (R 0 ++ restAt (lineL R ind) us.length 1 (ind ++ (93 :: tl)))) := by
    have h1 := hS1.adv
    rw [hr1] at h1
    rw [List.nil_append, head_tail (hR1 0 hz).ne]
    exact h1
  refine zL (zD ?_)
  refine zP (zG [6, 4, 0, 1] ?_)
  change Run _ _ _ _ _ [(6, _), (4, _), (0, _), (1, _)] _ _
  refine wJ 25 5 (run_its0 ?_)
  refine xN 0 (fun (⟨i, q, A, ca, xs⟩ : Nat × Nat × Option Addr × Nat × List Value) => i < us.length ∧ ∃ ws3, Blanks ws3 ∧ Sf S q (ws3 ++ (R i ++ restAt (lineL R ind) us.length (i + 1) (ind ++ (93 :: tl))))) (fun (⟨i, q, A, ca, xs⟩ : Nat × Nat × Option Addr × Nat × List Value) => []) (fun (⟨i, q, A, ca, xs⟩ : Nat × Nat × Option Addr × Nat × List Value) => HA.row A i ca 25 5 xs :: rblk rb S q false :: HA.blk b6 [.int .i64 4, .int .i64 0, .string ⟨#[]⟩, .slice none 0 0, .slice A i ca] 25 :: HA.blk b4 [.int .i64 0, .int .i64 0, .string ⟨#[]⟩, .slice none 0 0, .slice none 0 0] 25 :: []) (fun (⟨i, q, A, ca, xs⟩ : Nat × Nat × Option Addr × Nat × List Value) => .its xs ((us.take i).map srtV) :: []) (fun (⟨i, q, A, ca, xs⟩ : Nat × Nat × Option Addr × Nat × List Value) => us.length - i) (0, _, none, 0, []) (⟨hz, [], .nil, hqs⟩) (EnvLe.nil _) rfl rfl ?_ (EnvLe.cons rfl (EnvLe.cons rfl (EnvLe.cons rfl (EnvLe.cons rfl (EnvLe.nil _)))))
  intro ⟨i, q, A, ca, xs⟩ hI K hK
  replace hI : i < us.length ∧ ∃ ws3, Blanks ws3 ∧ Sf S q (ws3 ++ (R i ++ restAt (lineL R ind) us.length (i + 1) (ind ++ (93 :: tl)))) := hI
  change Run _ _ _ _ _ [(6, _), (4, _), (0, _), (1, _)] (HA.row A i ca 25 5 xs :: rblk rb S q false :: HA.blk b6 [.int .i64 4, .int .i64 0, .string ⟨#[]⟩, .slice none 0 0, .slice A i ca] 25 :: HA.blk b4 [.int .i64 0, .int .i64 0, .string ⟨#[]⟩, .slice none 0 0, .slice none 0 0] 25 :: []) (.its xs ((us.take i).map srtV) :: [])
  obtain ⟨hi, ws3, hws3, hq3⟩ := hI
  have hRi : R i = rend us[i] (ind ++ [32, 32]) := by rw [hR, getD_at hi]
  rw [hRi] at hq3
  refine zD (zD ?_)
  refine zB (zA ?_)
  refine zF rfl rfl (zA ?_)
  refine zH rfl rfl (zA ?_)
  refine zJ fo61_2 rfl rfl (zA ?_)
  refine zS 1 sc4 rfl rfl rfl rfl (zA ?_)
  refine wI rfl rfl (zC ?_)
  refine xG rfl (rfl) (zL ?_)
  refine zP (zD ?_)
  refine xK Tryz_mixed (zW ?_)
  refine tP 0 rfl wanted0 (yB fo25_4 rfl) (tP 2 rfl wanted0 (zX rfl) ?_)
  refine tP 3 rfl wanted0 (zX rfl) (yJ ?_)
  refine tM 4 rfl wanted0 (st_subF (s := ((dep - 1 : Nat) : Int)) rfl rfl (by omega) (by omega) (by omega)) (any_all (rs := [1, 5]) (by decide +kernel) (by simp) ?_)
  intro j hj
  simp only [List.mem_cons, List.not_mem_nil, or_false] at hj
  rcases hj with rfl | rfl
  · refine one_op (I2 := [[4], [3, 2], []]) rfl wanted0 (by decide +kernel) (fun Kd hKd => ?_)
    refine zS 2 sc23 rfl rfl rfl rfl (hKd _ _ _ (hC (hC (zO (yI)))) ?_)
    refine yD 5 (by decide +kernel) ?_
    refine one_op (I2 := [[], [], []]) rfl wanted0 (by decide +kernel) (fun Kd hKd => ?_)
    refine zY 1 rfl rfl rfl (H _ (List.getElem_mem hi) d0 (dep - 1) rb S q (ind ++ [32, 32]) ws3 _ (hpl _ (List.getElem_mem hi)) (by omega) (by omega) hq3 hws3 (.app hind (.cons bl32 (.cons bl32 .nil))) hm) rfl sub0 (fun u44 M44 D44 hv44 => ?_)
    obtain ⟨q44, hq44, rfl, A44, c44, B44, d44, rfl, rfl⟩ := hv44
    refine hKd _ _ _ (zO (zO (zO (yI)))) (yD 6 (by decide +kernel) ?_)
    refine one_op (I2 := [[], [], []]) rfl wanted0 (by decide +kernel) (fun Kd hKd => ?_)
    refine yC sl23 rfl rfl rfl rfl rfl (fun b45 => ?_)
    refine hKd _ _ _ (zO (zO (zO (yI)))) (yD 7 (by decide +kernel) ?_)
    refine one_op (I2 := [[], [], []]) rfl wanted0 (by decide +kernel) (fun Kd hKd => ?_)
    refine yY 2 0 sl23 rfl rfl rfl rfl rfl rfl rfl (by unfold maxLen; omega) (by omega) (fun A46 c46 => ?_)
    refine hKd _ _ _ (zO (zO (zO (yI)))) (zW ?_)
    refine tP 8 rfl wanted0 (yB fo25_4 rfl) (yD 9 (by decide +kernel) ?_)
    refine one_op (I2 := [[], [], [], []]) rfl wanted0 (by decide +kernel) (fun Kd hKd => ?_)
    refine zU 3 (M' := [_, _, _, HA.blk _ [_, _, _, _, _] _, _]) rfl rfl rfl rfl si23 rfl rfl rfl (hKd _ _ _ (zO (zO (zO (zO (yI))))) ?_)
    refine yV (by decide +kernel) (zG [6, 4, 0, 1] ?_)
    change Run _ _ _ _ _ [(6, _), (4, _), (0, _), (1, _)] _ _
    refine run_snoc 1 0 rfl rfl rfl ?_
    rw [snoc_map (f := srtV) hi]
    obtain ⟨ws5, rest5, hre5, hws5, hnb5, hcase5⟩ := take_at (f := (lineL R ind)) (n := us.length) (i := i + 1) (ind := ind) (tl := tl) (c0 := 93) (b0 := fun j => headB (R j)) (g := fun j => (R j).tail) (by omega) hind (fun j hj => by unfold lineL; rw [← head_tail (hR1 j hj).ne]) (by unfold isBl; decide) (by decide) (fun j hj => ⟨(hR1 j hj).bl, (hR1 j hj).n93⟩)
    rw [hre5] at hq44
    refine zD (zD ?_)
    refine zB (zA ?_)
    refine zF rfl rfl (zA ?_)
    refine zY 1 rfl rfl rfl (c98u rb S q44 false ws5 rest5 hq44 hws5 hnb5 hm 93 (by unfold isBl; decide) (by decide)) rfl sub0 (fun u49 M49 D49 hv49 => ?_)
    obtain ⟨cc, rfl, rfl, rfl, hcc⟩ := hv49
    refine zC (yH rfl (fun h49 => ?_) (fun h49 => ?_))
    · obtain rfl : cc = true := by assumption
      obtain ⟨r1, hr1⟩ := hcc.1 rfl
      obtain ⟨hz5, hr2⟩ := hcase5.resolve_left (fun h => h.2.1 (by rw [hr1]; rfl))
      rw [hr2] at hq44
      have hqe : Sf S (q44 + ws5.length + 1) tl := hq44.adv.adv1
      rw [hz5, List.take_length]
      have hFr : ∀ b ∈ foots [rblk rb S p false], b ∈ foots [rblk rb S (q44 + ws5.length + true.toNat) false] := fun b hb => hb
      refine yL rfl (zD ?_)
      refine zB (zA ?_)
      refine yM 3 rfl ag25 rfl rfl (zA ?_)
      refine zU 4 (M' := [_, _, _, _, HA.blk _ [_, _, _, _, _] _]) rfl rfl rfl rfl si25 rfl rfl rfl (zC ?_)
      refine run_strs0 (run_frVals 2 1 (us.map srtV) rfl rfl (by simp [foots, HA.foot]) (by rw [List.length_map]) ?_)
      refine run_mkval 1 0 rfl rfl (s := ⟨#[]⟩) (q := 4) (m := 0) (by decide) ?_
      refine run_pick (M' := [rblk rb S _ false, HA.blk b4 [_, _, _, _, _] 25]) (by repeat (first | exact pick_nil _ | refine yR 0 rfl ?_ | refine yR 1 rfl ?_ | refine yR 2 rfl ?_)) ?_
      exact xW 1 Tryz.results55 rfl rfl ag25 ⟨_, hqe, rfl, none, 0, _, _, by rw [hsu]; simp only [V.kind, V.num, V.text, V.keys, V.items, List.length_map, List.length_nil]; rfl, by rw [hsu]⟩ ((List.nil_sublist _).cons_cons _) (sub1 0 rfl)
    obtain rfl : cc = false := by cases cc <;> simp_all
    obtain ⟨hz5, hne5, hsp5⟩ := hcase5.resolve_right (fun h => by have := hcc.2 ⟨tl, h.2⟩; cases this)
    have hr5 := (hsp5.resolve_right (fun h => by omega)).2
    have hq6 := hq44.adv
    rw [hr5] at hq6
    have hq7 := hq6.adv1
    unfold lineL at hq7
    refine zL (zB ?_)
    refine zA (zF rfl rfl ?_)
    refine zA ?_
    refine zY 0 rfl rfl rfl (c97 rb S (q44 + ws5.length) [] 44 _ hq6 .nil (by unfold isBl; decide) hm) rfl sub0 (fun u51 M51 D51 hv51 => ?_)
    obtain ⟨rfl, rfl, rfl⟩ := hv51
    refine zC (zQ ?_)
    exact kQ (hK (i + 1, _, _, _, _) (⟨by show i + 1 < _; omega, [10] ++ (ind ++ [32, 32]), .app (.cons bl10 .nil) (.app hind (.cons bl32 (.cons bl32 .nil))), by simp only [List.append_assoc, List.cons_append, List.nil_append] at hq7 ⊢; exact hq7⟩) (by show us.length - (i + 1) < us.length - i; omega)) (EnvLe.cons rfl (EnvLe.cons rfl (EnvLe.cons rfl (EnvLe.cons rfl (EnvLe.nil _))))) (hD := (subc 0 rfl (by intro d hd; repeat (first | exact hd | apply List.mem_cons_of_mem))))
  refine one_op (I2 := [[], [0], []]) rfl wanted0 (by decide +kernel) (fun Kd hKd => ?_)
  refine zY 1 rfl rfl rfl (H _ (List.getElem_mem hi) d0 (dep - 1) rb S q (ind ++ [32, 32]) ws3 _ (hpl _ (List.getElem_mem hi)) (by omega) (by omega) hq3 hws3 (.app hind (.cons bl32 (.cons bl32 .nil))) hm) rfl sub0 (fun u44 M44 D44 hv44 => ?_)
  obtain ⟨q44, hq44, rfl, A44, c44, B44, d44, rfl, rfl⟩ := hv44
  refine hKd _ _ _ (zO (hC (zO (yI)))) (any_all (rs := [1, 6]) (by decide +kernel) (by simp) ?_)
  intro j hj
  simp only [List.mem_cons, List.not_mem_nil, or_false] at hj
  rcases hj with rfl | rfl
  · refine one_op (I2 := [[], [], []]) rfl wanted0 (by decide +kernel) (fun Kd hKd => ?_)
    refine zS 2 sc23 rfl rfl rfl rfl (hKd _ _ _ (zO (zO (zO (yI)))) ?_)
    refine yD 6 (by decide +kernel) ?_
    refine one_op (I2 := [[], [], []]) rfl wanted0 (by decide +kernel) (fun Kd hKd => ?_)
    refine yC sl23 rfl rfl rfl rfl rfl (fun b45 => ?_)
    refine hKd _ _ _ (zO (zO (zO (yI)))) (yD 7 (by decide +kernel) ?_)
    refine one_op (I2 := [[], [], []]) rfl wanted0 (by decide +kernel) (fun Kd hKd => ?_)
    refine yY 2 0 sl23 rfl rfl rfl rfl rfl rfl rfl (by unfold maxLen; omega) (by omega) (fun A46 c46 => ?_)
    refine hKd _ _ _ (zO (zO (zO (yI)))) (zW ?_)
    refine tP 8 rfl wanted0 (yB fo25_4 rfl) (yD 9 (by decide +kernel) ?_)
    refine one_op (I2 := [[], [], [], []]) rfl wanted0 (by decide +kernel) (fun Kd hKd => ?_)
    refine zU 3 (M' := [_, _, _, HA.blk _ [_, _, _, _, _] _, _]) rfl rfl rfl rfl si23 rfl rfl rfl (hKd _ _ _ (zO (zO (zO (zO (yI))))) ?_)
    refine yV (by decide +kernel) (zG [6, 4, 0, 1] ?_)
    change Run _ _ _ _ _ [(6, _), (4, _), (0, _), (1, _)] _ _
    refine run_snoc 1 0 rfl rfl rfl ?_
    rw [snoc_map (f := srtV) hi]
    obtain ⟨ws5, rest5, hre5, hws5, hnb5, hcase5⟩ := take_at (f := (lineL R ind)) (n := us.length) (i := i + 1) (ind := ind) (tl := tl) (c0 := 93) (b0 := fun j => headB (R j)) (g := fun j => (R j).tail) (by omega) hind (fun j hj => by unfold lineL; rw [← head_tail (hR1 j hj).ne]) (by unfold isBl; decide) (by decide) (fun j hj => ⟨(hR1 j hj).bl, (hR1 j hj).n93⟩)
    rw [hre5] at hq44
    refine zD (zD ?_)
    refine zB (zA ?_)
    refine zF rfl rfl (zA ?_)
    refine zY 1 rfl rfl rfl (c98u rb S q44 false ws5 rest5 hq44 hws5 hnb5 hm 93 (by unfold isBl; decide) (by decide)) rfl sub0 (fun u49 M49 D49 hv49 => ?_)
    obtain ⟨cc, rfl, rfl, rfl, hcc⟩ := hv49
    refine zC (yH rfl (fun h49 => ?_) (fun h49 => ?_))
    · obtain rfl : cc = true := by assumption
      obtain ⟨r1, hr1⟩ := hcc.1 rfl
      obtain ⟨hz5, hr2⟩ := hcase5.resolve_left (fun h => h.2.1 (by rw [hr1]; rfl))
      rw [hr2] at hq44
      have hqe : Sf S (q44 + ws5.length + 1) tl := hq44.adv.adv1
      rw [hz5, List.take_length]
      have hFr : ∀ b ∈ foots [rblk rb S p false], b ∈ foots [rblk rb S (q44 + ws5.length + true.toNat) false] := fun b hb => hb
      refine yL rfl (zD ?_)
      refine zB (zA ?_)
      refine yM 3 rfl ag25 rfl rfl (zA ?_)
      refine zU 4 (M' := [_, _, _, _, HA.blk _ [_, _, _, _, _] _]) rfl rfl rfl rfl si25 rfl rfl rfl (zC ?_)
      refine run_strs0 (run_frVals 2 1 (us.map srtV) rfl rfl (by simp [foots, HA.foot]) (by rw [List.length_map]) ?_)
      refine run_mkval 1 0 rfl rfl (s := ⟨#[]⟩) (q := 4) (m := 0) (by decide) ?_
      refine run_pick (M' := [rblk rb S _ false, HA.blk b4 [_, _, _, _, _] 25]) (by repeat (first | exact pick_nil _ | refine yR 0 rfl ?_ | refine yR 1 rfl ?_ | refine yR 2 rfl ?_)) ?_
      exact xW 1 Tryz.results55 rfl rfl ag25 ⟨_, hqe, rfl, none, 0, _, _, by rw [hsu]; simp only [V.kind, V.num, V.text, V.keys, V.items, List.length_map, List.length_nil]; rfl, by rw [hsu]⟩ ((List.nil_sublist _).cons_cons _) (sub1 0 rfl)
    obtain rfl : cc = false := by cases cc <;> simp_all
    obtain ⟨hz5, hne5, hsp5⟩ := hcase5.resolve_right (fun h => by have := hcc.2 ⟨tl, h.2⟩; cases this)
    have hr5 := (hsp5.resolve_right (fun h => by omega)).2
    have hq6 := hq44.adv
    rw [hr5] at hq6
    have hq7 := hq6.adv1
    unfold lineL at hq7
    refine zL (zB ?_)
    refine zA (zF rfl rfl ?_)
    refine zA ?_
    refine zY 0 rfl rfl rfl (c97 rb S (q44 + ws5.length) [] 44 _ hq6 .nil (by unfold isBl; decide) hm) rfl sub0 (fun u51 M51 D51 hv51 => ?_)
    obtain ⟨rfl, rfl, rfl⟩ := hv51
    refine zC (zQ ?_)
    exact kQ (hK (i + 1, _, _, _, _) (⟨by show i + 1 < _; omega, [10] ++ (ind ++ [32, 32]), .app (.cons bl10 .nil) (.app hind (.cons bl32 (.cons bl32 .nil))), by simp only [List.append_assoc, List.cons_append, List.nil_append] at hq7 ⊢; exact hq7⟩) (by show us.length - (i + 1) < us.length - i; omega)) (EnvLe.cons rfl (EnvLe.cons rfl (EnvLe.cons rfl (EnvLe.cons rfl (EnvLe.nil _))))) (hD := (subc 0 rfl (by intro d hd; repeat (first | exact hd | apply List.mem_cons_of_mem))))
  refine one_op (I2 := [[], [0], []]) rfl wanted0 (by decide +kernel) (fun Kd hKd => ?_)
  refine yC sl23 rfl rfl rfl rfl rfl (fun b45 => ?_)
  refine hKd _ _ _ (zO (hC (zO (yI)))) (yD 1 (by decide +kernel) ?_)
  refine one_op (I2 := [[], [], []]) rfl wanted0 (by decide +kernel) (fun Kd hKd => ?_)
  refine zS 3 sc23 rfl rfl rfl rfl (hKd _ _ _ (zO (zO (zO (yI)))) ?_)
  refine yD 7 (by decide +kernel) ?_
  refine one_op (I2 := [[], [], []]) rfl wanted0 (by decide +kernel) (fun Kd hKd => ?_)
  refine yY 2 0 sl23 rfl rfl rfl rfl rfl rfl rfl (by unfold maxLen; omega) (by omega) (fun A46 c46 => ?_)
  refine hKd _ _ _ (zO (zO (zO (yI)))) (zW ?_)
  refine tP 8 rfl wanted0 (yB fo25_4 rfl) (yD 9 (by decide +kernel) ?_)
  refine one_op (I2 := [[], [], [], []]) rfl wanted0 (by decide +kernel) (fun Kd hKd => ?_)
  refine zU 3 (M' := [_, _, _, HA.blk _ [_, _, _, _, _] _, _]) rfl rfl rfl rfl si23 rfl rfl rfl (hKd _ _ _ (zO (zO (zO (zO (yI))))) ?_)
  refine yV (by decide +kernel) (zG [6, 4, 0, 1] ?_)
  change Run _ _ _ _ _ [(6, _), (4, _), (0, _), (1, _)] _ _
  refine run_snoc 1 0 rfl rfl rfl ?_
  rw [snoc_map (f := srtV) hi]
  obtain ⟨ws5, rest5, hre5, hws5, hnb5, hcase5⟩ := take_at (f := (lineL R ind)) (n := us.length) (i := i + 1) (ind := ind) (tl := tl) (c0 := 93) (b0 := fun j => headB (R j)) (g := fun j => (R j).tail) (by omega) hind (fun j hj => by unfold lineL; rw [← head_tail (hR1 j hj).ne]) (by unfold isBl; decide) (by decide) (fun j hj => ⟨(hR1 j hj).bl, (hR1 j hj).n93⟩)
  rw [hre5] at hq44
  refine zD (zD ?_)
  refine zB (zA ?_)
  refine zF rfl rfl (zA ?_)
  refine zY 1 rfl rfl rfl (c98u rb S q44 false ws5 rest5 hq44 hws5 hnb5 hm 93 (by unfold isBl; decide) (by decide)) rfl sub0 (fun u49 M49 D49 hv49 => ?_)
  obtain ⟨cc, rfl, rfl, rfl, hcc⟩ := hv49
  refine zC (yH rfl (fun h49 => ?_) (fun h49 => ?_))
  · obtain rfl : cc = true := by assumption
    obtain ⟨r1, hr1⟩ := hcc.1 rfl
    obtain ⟨hz5, hr2⟩ := hcase5.resolve_left (fun h => h.2.1 (by rw [hr1]; rfl))
    rw [hr2] at hq44
    have hqe : Sf S (q44 + ws5.length + 1) tl := hq44.adv.adv1
    rw [hz5, List.take_length]
    have hFr : ∀ b ∈ foots [rblk rb S p false], b ∈ foots [rblk rb S (q44 + ws5.length + true.toNat) false] := fun b hb => hb
    refine yL rfl (zD ?_)
    refine zB (zA ?_)
    refine yM 3 rfl ag25 rfl rfl (zA ?_)
    refine zU 4 (M' := [_, _, _, _, HA.blk _ [_, _, _, _, _] _]) rfl rfl rfl rfl si25 rfl rfl rfl (zC ?_)
    refine run_strs0 (run_frVals 2 1 (us.map srtV) rfl rfl (by simp [foots, HA.foot]) (by rw [List.length_map]) ?_)
    refine run_mkval 1 0 rfl rfl (s := ⟨#[]⟩) (q := 4) (m := 0) (by decide) ?_
    refine run_pick (M' := [rblk rb S _ false, HA.blk b4 [_, _, _, _, _] 25]) (by repeat (first | exact pick_nil _ | refine yR 0 rfl ?_ | refine yR 1 rfl ?_ | refine yR 2 rfl ?_)) ?_
    exact xW 1 Tryz.results55 rfl rfl ag25 ⟨_, hqe, rfl, none, 0, _, _, by rw [hsu]; simp only [V.kind, V.num, V.text, V.keys, V.items, List.length_map, List.length_nil]; rfl, by rw [hsu]⟩ ((List.nil_sublist _).cons_cons _) (sub1 0 rfl)
  obtain rfl : cc = false := by cases cc <;> simp_all
  obtain ⟨hz5, hne5, hsp5⟩ := hcase5.resolve_right (fun h => by have := hcc.2 ⟨tl, h.2⟩; cases this)
  have hr5 := (hsp5.resolve_right (fun h => by omega)).2
  have hq6 := hq44.adv
  rw [hr5] at hq6
  have hq7 := hq6.adv1
  unfold lineL at hq7
  refine zL (zB ?_)
  refine zA (zF rfl rfl ?_)
  refine zA ?_
  refine zY 0 rfl rfl rfl (c97 rb S (q44 + ws5.length) [] 44 _ hq6 .nil (by unfold isBl; decide) hm) rfl sub0 (fun u51 M51 D51 hv51 => ?_)
  obtain ⟨rfl, rfl, rfl⟩ := hv51
  refine zC (zQ ?_)
  exact kQ (hK (i + 1, _, _, _, _) (⟨by show i + 1 < _; omega, [10] ++ (ind ++ [32, 32]), .app (.cons bl10 .nil) (.app hind (.cons bl32 (.cons bl32 .nil))), by simp only [List.append_assoc, List.cons_append, List.nil_append] at hq7 ⊢; exact hq7⟩) (by show us.length - (i + 1) < us.length - i; omega)) (EnvLe.cons rfl (EnvLe.cons rfl (EnvLe.cons rfl (EnvLe.cons rfl (EnvLe.nil _))))) (hD := (subc 0 rfl (by intro d hd; repeat (first | exact hd | apply List.mem_cons_of_mem))))
end Go.Jw

namespace Go.Jw
open Go Go.RowKit Go.Proofs
set_option maxRecDepth 8000
theorem easyL_of {k : ByteArray} (hw : IsWord k) (he : IsEasy k) : EasyL k := by
  refine ⟨Nat.le_trans hw.2 (by decide), fun b hb => ?_⟩
  obtain ⟨i, hi, rfl⟩ := List.getElem_of_mem hb
  have h1 := hw.1 i hi
  have h2 := he i hi
  have e : k[i] = (rl k)[i] := rfl
  rw [e] at h1 h2
  unfold OkB at h1
  unfold EasyB at h2
  refine ⟨?_, h2.1, h2.2.1⟩
  rcases h1 with h | h | h
  · exact h.1
  · exact absurd h h2.2.2.1
  · exact absurd h h2.2.2.2
theorem plain_down {d : Nat} {x : V} (h : IsPlain d x) (hk : x.kind = 4 ∨ x.kind = 5) : ∃ d0, d = d0 + 1 ∧ ∀ y ∈ x.items, IsPlain d0 y := by
  obtain ⟨q, m, s, ks, ts⟩ := x
  simp only [V.kind] at hk
  cases d with
  | zero => exact absurd h (plain_head0 hk)
  | succ d => exact ⟨d, rfl, ((plain_head hk).1 h).2.2⟩
theorem c55 (u : V) : Pl (srtV u) → Eql u → IsPrint (srtV u) → C55 u := by
  refine V.indS (p := fun u => Pl (srtV u) → Eql u → IsPrint (srtV u) → C55 u) (fun u IH hp he hi => ?_) u
  have hk := ju_kind hp
  have hip := (isPrint_iff _).1 hi
  have hkk := srt_kind u
  have hitem : u.kind ≠ 3 → ∀ x ∈ u.items, IsPrint (srtV x) ∧ ¬ (u.kind = 4 ∧ x.kind = 4) := fun h3 x hx => by
    have h1 := (hip.2.2.2.2 (by rw [srt_kind]; exact h3)).2 _ (srt_item he hx)
    rw [srt_kind, srt_kind] at h1
    exact h1
  have hk4 : u.kind = 1 ∨ u.kind = 3 ∨ u.kind = 4 ∨ u.kind = 5 := by
    have h0 := hip.1; have h2 := hip.2.1; have h6 := hip.2.2.1
    rw [hkk] at h0 h2 h6
    omega
  intro d dep rb S p ind ws tl hd hdd hd1 hS hws hind hm
  rcases hk4 with h | h | h | h
  · obtain ⟨hpu, hu⟩ := ju_scal hp (by omega) (by omega)
    obtain ⟨hl, hn⟩ := leaf_bool hpu h
    rcases hn with hn | hn
    · exact c55b0 u d dep rb S p ind ws tl hd hdd hd1 hS hws hind hm h hn (by rw [hu]; rw [hn] at hl; exact hl)
    · exact c55b1 u d dep rb S p ind ws tl hd hdd hd1 hS hws hind hm h hn (by rw [hu]; rw [hn] at hl; exact hl)
  · obtain ⟨hpu, hu⟩ := ju_scal hp (by omega) (by omega)
    have hl := leaf_text hpu h
    have hs := scal_of hpu (by omega) (by omega)
    have hw : IsWord u.text := by
      have := hs.2.2
      simp [h] at this
      exact this.2
    have he3 := easyL_of hw (by have := hip.2.2.2.1 (by rw [hkk]; exact h); rw [hu] at this; exact this)
    exact c55t u d dep rb S p ind ws tl hd hdd hd1 hS hws hind hm h (by rw [hu]; exact hl) he3
  · obtain ⟨hu, h60, hit⟩ := ju_l hp he h
    obtain ⟨d0, hd0, hpl⟩ := plain_down hd (by rw [hkk]; exact .inl h)
    have hu4 : srtV u = .mk 4 0 ⟨#[]⟩ [] (u.items.map srtV) := (congrArg srtV hu).trans (srtV_no (by decide))
    refine c55l u d dep rb S p ind ws tl hd hdd hd1 hS hws hind hm h u.items rfl (hu4) h60 (fun x hx => IH x (size_item hx) (hit x hx).1 (hit x hx).2 (hitem (by omega) x hx).1) d0 hd0 (fun x hx => hpl _ (srt_item he hx)) _ (fun i => rfl) (fun j hj => ?_)
    have hx := List.getElem_mem hj
    have e2 : u.items.getD j zV0 = u.items[j] := getD_at hj
    obtain ⟨hix, h44⟩ := hitem (by omega) _ hx
    have hkx := ju_kind (hit _ hx).1
    have hpr := (isPrint_iff _).1 hix
    rw [srt_kind] at hpr
    have h0 := hpr.1; have h2 := hpr.2.1; have h6 := hpr.2.2.1
    have hc : u.items[j].kind = 1 ∨ u.items[j].kind = 3 ∨ u.items[j].kind = 4 ∨ u.items[j].kind = 5 := by omega
    obtain ⟨r1, r2, r3⟩ := rend_head hc (ind ++ [32, 32])
    refine ⟨by rw [e2]; exact r1, by rw [e2]; exact r2, ?_⟩
    rw [e2, r3]
    rcases hc with h | h | h | h <;> simp only [h] <;> (repeat' split) <;> first | decide | omega
  · obtain ⟨hu, hl, h60, hnd, hkw, hit⟩ := ju_m hp he h
    obtain ⟨d0, hd0, hpl⟩ := plain_down hd (by rw [hkk]; exact .inr h)
    have hke := (hip.2.2.2.2 (by rw [hkk]; omega)).1
    exact c55m u d dep rb S p ind ws tl hd hdd hd1 hS hws hind hm h (congrArg srtV hu) hl h60 hnd (fun k hk => easyL_of (hkw k hk).1 (hke k (hkw k hk).2)) (fun x hx => IH x (size_item hx) (hit x hx).1 (hit x hx).2 (hitem (by omega) x hx).1) d0 hd0 (fun x hx => hpl _ (srt_item he hx))
end Go.Jw

namespace Go.Jw
open Go Go.RowKit Go.Proofs
set_option maxRecDepth 8000
theorem c23 (u : V) (S : ByteArray) (hp : Pl (srtV u)) (he : Eql u) (hi : IsPrint (srtV u)) (hd : IsPlain 12 (srtV u)) (hS : S = bs (rend u [] ++ [10])) (hm : S.size ≤ maxLen) : Ct Tryz.prog 23 #[.string S] [] [] (fun r M' D' => M' = [] ∧ ∃ x, r = .tuple #[x, .bool true] ∧ RV (srtV u) x D') := by
  refine Ct.of_run (args := [.string S]) Tryz.func23 (by kernel_rfl) rfl Tryz.ntmps23 rfl (fun c => ?_)
  have hS0 : Sf S 0 ([] ++ (rend u [] ++ [10])) := by rw [hS]; exact Sf.zero _
  refine zD (zB ?_)
  refine zA (yX ze25 rfl (fun b2 => ?_))
  change RunOps _ _ _ _ _ _ _ _ (HA.blk _ [_, _, _, _, _] _ :: _) _
  refine zA (zE rfl rfl ?_)
  refine zC (zD ?_)
  refine zB (zA ?_)
  refine zF rfl rfl (zA ?_)
  refine xR rfl rfl (bu61_0 ..) (zA ?_)
  refine xP (cs := [.string S, .int .i64 ((0 : Nat) : Int), .bool false]) rfl rfl rfl (fun b8 => ?_)
  refine zA (zE rfl rfl ?_)
  refine zC (zD ?_)
  refine zB (zA ?_)
  refine zF rfl rfl (zA ?_)
  refine zY 0 rfl rfl rfl (c55 u hp he hi 12 40 b8 S 0 [] [] [10] hd (by decide) (by decide) hS0 .nil .nil hm) rfl sub0 (fun u10 M10 D10 hv10 => ?_)
  obtain ⟨q10, hq10, rfl, A10, c10, B10, d10, rfl, rfl⟩ := hv10
  have hsz : S.size = q10 + 1 := hq10.size
  refine zA (yX ze25 rfl (fun b5 => ?_))
  change RunOps _ _ _ _ _ _ _ _ (HA.blk _ [_, _, _, _, _] _ :: _) _
  refine zA (zU 0 (M' := [HA.blk _ [_, _, _, _, _] _, _, _]) rfl rfl rfl rfl si25 rfl rfl rfl ?_)
  refine zC (zD ?_)
  refine zB (zA ?_)
  refine zF rfl rfl (zA ?_)
  refine zY 1 rfl rfl rfl (c56 b8 S q10 false [10] [] (by simpa using hq10) (.cons bl10 .nil) (by intro b r h; cases h) hm) rfl sub0 (fun u12 M12 D12 hv12 => ?_)
  obtain ⟨rfl, rfl, rfl⟩ := hv12
  refine zC (zD ?_)
  refine xK Tryz_mixed (zW ?_)
  refine tP 1 rfl wanted0 (zX rfl) (tP 2 rfl wanted0 (yG rfl) ?_)
  refine tP 3 rfl wanted0 (yB fo61_2 rfl) (yJ ?_)
  refine tM 0 rfl wanted0 (st_loadW 1 rfl ag25 rfl) (tM 4 rfl wanted0 (yK 0 sc4 rfl rfl rfl) ?_)
  refine zW (tP 5 rfl wanted0 (st_not rfl) ?_)
  refine tP 6 rfl wanted0 (zX rfl) (any_knowT (s := 19) rfl (rfl) ?_)
  refine tP 7 rfl (wanted1 rfl rfl) (zX rfl) (tP 8 rfl (wanted1 rfl rfl) (yG rfl) ?_)
  refine tP 9 rfl (wanted1 rfl rfl) (yB fo61_1 rfl) (tP 11 rfl (wanted1 rfl rfl) (zX rfl) ?_)
  refine tP 12 rfl (wanted1 rfl rfl) (st_lenStr st9 rfl) (any_all (rs := [10, 15]) (by decide +kernel) (by simp) ?_)
  intro j hj
  simp only [List.mem_cons, List.not_mem_nil, or_false] at hj
  rcases hj with rfl | rfl
  · refine one_op (I2 := [[12, 11], [0], [], []]) rfl (wanted1 rfl rfl) (by decide +kernel) (fun Kd hKd => ?_)
    refine zS 0 sc3 rfl rfl rfl rfl (hKd _ _ _ (hC (hC (zO (zO (yI))))) ?_)
    refine tP 13 rfl (wanted1 rfl rfl) (st_eqlN rfl rfl) (tP 14 rfl wanted0 (wB rfl rfl) ?_)
    refine yD 15 (by decide +kernel) ?_
    refine one_op (I2 := [[14, 13, 12, 11], [], [], []]) rfl wanted0 (by decide +kernel) (fun Kd hKd => ?_)
    refine zU 2 (M' := [_, _, HA.blk _ [_, _, _, _, _] _]) rfl rfl rfl rfl si25 rfl rfl rfl (hKd _ _ _ (hC (zO (zO (zO (yI))))) ?_)
    refine tP 16 rfl wanted0 (xZ rfl) (yV (by decide +kernel) ?_)
    refine zG [3, 2] ?_
    change Run _ _ _ _ _ [(3, _), (2, _)] _ _
    refine run_pick (M' := [HA.blk b2 [_, _, _, _, _] 25]) (by repeat (first | exact pick_nil _ | refine yR 0 rfl ?_ | refine yR 1 rfl ?_ | refine yR 2 rfl ?_)) ?_
    exact run_retc2 0 Tryz.results23 rfl rfl rfl ag25 ⟨rfl, _, congrArg (fun b => Value.tuple #[_, .bool b]) (by simp [hsz]), A10, c10, B10, d10, rfl, rfl⟩ (List.nil_sublist _) (sub1 0 rfl)
  refine one_op (I2 := [[12, 11, 9, 8, 7], [], [], []]) rfl wanted0 (by decide +kernel) (fun Kd hKd => ?_)
  refine zU 2 (M' := [_, _, HA.blk _ [_, _, _, _, _] _]) rfl rfl rfl rfl si25 rfl rfl rfl (hKd _ _ _ (hC (zO (zO (zO (yI))))) ?_)
  refine yD 10 (by decide +kernel) ?_
  refine one_op (I2 := [[12, 11], [], [], []]) rfl (wanted1 rfl rfl) (by decide +kernel) (fun Kd hKd => ?_)
  refine zS 0 sc3 rfl rfl rfl rfl (hKd _ _ _ (hC (zO (zO (zO (yI))))) ?_)
  refine tP 13 rfl (wanted1 rfl rfl) (st_eqlN rfl rfl) (tP 14 rfl wanted0 (wB rfl rfl) ?_)
  refine tP 16 rfl wanted0 (xZ rfl) (yV (by decide +kernel) ?_)
  refine zG [3, 2] ?_
  change Run _ _ _ _ _ [(3, _), (2, _)] _ _
  refine run_pick (M' := [HA.blk b2 [_, _, _, _, _] 25]) (by repeat (first | exact pick_nil _ | refine yR 0 rfl ?_ | refine yR 1 rfl ?_ | refine yR 2 rfl ?_)) ?_
  exact run_retc2 0 Tryz.results23 rfl rfl rfl ag25 ⟨rfl, _, congrArg (fun b => Value.tuple #[_, .bool b]) (by simp [hsz]), A10, c10, B10, d10, rfl, rfl⟩ (List.nil_sublist _) (sub1 0 rfl)
end Go.Jw

namespace Go.Jw
open Go Go.RowKit Go.Proofs
set_option maxRecDepth 8000
theorem print_all {g : V → V} {x y : V} (h3 : x.kind ≠ 3) (hy : y ∈ x.items) (hk : y.kind = 5) (hx : IsPrint (turnAll g x)) : IsPrint (g y) := by
  rw [isPrint_iff] at hx
  unfold turnAll at hx
  simp only [kmk, ymk, imk, tmk] at hx
  have := (hx.2.2.2.2 h3).2 _ (List.mem_map.2 ⟨y, hy, rfl⟩)
  rw [mapKids_pos hk] at this
  exact this.1
theorem print_kid {sh : Int} {g : V → V} {x y : V} (hf : FitLoc sh x) (hy : y ∈ kidsOf sh x) (hx : IsPrint (turnV sh g x)) : IsPrint (g y) := by
  unfold turnV at hx
  unfold kidsOf at hy
  unfold FitLoc at hf
  by_cases h5 : sh = 5
  · subst h5
    simp at hy hx
    rw [hy]; exact hx
  by_cases h6 : sh = 6
  · subst h6
    simp at hy hx
    obtain ⟨hk, rfl⟩ := hy
    rw [if_pos hk] at hx
    exact hx
  by_cases h7 : sh = 7
  · subst h7
    simp at hy hx hf
    split at hy
    · rename_i hk
      rw [if_pos hk] at hx
      simp at hy; rw [hy]; exact hx
    · rename_i hk
      rw [if_neg hk] at hx
      obtain ⟨hm, hy5⟩ := List.mem_filter.1 hy
      exact print_all (by omega) hm (by simpa using hy5) hx
  by_cases h9 : sh = 9
  · subst h9
    simp at hy hx hf
    exact print_all (by omega) hy.1 hy.2 hx
  by_cases h13 : sh = 13
  · subst h13
    simp at hy hx hf
    exact print_all (by omega) hy.1 hy.2 hx
  · simp [h5, h6, h7, h9, h13] at hy
theorem print_item {v u : V} {j : Nat} {k : ByteArray} (h0 : shapeOf k ≠ 0) (hk : v.keys[j]? = some k) (hu : v.items[j]? = some u) (hp : IsPrint (normalV v)) : IsPrint (turnV (shapeOf k) normalV u) := by
  rw [normalV_eq, isPrint_iff] at hp
  unfold filterV at hp
  simp only [kmk, ymk, imk, tmk] at hp
  refine ((hp.2.2.2.2 (by decide)).2 _ (List.mem_map.2 ⟨(k, u), List.mem_filter.2 ⟨?_, ?_⟩, rfl⟩)).1
  · refine List.mem_of_getElem? (i := j) ?_
    rw [List.getElem?_zip_eq_some]
    exact ⟨hk, hu⟩
  · show isKw k = true
    unfold isKw
    exact decide_eq_true h0
theorem noNum_of (v : V) : IsShape v → IsPrint (normalV v) → NoNum v := by
  refine V.indS (p := fun v => IsShape v → IsPrint (normalV v) → NoNum v) (fun v IH hs hp => ?_) v
  rw [noNum_iff]
  intro j k u hk hu
  obtain ⟨hf, hkid, _⟩ := ((isShape_iff v).1 hs).2 j k u hk hu
  have hnum : shapeOf k = 3 ∨ shapeOf k = 4 → False := fun h => by
    have h1 := (isPrint_iff _).1 (print_item (by omega) hk hu hp)
    rw [turn_else (by omega)] at h1
    have h2 := h1.2.1; have h6 := h1.2.2.1
    rcases h with h | h <;> rw [h] at hf <;> simp [FitLoc] at hf <;> omega
  refine ⟨fun h => hnum (.inl h), fun h => hnum (.inr h), fun z hz => ?_⟩
  refine IH z (Nat.lt_of_le_of_lt (kids_size hz) (size_get hu)) (hkid z hz) (print_kid hf hz (print_item ?_ hk hu hp))
  intro h; rw [h] at hz; simp [kidsOf] at hz
theorem plain_norm (v : V) : IsShape v → ∀ d, IsPlain d v → IsPlain d (normalV v) := by
  refine V.indS (p := fun v => IsShape v → ∀ d, IsPlain d v → IsPlain d (normalV v)) (fun v IH hs d hp => ?_) v
  have hk5 := hs.kind
  have hfit := ((isShape_iff v).1 hs).2
  have hPl : Pl v := ⟨d, hp⟩
  have hko := hPl.keys hk5
  obtain ⟨he, hl, hsort⟩ := plain_m hPl hk5
  rw [normalV_eq]
  unfold filterV
  cases d with
  | zero =>
    obtain ⟨q, m, s, ks, ts⟩ := v
    exact absurd hp (plain_head0 (.inr hk5))
  | succ d =>
    have hpi : v.items.length ≤ 60 ∧ ∀ x ∈ v.items, IsPlain d x := by
      obtain ⟨q, m, s, ks, ts⟩ := v
      exact ((plain_head (.inr hk5)).1 hp).2
    have hfl : ((v.keys.zip v.items).filter (fun p => isKw p.1)).length ≤ v.items.length := by
      have := List.length_filter_le (fun p : ByteArray × V => isKw p.1) (v.keys.zip v.items)
      rw [List.length_zip] at this
      omega
    refine (plain_head (.inr rfl)).2 ⟨⟨rfl, rfl, .inr ⟨rfl, by simp, ?_⟩⟩, by rw [List.length_map]; omega, fun x hx => ?_⟩
    · refine keysOk_mk (fun k hk => ?_) ?_
      · obtain ⟨p, hpm, rfl⟩ := List.mem_map.1 hk
        exact keysOk_word hko _ (List.of_mem_zip (List.mem_filter.1 hpm).1).1
      · rw [List.pairwise_map]
        exact (zip_pw hsort).sublist List.filter_sublist
    · obtain ⟨p, hpm, rfl⟩ := List.mem_map.1 hx
      have hz := (List.mem_filter.1 hpm).1
      obtain ⟨j, hj1, hj2⟩ := getV_idx ((mem_zip_get hPl hk5).1 (show (p.1, p.2) ∈ _ from hz))
      obtain ⟨hf, hkid, _⟩ := hfit j _ _ hj1 hj2
      have hm := List.mem_of_getElem? hj2
      exact plain_turn hf (fun y hy d hd => IH y (Nat.lt_of_le_of_lt (kids_size hy) (size_item hm)) (hkid y hy) d hd) (hpi.2 _ hm)
end Go.Jw

namespace Go.Jw
open Go Go.RowKit Go.Proofs
set_option maxRecDepth 8000
theorem l3 (ft : DA) (v : V) (x : Value) (hn : nodes v ≤ 1000000) : CtV Tryz.prog 3 #[x] [.val x v, .tab, ft] (.bool true) := by
  refine Ct.of_run (args := [x]) Tryz.func3 (by kernel_rfl) rfl Tryz.ntmps3 rfl (fun c => ?_)
  refine wA 0 rfl (fun A1 c1 A2 c2 hx hs hk1 hk2 hi1 hi2 => ?_)
  subst hx
  refine zD (zB ?_)
  refine zA (xP rfl rfl rfl (fun b1 => ?_))
  refine zA (zE rfl rfl ?_)
  refine zC (zD ?_)
  refine zD (zB ?_)
  refine zA (yM 0 rfl ag25 rfl rfl ?_)
  refine zA (yF rfl rfl rfl (c19 _ v) (by first | exact sub1 0 rfl | exact sub1 1 rfl | exact sub1 2 rfl | exact sub1 3 rfl | exact sub1 4 rfl | exact sub1 5 rfl | exact sub1 6 rfl) ?_)
  refine zA (wI rfl rfl ?_)
  refine zC (yH rfl (fun h7 => ?_) (fun h7 => ?_))
  · refine zD (zB ?_)
    refine zA (zE rfl rfl ?_)
    refine zC ?_
    exact zK Tryz.results3 rfl ⟨rfl, rfl, rfl⟩ (List.nil_sublist _) (fun _ h => by cases h)
  refine zL (zD ?_)
  refine zD (zB ?_)
  refine zA (yM 0 rfl ag25 rfl rfl ?_)
  refine zA (yF rfl rfl rfl (c20 v _) (by first | exact sub1 0 rfl | exact sub1 1 rfl | exact sub1 2 rfl | exact sub1 3 rfl | exact sub1 4 rfl | exact sub1 5 rfl | exact sub1 6 rfl) ?_)
  refine zA (wI rfl rfl ?_)
  refine zA (zF rfl rfl ?_)
  refine yZ (s := 11) rfl (fun h11 => ?_) (fun h11 => ?_)
  · refine zI rfl rfl rfl rfl (zI rfl rfl rfl rfl ?_)
    refine zI rfl rfl rfl rfl (zI rfl rfl rfl rfl ?_)
    refine zA (zR rfl rfl rfl ?_)
    refine zC (zG [16, 1] ?_)
    change Run _ _ _ _ _ [(16, _), (1, _)] _ _
    refine yT rfl (zD ?_)
    refine zB (zA ?_)
    refine zE rfl rfl (zC ?_)
    exact zK Tryz.results3 rfl ⟨rfl, rfl, rfl⟩ (List.nil_sublist _) (fun _ h => by cases h)
  refine zM rfl rfl (yM 0 rfl ag25 rfl rfl ?_)
  refine zM rfl rfl ?_
  have hsv := tb_iff.1 (by simpa using h11)
  refine zV rfl rfl rfl (c22 v hsv.1.1.wf _) (by first | exact sub1 0 rfl | exact sub1 1 rfl | exact sub1 2 rfl | exact sub1 3 rfl | exact sub1 4 rfl | exact sub1 5 rfl | exact sub1 6 rfl) (fun u13 D13 hv13 => ?_)
  obtain ⟨A13, m13, B13, d13, rfl, rfl⟩ := hv13
  refine zM rfl rfl (yF rfl rfl rfl (c21 (normalV v) _) (by first | exact sub1 0 rfl | exact sub1 1 rfl | exact sub1 2 rfl | exact sub1 3 rfl | exact sub1 4 rfl | exact sub1 5 rfl | exact sub1 6 rfl) ?_)
  refine zM rfl rfl (wI rfl rfl ?_)
  refine zA (zR rfl rfl rfl ?_)
  refine zC (zG [16, 1] ?_)
  change Run _ _ _ _ _ [(16, _), (1, _)] _ _
  refine yH rfl (fun h16 => ?_) (fun h16 => ?_)
  · refine zD (zB ?_)
    refine zA (zE rfl rfl ?_)
    refine zC ?_
    exact zK Tryz.results3 rfl ⟨rfl, rfl, rfl⟩ (List.nil_sublist _) (fun _ h => by cases h)
  have hpv := tb_iff.1 (by simpa using h16)
  have hp : Pl v := ⟨12, hsv.1.1⟩
  have hs := hsv.2
  have hnn := noNum_of v hs hpv.2.2
  refine zL (zD ?_)
  refine zB (zA ?_)
  refine yM 0 rfl ag25 rfl rfl (zA ?_)
  refine zV rfl rfl rfl (c24 ft v _ (.inr hnn) (.inr hnn) hp hs hpv.2.2 hn) (subc 3 rfl (sub2 4 5 rfl rfl)) (fun u19 D19 hv19 => ?_)
  obtain ⟨rfl, u, hu, he, hnu, rfl⟩ := hv19
  have hpu : Pl (srtV u) := hu ▸ pl_wr hs hp
  have hiu : IsPrint (srtV u) := hu ▸ print_wr v hpv.2.2
  have hd12 : IsPlain 12 (srtV u) := hu ▸ plain_wr v hs 12 hsv.1.1
  have hwn : Wf (normalV v) := (plain_norm v hs 12 hsv.1.1).wf
  refine zA ?_
  refine op_call (M1 := []) rfl rfl rfl (c23 u _ hpu he hiu hd12 rfl (by rw [bs_size, List.length_append]; have := rend_small hpu he hnu; unfold maxLen; simp only [List.length_singleton]; omega)) rfl sub0 (fun u20 M20 D20 hv20 => ?_)
  obtain ⟨rfl, x20, rfl, A20, m20, B20, d20, rfl, rfl⟩ := hv20
  refine zA (zF rfl rfl ?_)
  refine zA (op_extract rfl rfl rfl ?_)
  refine zA (op_extract rfl rfl rfl ?_)
  refine zA (yX ze25 rfl (fun b3 => ?_))
  change RunOps _ _ _ _ _ _ _ _ (HA.blk _ [_, _, _, _, _] _ :: _) _
  refine zA (zU 0 (M' := [HA.blk _ [_, _, _, _, _] _, _]) rfl rfl rfl rfl si25 rfl rfl rfl ?_)
  refine zA (zE rfl rfl ?_)
  refine zC (zD ?_)
  refine xK Tryz_mixed (zW ?_)
  refine tP 0 rfl wanted0 (zX rfl) (tP 1 rfl wanted0 (zX rfl) ?_)
  refine any_knowT (s := 24) rfl (rfl) (yJ ?_)
  refine tM 2 rfl (wanted1 rfl rfl) (st_loadW 0 rfl ag25 rfl) (tM 4 rfl (wanted1 rfl rfl) (st_loadW 1 rfl ag25 rfl) ?_)
  refine yD 3 (by decide +kernel) ?_
  refine one_op (I2 := [[4], [], []]) rfl (wanted1 rfl rfl) (by decide +kernel) (fun Kd hKd => ?_)
  refine zV rfl rfl rfl (c26 (srtV u) hpu.wf _) (by first | exact sub1 0 rfl | exact sub1 1 rfl | exact sub1 2 rfl | exact sub1 3 rfl | exact sub1 4 rfl | exact sub1 5 rfl | exact sub1 6 rfl) (fun u26 D26 hv26 => ?_)
  obtain ⟨A26, m26, B26, d26, rfl, rfl⟩ := hv26
  refine hKd _ _ _ (hC (zO (zO (yI)))) (yD 5 (by decide +kernel) ?_)
  refine one_op (I2 := [[], [], []]) rfl (wanted1 rfl rfl) (by decide +kernel) (fun Kd hKd => ?_)
  refine zV rfl rfl rfl (c22 v hp.wf _) (by first | exact sub1 0 rfl | exact sub1 1 rfl | exact sub1 2 rfl | exact sub1 3 rfl | exact sub1 4 rfl | exact sub1 5 rfl | exact sub1 6 rfl) (fun u28 D28 hv28 => ?_)
  obtain ⟨A28, m28, B28, d28, rfl, rfl⟩ := hv28
  refine hKd _ _ _ (zO (zO (zO (yI)))) (yD 6 (by decide +kernel) ?_)
  refine one_op (I2 := [[], [], []]) rfl (wanted1 rfl rfl) (by decide +kernel) (fun Kd hKd => ?_)
  refine zV rfl rfl rfl (c26 (normalV v) hwn _) (by first | exact sub1 0 rfl | exact sub1 1 rfl | exact sub1 2 rfl | exact sub1 3 rfl | exact sub1 4 rfl | exact sub1 5 rfl | exact sub1 6 rfl) (fun u29 D29 hv29 => ?_)
  obtain ⟨A29, m29, B29, d29, rfl, rfl⟩ := hv29
  refine hKd _ _ _ (zO (zO (zO (yI)))) (yD 7 (by decide +kernel) ?_)
  refine one_op (I2 := [[], [], []]) rfl (wanted1 rfl rfl) (by decide +kernel) (fun Kd hKd => ?_)
  refine yF rfl rfl rfl (c25 (bareV (srtV u)) (bareV (normalV v)) _ _) (by first | exact sub2 0 1 rfl rfl | exact sub2 0 2 rfl rfl | exact sub2 0 3 rfl rfl | exact sub2 0 4 rfl rfl | exact sub2 1 0 rfl rfl | exact sub2 1 2 rfl rfl | exact sub2 1 3 rfl rfl | exact sub2 1 4 rfl rfl | exact sub2 2 0 rfl rfl | exact sub2 2 1 rfl rfl | exact sub2 2 3 rfl rfl | exact sub2 2 4 rfl rfl | exact sub2 3 0 rfl rfl | exact sub2 3 1 rfl rfl | exact sub2 3 2 rfl rfl | exact sub2 3 4 rfl rfl | exact sub2 4 0 rfl rfl | exact sub2 4 1 rfl rfl | exact sub2 4 2 rfl rfl | exact sub2 4 3 rfl rfl) (hKd _ _ _ (zO (zO (zO (yI)))) ?_)
  refine zW (tP 8 rfl wanted0 (wB rfl rfl) ?_)
  refine tP 9 rfl wanted0 (xZ rfl) (yV (by decide +kernel) ?_)
  refine zG [2] ?_
  change Run _ _ _ _ _ [(2, _)] _ _
  exact zK Tryz.results3 rfl ⟨congrArg Value.bool (tb_t (by rw [hu, bare_wr])), rfl, rfl⟩ (List.nil_sublist _) (fun _ h => by cases h)
end Go.Jw

namespace Go.Jw
open Go Go.RowKit Go.Proofs Go.ChangeShapes Go.WideShapes Go.Proofs.YtlcfillobkdnmaaGreatDoor
set_option maxRecDepth 8000
theorem lt_of_cell {w : World} {a : Addr} {v : Value} (h : w.cell? a = some v) : a.block < w.heap.size := by
  rcases Nat.lt_or_ge a.block w.heap.size with hlt | hge
  · exact hlt
  · unfold World.cell? at h
    rw [Array.getElem?_eq_none hge] at h
    simp at h
theorem ce9 : Tryz.prog.cellsOf 9 = 1 := by kernel_rfl
theorem ce25 : Tryz.prog.cellsOf 25 = 5 := by kernel_rfl
theorem ce2 : Tryz.prog.cellsOf 2 = 1 := by kernel_rfl
theorem ce22 : Tryz.prog.cellsOf 22 = 1 := by kernel_rfl
theorem ce23 : Tryz.prog.cellsOf 23 = 1 := by kernel_rfl
section
variable {H : Type} {enc : TypeId × Value → H} {W : World} {held : Bool}
theorem strs_of_trod {n : Nat} {kv : Value} {x : DataW H × List MemPlace} (h : DataW.trod enc Tryz.prog W 0 (fun _ => true) held n 22 [kv] = some x) : ∃ ks, StrsP W (· < W.heap.size) kv ks := by
  rcases open_strings Tryz.underlying22 Tryz.underlying9 ce9 h with ⟨h1, _⟩ | ⟨a, len, cap, ss, h1, _, hl, hc, hs, _, hg, hsz⟩
  · injection h1 with h1
    exact ⟨[], none, 0, h1, Nat.le_refl _, Nat.zero_le _, (fun s hs => by cases hs), fun i s hi => by simp at hi⟩
  · injection h1 with h1
    simp only [if_true] at hs
    have hlen : (ss.take len).length = len := by rw [List.length_take]; omega
    refine ⟨ss.take len, some a, cap, by rw [hlen]; exact h1, by omega, hc, fun s hm => hsz s (List.mem_of_mem_take hm), fun i s hi => ?_⟩
    have hil : i < len := by
      have := (List.getElem?_eq_some_iff.1 hi).1
      omega
    have hi' : ss[i]? = some s := by rw [← hi, List.getElem?_take]; simp [hil]
    have hcell := hg i (by omega)
    have hd : ss.getD i ByteArray.empty = s := by rw [List.getD_eq_getElem?_getD, hi']; rfl
    rw [hd] at hcell
    exact ⟨a, rfl, by have := lt_of_cell hcell; rwa [block_add] at this, by rw [Nat.mul_one]; exact hcell⟩
theorem bulk_sum : ∀ (l : List V) (l' : List (DataW H)), l.length = l'.length → (∀ (i : Nat) t d, l[i]? = some t → l'[i]? = some d → 2 * nodes t ≤ Rows.uptoBulk d) → 2 * (l.map nodes).sum ≤ Rows.uptoBulkAll l'
  | [], _, _, _ => Nat.zero_le _
  | t :: l, [], h, _ => by simp at h
  | t :: l, d :: l', h, hi => by
    have h1 := hi 0 t d rfl rfl
    have h2 := bulk_sum l l' (by simpa using h) (fun i t d a b => hi (i + 1) t d (by simpa using a) (by simpa using b))
    simp only [List.map_cons, List.sum_cons, Rows.uptoBulkAll]
    omega
theorem val_of_trod (n : Nat) : ∀ (cs : List Value) (x : DataW H × List MemPlace), DataW.trod enc Tryz.prog W 0 (fun _ => true) held n 25 cs = some x → ∃ t, ValP W (· < W.heap.size) t (.agg cs.toArray) ∧ 2 * nodes t ≤ Rows.uptoBulk x.1 := by
  induction n using Nat.strongRecOn with
  | _ n IH =>
    intro cs x h
    obtain ⟨xs, m, hm, rfl, hl, hlen, hf⟩ := DataW.trod_struct Tryz.underlying25 h
    rw [ce25] at hl
    match cs, hl with
    | [c0, c1, c2, c3, c4], _ =>
    match xs, hlen with
    | [y0, y1, y2, y3, y4], _ =>
    have h0 : DataW.trod enc Tryz.prog W 0 (fun _ => true) held m 2 [c0] = some y0 := by simpa [ce2] using hf 0 _ rfl
    have h1 : DataW.trod enc Tryz.prog W 0 (fun _ => true) held m 2 [c1] = some y1 := by simpa [ce2] using hf 1 _ rfl
    have h2 : DataW.trod enc Tryz.prog W 0 (fun _ => true) held m 9 [c2] = some y2 := by simpa [ce9] using hf 2 _ rfl
    have h3 : DataW.trod enc Tryz.prog W 0 (fun _ => true) held m 22 [c3] = some y3 := by simpa [ce22] using hf 3 _ rfl
    have h4 : DataW.trod enc Tryz.prog W 0 (fun _ => true) held m 23 [c4] = some y4 := by simpa [ce23] using hf 4 _ rfl
    obtain ⟨k, e0, g0⟩ := DataW.trod_int Tryz.underlying2 h0
    obtain ⟨q, e1, _⟩ := DataW.trod_int Tryz.underlying2 h1
    obtain ⟨s, e2, _, hs⟩ := DataW.trod_string Tryz.underlying9 h2
    obtain ⟨ks, hks⟩ := strs_of_trod h3
    injection e0 with e0; injection e1 with e1; injection e2 with e2
    subst e0; subst e1; subst e2
    have hy0 : Rows.uptoBulk y0.1 = 1 := by rw [g0.1]; simp [Rows.uptoBulk]
    have hbulk : Rows.uptoBulk y4.1 + 2 ≤ Rows.uptoBulk (DataW.agg [y0.1, y1.1, y2.1, y3.1, y4.1]) := by
      simp only [Rows.uptoBulk, Rows.uptoBulkAll]
      omega
    show ∃ t, _ ∧ 2 * nodes t ≤ Rows.uptoBulk (DataW.agg [y0.1, y1.1, y2.1, y3.1, y4.1])
    rcases DataW.trod_slice Tryz.underlying23 h4 with ⟨h5, _⟩ | ⟨a, len, cap, elems, rest, m', hm', h5, h6, hb, hle, hc, hln, hel, hsp, _⟩
    · injection h5 with h5
      refine ⟨.mk k q s ks [], ?_, ?_⟩
      · simp only [ValP]
        exact ⟨_, _, rfl, hs, hks, none, 0, h5, Nat.le_refl _, Nat.zero_le _, by simp [ItemsP]⟩
      · rw [nodes_eq]; simp only [imk, List.map_nil, List.sum_nil]; omega
    · injection h5 with h5
      have hall : ∀ i, ∃ t, i < len → ∃ csi, ∃ y, elems[i]? = some y ∧ W.cells? 0 (a.add (i * 5)) 5 = some csi ∧ ValP W (· < W.heap.size) t (.agg csi.toArray) ∧ 2 * nodes t ≤ Rows.uptoBulk y.1 := by
        intro i
        by_cases hi : i < len
        · have he := hel i hi
          rw [ce25, List.getElem?_eq_getElem (by omega)] at he
          obtain ⟨csi, hcs, htr⟩ := Option.bind_eq_some_iff.1 he
          obtain ⟨t, ht, hnt⟩ := IH m' (by omega) csi _ htr
          exact ⟨t, fun _ => ⟨csi, _, List.getElem?_eq_getElem (by omega), hcs, ht, hnt⟩⟩
        · exact ⟨zV0, fun h => absurd h hi⟩
      obtain ⟨f, hfa⟩ := Classical.axiomOfChoice hall
      have hget : ∀ j t, ((List.range len).map f)[j]? = some t → j < len ∧ t = f j := by
        intro j t hj
        rw [List.getElem?_map] at hj
        obtain ⟨z, hz, rfl⟩ := Option.map_eq_some_iff.1 hj
        obtain ⟨h1, h2⟩ := List.getElem?_eq_some_iff.1 hz
        rw [List.getElem_range] at h2
        rw [List.length_range] at h1
        exact ⟨h1, by rw [h2]⟩
      refine ⟨.mk k q s ks ((List.range len).map f), ?_, ?_⟩
      · simp only [ValP]
        refine ⟨_, _, rfl, hs, hks, some a, cap, by rw [List.length_map, List.length_range]; exact h5, by rw [List.length_map, List.length_range]; exact hle, hc, ItemsP.of_get fun j t hj => ?_⟩
        obtain ⟨hjl, rfl⟩ := hget j t hj
        obtain ⟨csi, y, _, hcs, hv, _⟩ := hfa j hjl
        obtain ⟨_, hcl, hcc⟩ := World.cells?_some hcs
        have hadd : ∀ q, (a.add (j * 5)).add q = a.add ((0 + j) * 5 + q) := fun q => by rw [Nat.zero_add]; exact add_add' a _ _
        refine ⟨a, .agg csi.toArray, rfl, ?_, fun q u hq => ?_, hv⟩
        · have := hcc 0 (by omega)
          rw [List.getElem?_eq_getElem (by omega)] at this
          have := lt_of_cell this
          rwa [block_add, block_add] at this
        · have hq' : csi[q]? = some u := by simpa [Value.cells] using hq
          have hql := (List.getElem?_eq_some_iff.1 hq').1
          rw [← hadd, hcc q (by omega)]
          exact hq'
      · have hsum := bulk_sum ((List.range len).map f) (elems.map (·.1)) (by simp; omega) (fun i t d ht hd => by
          obtain ⟨hil, rfl⟩ := hget i t ht
          obtain ⟨csi, y, hy, _, _, hn⟩ := hfa i hil
          rw [List.getElem?_map, hy] at hd
          injection hd with hd
          rw [← hd]; exact hn)
        rw [nodes_eq]
        simp only [imk]
        have : Rows.uptoBulkAll (elems.map (·.1)) ≤ Rows.uptoBulk y4.1 := by
          rw [h6]
          simp only [Rows.uptoBulk]
          omega
        omega
end
end Go.Jw

namespace Go.Jw
open Go Go.RowKit Go.Proofs Go.ChangeShapes Go.WideShapes Go.Proofs.YtlcfillobkdnmaaGreatDoor
set_option maxRecDepth 8000
theorem laidVars_mem {P : Program} {w : World} {n : String} {d : DataW Unit} : ∀ {l : List (String × DataW Unit)} {ps : List MemPlace}, DataW.LaidVars P w l ps → (n, d) ∈ l →
    ∃ g t cs fuel p, P.globalNamed n = some g ∧ (P.globals[g]?).map (·.type) = some t ∧ w.var? P n = some cs ∧ DataW.trod (fun _ => ()) P w 0 (fun _ => true) false fuel t cs.toList = some (d, p)
  | [], _, _, h => by cases h
  | (n', d') :: l, ps, ⟨g, t, cs, fuel, p, q, h1, h2, h3, h4, h5, _⟩, h => by
    rcases List.mem_cons.1 h with h | h
    · injection h with h h'
      subst h; subst h'
      exact ⟨g, t, cs, fuel, p, h1, h2, h3, h4⟩
    · exact laidVars_mem h5 h
theorem gU : Tryz.prog.globalNamed "internal/strconv.uint64pow10" = some 0 := by kernel_rfl
theorem gUt : (Tryz.prog.globals[0]?).map (·.type) = some 270 := by kernel_rfl
theorem ce235 : Tryz.prog.cellsOf 235 = 1 := by kernel_rfl
theorem ce270 : Tryz.prog.cellsOf 270 = 20 := by kernel_rfl
theorem tab_of {W : World} {l : List (String × DataW Unit)} (h : laidMet Tryz.prog l W) (hm : ("internal/strconv.uint64pow10", Rows.laid_internal_strconv_uint64pow10) ∈ l) : DA.tab.p W (· < W.heap.size) := by
  obtain ⟨ps, hv, _⟩ := h
  obtain ⟨g, t, cs, fuel, p, h1, h2, h3, h4⟩ := laidVars_mem hv hm
  obtain rfl := Option.some.inj (gU.symm.trans h1)
  obtain rfl := Option.some.inj (gUt.symm.trans h2)
  have hc := Lib.cells_of_tab (zs := Lib.pow10Tab) Tryz.underlying270 Tryz.underlying235 ce235 ce270 h4
  unfold World.var? at h3
  rw [h1] at h3
  simp only [Option.bind_some] at h3
  cases hh : W.heap[0]? with
  | none => rw [hh] at h3; cases h3
  | some o =>
    rw [hh] at h3
    cases o with
    | cells c T fz =>
      simp at h3
      subst h3
      refine ⟨0, T, fz, gU, (Array.getElem?_eq_some_iff.1 hh).1, ?_⟩
      rw [hh, ← hc]
    | _ => simp at h3
/-- A datum that says nothing. -/
def DA.any : DA := ⟨fun _ _ => True, fun _ _ _ => trivial⟩
theorem calls_of {f : FuncId} {args : Array Value} {D : List DA} {v : Value} {W : World} (h : CtV Tryz.prog f args D v) (hD : ∀ d ∈ D, d.p W (· < W.heap.size)) : Calls Tryz.prog f args W fun e W' => e = .returned v ∧ Below W.heap.size W W' :=
  (h.2 W (· < W.heap.size) (fun k hk => ⟨hk, by simp [foots]⟩) (by simp) (by simp [foots]) hD).mono fun e W' ⟨u, M', D', he, ⟨hu, hM, hd⟩, hc, _⟩ => ⟨by rw [he, hu], hc.below⟩
theorem laidOut : laidOutB Tryz.prog = true := by kernel_rfl
end Go.Jw

namespace Go.Jw
open Go Go.RowKit Go.Proofs Go.ChangeShapes Go.WideShapes Go.ChangeAt Go.Proofs.YtlcfillobkdnmaaGreatDoor
set_option maxRecDepth 8000
theorem post_of_below {H : Type} {enc : TypeId × Value → H} {P : Program} {f : Func} {s : ChangeSpec} {apart fresh handsOn again : Bool} {W W' : World} {args : Array Value} {v : Value} {ds gs : List (DataW H)} {before pa pv : List MemPlace}
    (hW : DataW.Whole enc P f.params.toList s.vars apart W args.toList ds gs before)
    (hres : ∀ (b : Nat) (sp : Nat → Bool) (hd : Bool), DataW.TrodAll enc P W' b sp hd f.resultTypes.toList (v.resultList f.resultTypes.size) (s.fn H (ds ++ gs)).results [])
    (hargs : ∀ sp : Nat → Bool, (∀ p ∈ before, sp p.block = true) → DataW.TrodAll enc P W' 0 sp true f.params.toList args.toList (s.fn H (ds ++ gs)).args pa)
    (hvars : ∀ sp : Nat → Bool, (∀ p ∈ before, sp p.block = true) → DataW.TrodVars enc P W' sp s.vars (s.fn H (ds ++ gs)).vars pv)
    (hps : before = pa ++ pv) (hb : Below W.heap.size W W')
    (hok : ∀ (j : Nat) (t : TypeId) (r : Value), f.resultTypes[j]? = some t → (v.resultList f.resultTypes.size)[j]? = some r → Value.okWide P W' .any 0 t r) :
    s.post enc P f apart fresh handsOn again W args v W' := by
  have hlt := hW.lt
  have hold : ∀ p ∈ before, (fun b => decide (b < W.heap.size)) p.block = true := fun p hp => by simpa using hlt p hp
  refine ⟨ds, gs, before, [], pa, pv, hW, hres _ _ _, hargs _ hold, hvars _ hold, hb.frame _, fun _ => ?_⟩
  obtain ⟨_, _, _, _, _, hz, hn⟩ := hW
  refine ⟨hok, _, _, ([] ++ pa) ++ pv, ⟨[] ++ pa, pv, trodAll_append (hargs _ (fun _ _ => rfl)) (hres _ _ _), hvars _ (fun _ _ => rfl), rfl, ?_, ?_⟩, ?_⟩
  · intro b off hp
    have hp' : MemPlace.cell b off ∈ before := by rw [hps]; simpa using hp
    rw [hb.frozen (p := ⟨b, off, none⟩) (hlt _ hp')]
    exact hz b off hp'
  · intro ha
    have := hn ha
    rw [hps] at this
    simpa using this
  · intro p hp _
    rw [hps]
    simpa using hp
theorem own : ownKnob Tryz.prog.godebug = none := by kernel_rfl
theorem rd25 : Tryz.prog.readableRec 25 = true := by kernel_rfl
theorem lt25 : 25 < Tryz.prog.types.size := of_decide_eq_true (by kernel_rfl)
theorem met_eq (W : World) : laidMetH Tryz.prog Rows.fnTextedUptoRow.laid W = laidMet Tryz.prog Rows.fnTextedUptoRow.laid W := by kernel_rfl
theorem contract (H : Type) (enc : TypeId × Value → H) (W : World) (base : Nat) (args : Array Value) (ds gs : List (DataW H)) (before : List MemPlace)
    (hval : ∀ (j : Nat) t v, Tryz.f3.params[j]? = some t → args[j]? = some v → Value.okWide Tryz.prog W .any base t v)
    (hW : DataW.Whole enc Tryz.prog Tryz.f3.params.toList Rows.fnTextedSpec.vars false W args.toList ds gs before) (hk : Rows.uptoSmall H (ds ++ gs) = true) (hL : laidMetH Tryz.prog Rows.fnTextedUptoRow.laid W) :
    Calls Tryz.prog 3 args W fun e W' => ∃ v, e = .returned v ∧ Rows.fnTextedSpec.post enc Tryz.prog Tryz.f3 false true false false W args v W' := by
  have hW' := hW
  obtain ⟨p, q, hA0, hV, rfl, hfz, hnd⟩ := hW
  have hA : DataW.TrodAll enc Tryz.prog W 0 (fun _ => true) true Tryz.f3.params.toList args.toList ds p := hA0
  rw [Tryz.params3] at hA hval
  obtain ⟨v0, d0, rfl, rfl, h0⟩ := trodAll_one hA
  obtain ⟨rfl, rfl⟩ := trodVars_none hV
  have hvo := hval 0 25 v0 rfl rfl
  unfold Value.okWide at hvo
  rw [Tryz.underlying25] at hvo
  obtain ⟨cs, rfl, _⟩ := hvo
  obtain ⟨fuel, hf⟩ := id h0
  obtain ⟨t, hv, hn⟩ := val_of_trod fuel _ _ hf
  have hv' : ValP W (· < W.heap.size) t (.agg cs) := by simpa [Value.cells] using hv
  have hn' : nodes t ≤ 1000000 := by
    have h1 := of_decide_eq_true hk
    simp only [List.append_nil, Rows.uptoBulkAll] at h1
    have h2 : 2 * nodes t ≤ Rows.uptoBulk d0 := hn
    omega
  clear hA0
  simp only [List.append_nil] at hW'
  rw [met_eq] at hL
  have htab := tab_of hL (.tail _ (.tail _ (.tail _ (.tail _ (.tail _ (.tail _ (.tail _ (.tail _ (.head _)))))))))
  have hc := calls_of (W := W) (l3 DA.any t (.agg cs) hn') (by
    intro d hd
    rcases List.mem_cons.1 hd with rfl | hd
    · exact hv'
    rcases List.mem_cons.1 hd with rfl | hd
    · exact htab
    rcases List.mem_cons.1 hd with rfl | hd
    · exact trivial
    · cases hd)
  refine hc.mono fun e W' ⟨he, hb⟩ => ?_
  subst he
  have hlt := hW'.lt
  exact ⟨_, rfl, post_of_below (pa := p) (pv := []) hW' (fun _ _ _ => trodAll_cons_mk (shut_bool Tryz.underlying4 _) trodAll_mk0)
    (fun sp hs => trodAll_mk1 (Go.WideElems.Trod_stays laidOut rd25 lt25 h0 (fun x hx => hb.same (hlt x hx)) (fun x hx => hs x hx))) (fun _ _ => rfl) (List.append_nil p).symm hb (ok_one (by kernel_rfl) rfl (okWide_bool_mk Tryz.underlying4 _))⟩
end Go.Jw

namespace Go.Jw
open Go Go.RowKit Go.Proofs Go.ChangeShapes Go.WideShapes Go.Proofs.YtlcfillobkdnmaaGreatDoor
set_option maxRecDepth 100000
def setG (h : Array Obj) (g : Nat) (cs : List Value) : Array Obj := h.modify g fun
  | .cells _ t fr => .cells cs.toArray t fr
  | o => o
def wBlocks : Array Obj := #[.cells #[.string ⟨#[105, 110, 118, 97, 108, 105, 100, 32, 115, 121, 110, 116, 97, 120]⟩] 228 (0, 0), .cells #[.string ⟨#[118, 97, 108, 117, 101, 32, 111, 117, 116, 32, 111, 102, 32, 114, 97, 110, 103, 101]⟩] 228 (0, 0),
  .cells ([.float .f32 1065353216, .float .f32 1092616192, .float .f32 1120403456, .float .f32 1148846080, .float .f32 1176256512, .float .f32 1203982336, .float .f32 1232348160, .float .f32 1259902592, .float .f32 1287568416, .float .f32 1315859240, .float .f32 1343554297] : List Value).toArray 288 (0, 0), .cells ([.int .i64 1, .int .i64 3, .int .i64 6, .int .i64 9, .int .i64 13, .int .i64 16, .int .i64 19, .int .i64 23, .int .i64 26] : List Value).toArray 3 (0, 0), .cells ([.float .f64 4607182418800017408, .float .f64 4621819117588971520, .float .f64 4636737291354636288, .float .f64 4652007308841189376, .float .f64 4666723172467343360, .float .f64 4681608360884174848, .float .f64 4696837146684686336, .float .f64 4711630319722168320, .float .f64 4726483295884279808, .float .f64 4741671816366391296, .float .f64 4756540486875873280, .float .f64 4771362005757984768, .float .f64 4786511204640096256, .float .f64 4801453603149578240, .float .f64 4816244402031689728, .float .f64 4831355200913801216, .float .f64 4846369599423283200, .float .f64 4861130398305394688, .float .f64 4876203697187506176, .float .f64 4891288408196988160, .float .f64 4906019910204099648, .float .f64 4921056587992461136, .float .f64 4936209963552724370] : List Value).toArray 214 (0, 0),
  .cells (Pinned.cheatRows.flatMap fun x => [Value.int .i64 x.1, Value.string ⟨x.2.toArray⟩]).toArray 365 (0, 0)]
noncomputable def laidWorld (os : Os) : World := { World.holding Tryz.prog os ⟨wBlocks, #[], []⟩ with heap := (setG (setG (setG (setG (setG (setG (setG (setG (setG (setG (setG (setG (setG (World.holding Tryz.prog os ⟨wBlocks, #[], []⟩).heap 0 [.int .u64 1, .int .u64 10, .int .u64 100, .int .u64 1000, .int .u64 10000, .int .u64 100000, .int .u64 1000000, .int .u64 10000000, .int .u64 100000000, .int .u64 1000000000, .int .u64 10000000000, .int .u64 100000000000, .int .u64 1000000000000, .int .u64 10000000000000, .int .u64 100000000000000, .int .u64 1000000000000000, .int .u64 10000000000000000, .int .u64 100000000000000000, .int .u64 1000000000000000000, .int .u64 10000000000000000000]) 1 [.iface 226 (.pointer (some ⟨18, 0, none⟩))]) 2 [.iface 226 (.pointer (some ⟨19, 0, none⟩))]) 3 [.int .u64 23, .int .u64 8, .int .i64 (-127)]) 4 [.bool true]) 5 [.int .u64 52, .int .u64 11, .int .i64 (-1023)]) 6 [.int .u8 0, .int .u8 1, .int .u8 28, .int .u8 2, .int .u8 29, .int .u8 14, .int .u8 24, .int .u8 3, .int .u8 30, .int .u8 22, .int .u8 20, .int .u8 15, .int .u8 25, .int .u8 17, .int .u8 4, .int .u8 8, .int .u8 31, .int .u8 27, .int .u8 13, .int .u8 23, .int .u8 21, .int .u8 19, .int .u8 16, .int .u8 7, .int .u8 26, .int .u8 12, .int .u8 18, .int .u8 6, .int .u8 11, .int .u8 5, .int .u8 10, .int .u8 9]) 7 [.int .u8 0, .int .u8 1, .int .u8 56, .int .u8 2, .int .u8 57, .int .u8 49, .int .u8 28, .int .u8 3, .int .u8 61, .int .u8 58, .int .u8 42, .int .u8 50, .int .u8 38, .int .u8 29, .int .u8 17, .int .u8 4, .int .u8 62, .int .u8 47, .int .u8 59, .int .u8 36, .int .u8 45, .int .u8 43, .int .u8 51, .int .u8 22, .int .u8 53, .int .u8 39, .int .u8 33, .int .u8 30, .int .u8 24, .int .u8 18, .int .u8 12, .int .u8 5, .int .u8 63, .int .u8 55, .int .u8 48, .int .u8 27, .int .u8 60, .int .u8 41, .int .u8 37, .int .u8 16, .int .u8 46, .int .u8 35, .int .u8 44, .int .u8 21, .int .u8 52, .int .u8 32, .int .u8 23, .int .u8 11, .int .u8 54, .int .u8 26, .int .u8 40, .int .u8 15, .int .u8 34, .int .u8 20, .int .u8 31, .int .u8 10, .int .u8 25, .int .u8 14, .int .u8 19, .int .u8 9, .int .u8 13, .int .u8 8, .int .u8 7, .int .u8 6]) 8 [.slice (some ⟨20, 0, none⟩) 11 11]) 9 [.slice (some ⟨21, 0, none⟩) 9 9]) 10 [.slice (some ⟨22, 0, none⟩) 23 23]) 11 (Pinned.pow10Rows.flatMap fun x => [Value.int .u64 x.1, Value.int .u64 x.2])) 12 [.slice (some ⟨23, 0, none⟩) Pinned.cheatRows.length Pinned.cheatRows.length]) }
def inB (bs : List Nat) (ps : List MemPlace) : Bool := ps.all fun
  | .cell b _ => bs.contains b
  | .map _ => true
end Go.Jw

namespace Go.Jw
open Go Go.RowKit Go.Proofs Go.Proofs.YtlcfillobkdnmaaGreatDoor
set_option maxRecDepth 100000
theorem okRow_of {P : Program} {w : World} {t u : TypeId} {cs : List Value} {n : Nat} (ht : P.cellTypes P.depth t = some (List.replicate n u)) (hn : cs.length = n) (h0 : 0 < n) (h : cs.all (Cell.okRefB P w u) = true) : Row.okRefB P w t cs.toArray = true := by
  unfold Row.okRefB
  rw [ht]
  simp only [List.length_replicate, List.size_toArray, Bool.and_eq_true, List.all_eq_true, List.mem_range]
  refine ⟨by rw [hn]; simp, fun i hi => ?_⟩
  have hm : i % n < n := Nat.mod_lt _ h0
  rw [List.getElem?_toArray, List.getElem?_eq_getElem hi, List.getElem?_replicate, if_pos hm]
  exact List.all_eq_true.1 h _ (List.getElem_mem hi)
end Go.Jw

namespace Go.Jw
open Go Go.RowKit Go.Proofs Go.Proofs.YtlcfillobkdnmaaGreatDoor
set_option maxRecDepth 100000
def oneB (P : Program) (w₀ w : World) (g : Nat) : Bool := match (w₀.heap[g]?).bind Obj.row? with
  | none => true
  | some (zero, t) => match w.heap[g]? with
    | some (.cells cs t' frozen) => decide (t' = t) && decide (frozen = (0, 0)) && cs.size == zero.size && (!P.buildable t || Row.okRefB P w t cs)
    | _ => false
theorem vars_of {P : Program} {w : World} (h : ∀ g, g < P.globals.size → oneB P (begin P (fun _ _ => 0) default).world w g = true) : w.variablesRefB P = true := by
  unfold World.variablesRefB
  exact List.all_eq_true.2 fun g hg => h g (List.mem_range.1 hg)
theorem oneB_of {P : Program} {w₀ w : World} {g : Nat} {zero : Array Value} {t : TypeId} {cs : List Value} (h0 : (w₀.heap[g]?).bind Obj.row? = some (zero, t)) (h1 : w.heap[g]? = some (.cells cs.toArray t (0, 0))) (hz : cs.length = zero.size) (h2 : Row.okRefB P w t cs.toArray = true) : oneB P w₀ w g = true := by
  unfold oneB
  rw [h0, h1]
  simp [hz, h2]
end Go.Jw

namespace Go.Jw
open Go Go.RowKit Go.Proofs Go.Proofs.YtlcfillobkdnmaaGreatDoor
set_option maxRecDepth 100000
theorem vg0 (os : Os) (args : Array Value) : oneB Tryz.prog (begin Tryz.prog (fun _ _ => 0) default).world ((laidWorld os).forCall (fun _ _ => 0) ⟨#[], args, []⟩) 0 = true := by kernel_rfl
theorem vg1 (os : Os) (args : Array Value) : oneB Tryz.prog (begin Tryz.prog (fun _ _ => 0) default).world ((laidWorld os).forCall (fun _ _ => 0) ⟨#[], args, []⟩) 1 = true := by kernel_rfl
theorem vg2 (os : Os) (args : Array Value) : oneB Tryz.prog (begin Tryz.prog (fun _ _ => 0) default).world ((laidWorld os).forCall (fun _ _ => 0) ⟨#[], args, []⟩) 2 = true := by kernel_rfl
theorem vg3 (os : Os) (args : Array Value) : oneB Tryz.prog (begin Tryz.prog (fun _ _ => 0) default).world ((laidWorld os).forCall (fun _ _ => 0) ⟨#[], args, []⟩) 3 = true := by kernel_rfl
theorem vg4 (os : Os) (args : Array Value) : oneB Tryz.prog (begin Tryz.prog (fun _ _ => 0) default).world ((laidWorld os).forCall (fun _ _ => 0) ⟨#[], args, []⟩) 4 = true := by kernel_rfl
theorem vg5 (os : Os) (args : Array Value) : oneB Tryz.prog (begin Tryz.prog (fun _ _ => 0) default).world ((laidWorld os).forCall (fun _ _ => 0) ⟨#[], args, []⟩) 5 = true := by kernel_rfl
theorem vg6 (os : Os) (args : Array Value) : oneB Tryz.prog (begin Tryz.prog (fun _ _ => 0) default).world ((laidWorld os).forCall (fun _ _ => 0) ⟨#[], args, []⟩) 6 = true := by kernel_rfl
theorem vg7 (os : Os) (args : Array Value) : oneB Tryz.prog (begin Tryz.prog (fun _ _ => 0) default).world ((laidWorld os).forCall (fun _ _ => 0) ⟨#[], args, []⟩) 7 = true := by kernel_rfl
theorem vg8 (os : Os) (args : Array Value) : oneB Tryz.prog (begin Tryz.prog (fun _ _ => 0) default).world ((laidWorld os).forCall (fun _ _ => 0) ⟨#[], args, []⟩) 8 = true := by kernel_rfl
theorem vg9 (os : Os) (args : Array Value) : oneB Tryz.prog (begin Tryz.prog (fun _ _ => 0) default).world ((laidWorld os).forCall (fun _ _ => 0) ⟨#[], args, []⟩) 9 = true := by kernel_rfl
theorem vg10 (os : Os) (args : Array Value) : oneB Tryz.prog (begin Tryz.prog (fun _ _ => 0) default).world ((laidWorld os).forCall (fun _ _ => 0) ⟨#[], args, []⟩) 10 = true := by kernel_rfl
theorem vg12 (os : Os) (args : Array Value) : oneB Tryz.prog (begin Tryz.prog (fun _ _ => 0) default).world ((laidWorld os).forCall (fun _ _ => 0) ⟨#[], args, []⟩) 12 = true := by kernel_rfl
def pw : List Value := Pinned.pow10Rows.flatMap fun x => [Value.int .u64 x.1, Value.int .u64 x.2]
theorem v11z : ∃ zero, ((begin Tryz.prog (fun _ _ => 0) default).world.heap[11]?).bind Obj.row? = some (zero, 360) ∧ zero.size = 1392 := ⟨(Array.replicate 1392 (.int .u64 0)), by kernel_rfl, by kernel_rfl⟩
theorem v11h (os : Os) (args : Array Value) : ((laidWorld os).forCall (fun _ _ => 0) ⟨#[], args, []⟩).heap[11]? = some (.cells pw.toArray 360 (0, 0)) := by kernel_rfl
theorem v11t : Tryz.prog.cellTypes Tryz.prog.depth 360 = some (List.replicate 1392 235) := by kernel_rfl
theorem v11l : pw.length = 1392 := by kernel_rfl
theorem v11a (w : World) : pw.all (Cell.okRefB Tryz.prog w 235) = true := by kernel_rfl
theorem vg11 (os : Os) (args : Array Value) : oneB Tryz.prog (begin Tryz.prog (fun _ _ => 0) default).world ((laidWorld os).forCall (fun _ _ => 0) ⟨#[], args, []⟩) 11 = true := by
  obtain ⟨z, h0, hz⟩ := v11z
  exact oneB_of h0 (v11h os args) (by rw [hz]; exact v11l) (okRow_of v11t v11l (by decide) (v11a _))
theorem vars_ref (os : Os) (args : Array Value) : World.variablesRefB Tryz.prog ((laidWorld os).forCall (fun _ _ => 0) ⟨#[], args, []⟩) = true := vars_of fun g hg => by
  have h13 : Tryz.prog.globals.size = 13 := by kernel_rfl
  rw [h13] at hg
  match g, hg with
  | 0, _ => exact vg0 os args
  | 1, _ => exact vg1 os args
  | 2, _ => exact vg2 os args
  | 3, _ => exact vg3 os args
  | 4, _ => exact vg4 os args
  | 5, _ => exact vg5 os args
  | 6, _ => exact vg6 os args
  | 7, _ => exact vg7 os args
  | 8, _ => exact vg8 os args
  | 9, _ => exact vg9 os args
  | 10, _ => exact vg10 os args
  | 11, _ => exact vg11 os args
  | 12, _ => exact vg12 os args
end Go.Jw

namespace Go.Jw
open Go Go.RowKit Go.Proofs Go.ChangeShapes Go.WideShapes Go.Proofs.YtlcfillobkdnmaaGreatDoor
set_option maxRecDepth 100000
section
variable {P : Program} {w : World}
theorem wmapM_some {α β : Type} {f : α → Option β} {h : α → β} : ∀ (l : List α), (∀ x ∈ l, f x = some (h x)) → l.mapM f = some (l.map h)
  | [], _ => rfl
  | a :: l, H => by
    rw [List.mapM_cons, H a List.mem_cons_self, wmapM_some l (fun x hx => H x (List.mem_cons_of_mem _ hx))]
    rfl
theorem wcell_lit {b off : Nat} {T : TypeId} {cs : List Value} (h : w.heap[b]? = some (.cells cs.toArray T (0, 0))) : w.cell? ⟨b, off, none⟩ = cs[off]? := by
  unfold World.cell?
  simp [h]
theorem wcells_lit {b off n : Nat} {T : TypeId} {cs : List Value} (h : w.heap[b]? = some (.cells cs.toArray T (0, 0))) (hn : off + n ≤ cs.length) : w.cells? 0 ⟨b, off, none⟩ n = some ((cs.drop off).take n) := by
  unfold World.cells?
  rw [if_pos (Nat.zero_le _), wmapM_some (h := fun i => cs.getD (off + i) (.bool false)) (List.range n) (fun i hi => ?_)]
  · congr 1
    apply List.ext_getElem?
    intro j
    rw [List.getElem?_map, List.getElem?_take, List.getElem?_drop]
    by_cases hj : j < n
    · rw [if_pos hj, List.getElem?_range hj]
      simp [List.getD_eq_getElem?_getD, List.getElem?_eq_getElem (show off + j < cs.length by omega)]
    · rw [if_neg hj, List.getElem?_eq_none (by simpa using hj)]
      rfl
  · have hi' := List.mem_range.1 hi
    have : (⟨b, off, none⟩ : Addr).add i = ⟨b, off + i, none⟩ := by
      unfold Addr.add
      by_cases h0 : i = 0
      · subst h0; rfl
      · rw [if_neg h0]
    rw [this, wcell_lit h, List.getD_eq_getElem?_getD, List.getElem?_eq_getElem (show off + i < cs.length by omega)]
    rfl
variable {H : Type} {enc : TypeId × Value → H} {sp : Nat → Bool} {held : Bool}
theorem trod_sliceL {fuel : Nat} {t e : TypeId} {b n k : Nat} {T : TypeId} {cs : List Value} {g : Nat → DataW H} (ht : P.underlying t = some (.slice e)) (hk : P.cellsOf e = k) (hb : w.heap[b]? = some (.cells cs.toArray T (0, 0))) (hl : cs.length = n * k) (hn : n ≤ maxLen)
    (he : ∀ i, i < n → DataW.trod enc P w 0 sp held fuel e ((cs.drop (i * k)).take k) = some (g i, [])) : DataW.trod enc P w 0 sp held (fuel + 1) t [.slice (some ⟨b, 0, none⟩) n n] = some (.slice ((List.range n).map g) [], MemPlace.row ⟨b, 0, none⟩ (n * k)) := by
  subst hk
  have hel : ∀ i ∈ List.range n, (w.cells? 0 ((⟨b, 0, none⟩ : Addr).add (i * P.cellsOf e)) (P.cellsOf e)).bind (DataW.trod enc P w 0 sp held fuel e) = some ((g i, []) : DataW H × List MemPlace) := by
    intro i hi
    have hi' := List.mem_range.1 hi
    have : (⟨b, 0, none⟩ : Addr).add (i * P.cellsOf e) = ⟨b, i * P.cellsOf e, none⟩ := by
      unfold Addr.add
      by_cases h0 : i * P.cellsOf e = 0
      · rw [if_pos h0, h0]
      · rw [if_neg h0, Nat.zero_add]
    have hle : i * P.cellsOf e + P.cellsOf e ≤ cs.length := by
      rw [hl]
      have := Nat.mul_le_mul_right (P.cellsOf e) (show i + 1 ≤ n by omega)
      rw [Nat.succ_mul] at this
      exact this
    rw [this, wcells_lit hb hle, Option.bind_some, he i hi']
  unfold DataW.trod
  simp only [ht]
  rw [if_pos ⟨Nat.zero_le _, Nat.le_refl _, hn⟩, wmapM_some _ hel]
  simp [Nat.sub_self]
theorem trod_arrayL {fuel : Nat} {t e : TypeId} {n k : Nat} {cs : List Value} {g : Nat → DataW H} (ht : P.underlying t = some (.array n e)) (hk : P.cellsOf e = k) (hl : cs.length = P.cellsOf t)
    (he : ∀ i, i < n → DataW.trod enc P w 0 sp held fuel e ((cs.drop (i * k)).take k) = some (g i, [])) : DataW.trod enc P w 0 sp held (fuel + 1) t cs = some (.agg ((List.range n).map g), []) := by
  subst hk
  have hel : ∀ i ∈ List.range n, DataW.trod enc P w 0 sp held fuel e ((cs.drop (i * P.cellsOf e)).take (P.cellsOf e)) = some ((g i, []) : DataW H × List MemPlace) := fun i hi => he i (List.mem_range.1 hi)
  unfold DataW.trod
  simp only [ht]
  rw [if_pos hl, wmapM_some _ hel]
  simp
theorem wlv_cons {n : String} {d : DataW Unit} {r : List (String × DataW Unit)} {p q : List MemPlace} {g t T : Nat} {cs : List Value} (fuel : Nat) (hg : P.globalNamed n = some g) (ht : (P.globals[g]?).map (·.type) = some t) (hh : w.heap[g]? = some (.cells cs.toArray T (0, 0)))
    (hd : DataW.trod (fun _ => ()) P w 0 (fun _ => true) false fuel t cs = some (d, p)) (hr : DataW.LaidVars P w r q) : DataW.LaidVars P w ((n, d) :: r) (MemPlace.row ⟨g, 0, none⟩ cs.length ++ p ++ q) :=
  ⟨g, t, cs.toArray, fuel, p, q, hg, ht, by unfold World.var?; rw [hg]; simp [hh], by simpa using hd, hr, by simp⟩
def wplainB : Value → Bool
  | .iface .. => false
  | _ => true
theorem wgood_lit {b off : Nat} {T : TypeId} {cs : List Value} (h : w.heap[b]? = some (.cells cs.toArray T (0, 0))) (hn : cs.all wplainB = true) :
    (∃ c t, w.heap[b]? = some (.cells c t (0, 0))) ∧ ∀ u v, w.cell? ⟨b, off, none⟩ = some (.iface u v) → Value.okWide P w .any 0 u v := by
  refine ⟨⟨_, _, h⟩, fun u v hc => ?_⟩
  rw [wcell_lit h] at hc
  have := List.all_eq_true.1 hn _ (List.mem_of_getElem? hc)
  cases this
theorem wgood_one {b off : Nat} {T u : TypeId} {v : Value} (h : w.heap[b]? = some (.cells [.iface u v].toArray T (0, 0))) (hn : Value.okWideB P w u v = true) :
    (∃ c t, w.heap[b]? = some (.cells c t (0, 0))) ∧ ∀ u' v', w.cell? ⟨b, off, none⟩ = some (.iface u' v') → Value.okWide P w .any 0 u' v' := by
  refine ⟨⟨_, _, h⟩, fun u' v' hc => ?_⟩
  rw [wcell_lit h] at hc
  have := List.mem_of_getElem? hc
  simp only [List.mem_singleton, Value.iface.injEq] at this
  obtain ⟨rfl, rfl⟩ := this
  exact Value.okWide_of_okWideB hn
end
theorem wflat_at {α : Type} (f : α → List Value) (k : Nat) (hf : ∀ x, (f x).length = k) : ∀ (l : List α) (i : Nat) (h : i < l.length), ((l.flatMap f).drop (i * k)).take k = f l[i]
  | [], i, h => by simp at h
  | x :: l, 0, _ => by simp [List.flatMap_cons, ← hf x]
  | x :: l, i + 1, h => by
    rw [List.flatMap_cons, Nat.succ_mul, Nat.add_comm, ← List.drop_drop, List.drop_append_of_le_length (by rw [hf x]; exact Nat.le_refl _), ← hf x, List.drop_length, List.nil_append, hf x]
    exact wflat_at f k hf l i (by simpa using h)
theorem wflat_len {α : Type} (f : α → List Value) (k : Nat) (hf : ∀ x, (f x).length = k) (l : List α) : (l.flatMap f).length = l.length * k := by
  induction l with
  | nil => simp
  | cons x l ih => rw [List.flatMap_cons, List.length_append, hf, ih, List.length_cons, Nat.succ_mul, Nat.add_comm]
theorem wrange_get {α β : Type} [Inhabited α] (f : α → β) (l : List α) : (List.range l.length).map (fun i => f (l.getD i default)) = l.map f := by
  apply List.ext_getElem?
  intro j
  rw [List.getElem?_map, List.getElem?_map]
  by_cases h : j < l.length
  · rw [List.getElem?_range h, List.getElem?_eq_getElem h]
    simp [List.getD_eq_getElem?_getD, h]
  · rw [List.getElem?_eq_none (by simpa using h), List.getElem?_eq_none (by simpa using h)]
    rfl
def wlitOf : Value → DataW Unit
  | .int k n => .lit (.int k n)
  | .float k b => .lit (.float k b)
  | _ => .nil
def wlitB (d : TypeDesc) : Value → Bool
  | .int k n => (match d with | .int k' => decide (k = k') | _ => false) && (Lit.int k n).wf
  | .float k n => (match d with | .float k' => decide (k = k') | _ => false) && (Lit.float k n).wf
  | _ => false
theorem wtrod_lit {P : Program} {w : World} {sp : Nat → Bool} {held : Bool} {fuel : Nat} {e : TypeId} {d : TypeDesc} {v : Value} (he : P.underlying e = some d) (h : wlitB d v = true) : DataW.trod (fun _ => ()) P w 0 sp held (fuel + 1) e [v] = some (wlitOf v, []) := by
  unfold DataW.trod
  cases v <;> simp [wlitB] at h <;> cases d <;> simp at h <;> (obtain ⟨rfl, h2⟩ := h; simp [he, wlitOf, h2])
theorem trod_slitsL {P : Program} {w : World} {fuel : Nat} {t e : TypeId} {d : TypeDesc} {b n : Nat} {T : TypeId} {cs : List Value} (ht : P.underlying t = some (.slice e)) (he : P.underlying e = some d) (hk : P.cellsOf e = 1) (hb : w.heap[b]? = some (.cells cs.toArray T (0, 0))) (hl : cs.length = n) (hn : n ≤ maxLen) (hs : cs.all (wlitB d) = true) :
    DataW.trod (fun _ => ()) P w 0 (fun _ => true) false (fuel + 2) t [.slice (some ⟨b, 0, none⟩) n n] = some (.slice (cs.map wlitOf) [], MemPlace.row ⟨b, 0, none⟩ n) := by
  subst hl
  have := trod_sliceL (P := P) (w := w) (enc := fun _ => ()) (sp := fun _ => true) (held := false) (fuel := fuel + 1) (k := 1) (n := cs.length) (g := fun i => wlitOf (cs.getD i (.bool false))) ht hk hb (by omega) hn (fun i hi => by
    have h1 : (cs.drop (i * 1)).take 1 = [cs[i]] := by rw [Nat.mul_one, List.drop_eq_getElem_cons hi]; rfl
    rw [h1, wtrod_lit he (List.all_eq_true.1 hs _ (List.getElem_mem hi)), List.getD_eq_getElem?_getD, List.getElem?_eq_getElem hi]
    rfl)
  rw [this, Nat.mul_one]
  congr 2
  have h2 : (List.range cs.length).map (fun i => wlitOf (cs.getD i (.bool false))) = cs.map wlitOf := @wrange_get _ _ ⟨.bool false⟩ wlitOf cs
  rw [h2]
def pwF (x : Nat × Nat) : List Value := [Value.int .u64 x.1, Value.int .u64 x.2]
def chF (x : Nat × List UInt8) : List Value := [Value.int .i64 x.1, Value.string ⟨x.2.toArray⟩]
def wc0 : List Value := [.int .u64 1, .int .u64 10, .int .u64 100, .int .u64 1000, .int .u64 10000, .int .u64 100000, .int .u64 1000000, .int .u64 10000000, .int .u64 100000000, .int .u64 1000000000, .int .u64 10000000000, .int .u64 100000000000, .int .u64 1000000000000, .int .u64 10000000000000, .int .u64 100000000000000, .int .u64 1000000000000000, .int .u64 10000000000000000, .int .u64 100000000000000000, .int .u64 1000000000000000000, .int .u64 10000000000000000000]
def wc1 : List Value := [.iface 226 (.pointer (some ⟨18, 0, none⟩))]
def wc2 : List Value := [.iface 226 (.pointer (some ⟨19, 0, none⟩))]
def wc3 : List Value := [.int .u64 23, .int .u64 8, .int .i64 (-127)]
def wc4 : List Value := [.bool true]
def wc5 : List Value := [.int .u64 52, .int .u64 11, .int .i64 (-1023)]
def wc6 : List Value := [.int .u8 0, .int .u8 1, .int .u8 28, .int .u8 2, .int .u8 29, .int .u8 14, .int .u8 24, .int .u8 3, .int .u8 30, .int .u8 22, .int .u8 20, .int .u8 15, .int .u8 25, .int .u8 17, .int .u8 4, .int .u8 8, .int .u8 31, .int .u8 27, .int .u8 13, .int .u8 23, .int .u8 21, .int .u8 19, .int .u8 16, .int .u8 7, .int .u8 26, .int .u8 12, .int .u8 18, .int .u8 6, .int .u8 11, .int .u8 5, .int .u8 10, .int .u8 9]
def wc7 : List Value := [.int .u8 0, .int .u8 1, .int .u8 56, .int .u8 2, .int .u8 57, .int .u8 49, .int .u8 28, .int .u8 3, .int .u8 61, .int .u8 58, .int .u8 42, .int .u8 50, .int .u8 38, .int .u8 29, .int .u8 17, .int .u8 4, .int .u8 62, .int .u8 47, .int .u8 59, .int .u8 36, .int .u8 45, .int .u8 43, .int .u8 51, .int .u8 22, .int .u8 53, .int .u8 39, .int .u8 33, .int .u8 30, .int .u8 24, .int .u8 18, .int .u8 12, .int .u8 5, .int .u8 63, .int .u8 55, .int .u8 48, .int .u8 27, .int .u8 60, .int .u8 41, .int .u8 37, .int .u8 16, .int .u8 46, .int .u8 35, .int .u8 44, .int .u8 21, .int .u8 52, .int .u8 32, .int .u8 23, .int .u8 11, .int .u8 54, .int .u8 26, .int .u8 40, .int .u8 15, .int .u8 34, .int .u8 20, .int .u8 31, .int .u8 10, .int .u8 25, .int .u8 14, .int .u8 19, .int .u8 9, .int .u8 13, .int .u8 8, .int .u8 7, .int .u8 6]
def wc8 : List Value := [.slice (some ⟨20, 0, none⟩) 11 11]
def wc9 : List Value := [.slice (some ⟨21, 0, none⟩) 9 9]
def wc10 : List Value := [.slice (some ⟨22, 0, none⟩) 23 23]
def wc11 : List Value := Pinned.pow10Rows.flatMap pwF
def wc12 : List Value := [.slice (some ⟨23, 0, none⟩) Pinned.cheatRows.length Pinned.cheatRows.length]
def wc18 : List Value := [.string ⟨#[105, 110, 118, 97, 108, 105, 100, 32, 115, 121, 110, 116, 97, 120]⟩]
def wc19 : List Value := [.string ⟨#[118, 97, 108, 117, 101, 32, 111, 117, 116, 32, 111, 102, 32, 114, 97, 110, 103, 101]⟩]
def wc20 : List Value := [.float .f32 1065353216, .float .f32 1092616192, .float .f32 1120403456, .float .f32 1148846080, .float .f32 1176256512, .float .f32 1203982336, .float .f32 1232348160, .float .f32 1259902592, .float .f32 1287568416, .float .f32 1315859240, .float .f32 1343554297]
def wc21 : List Value := [.int .i64 1, .int .i64 3, .int .i64 6, .int .i64 9, .int .i64 13, .int .i64 16, .int .i64 19, .int .i64 23, .int .i64 26]
def wc22 : List Value := [.float .f64 4607182418800017408, .float .f64 4621819117588971520, .float .f64 4636737291354636288, .float .f64 4652007308841189376, .float .f64 4666723172467343360, .float .f64 4681608360884174848, .float .f64 4696837146684686336, .float .f64 4711630319722168320, .float .f64 4726483295884279808, .float .f64 4741671816366391296, .float .f64 4756540486875873280, .float .f64 4771362005757984768, .float .f64 4786511204640096256, .float .f64 4801453603149578240, .float .f64 4816244402031689728, .float .f64 4831355200913801216, .float .f64 4846369599423283200, .float .f64 4861130398305394688, .float .f64 4876203697187506176, .float .f64 4891288408196988160, .float .f64 4906019910204099648, .float .f64 4921056587992461136, .float .f64 4936209963552724370]
def wc23 : List Value := Pinned.cheatRows.flatMap chF
noncomputable def wW (os : Os) (args : Array Value) : World := ((laidWorld os).forCall (fun _ _ => 0) ⟨#[], args, []⟩).memory
theorem wh0 (os : Os) (args : Array Value) : (wW os args).heap[0]? = some (.cells wc0.toArray 270 (0, 0)) := by kernel_rfl
theorem wh1 (os : Os) (args : Array Value) : (wW os args).heap[1]? = some (.cells wc1.toArray 77 (0, 0)) := by kernel_rfl
theorem wh2 (os : Os) (args : Array Value) : (wW os args).heap[2]? = some (.cells wc2.toArray 77 (0, 0)) := by kernel_rfl
theorem wh3 (os : Os) (args : Array Value) : (wW os args).heap[3]? = some (.cells wc3.toArray 305 (0, 0)) := by kernel_rfl
theorem wh4 (os : Os) (args : Array Value) : (wW os args).heap[4]? = some (.cells wc4.toArray 4 (0, 0)) := by kernel_rfl
theorem wh5 (os : Os) (args : Array Value) : (wW os args).heap[5]? = some (.cells wc5.toArray 305 (0, 0)) := by kernel_rfl
theorem wh6 (os : Os) (args : Array Value) : (wW os args).heap[6]? = some (.cells wc6.toArray 323 (0, 0)) := by kernel_rfl
theorem wh7 (os : Os) (args : Array Value) : (wW os args).heap[7]? = some (.cells wc7.toArray 324 (0, 0)) := by kernel_rfl
theorem wh8 (os : Os) (args : Array Value) : (wW os args).heap[8]? = some (.cells wc8.toArray 340 (0, 0)) := by kernel_rfl
theorem wh9 (os : Os) (args : Array Value) : (wW os args).heap[9]? = some (.cells wc9.toArray 139 (0, 0)) := by kernel_rfl
theorem wh10 (os : Os) (args : Array Value) : (wW os args).heap[10]? = some (.cells wc10.toArray 349 (0, 0)) := by kernel_rfl
theorem wh11 (os : Os) (args : Array Value) : (wW os args).heap[11]? = some (.cells wc11.toArray 360 (0, 0)) := by kernel_rfl
theorem wh12 (os : Os) (args : Array Value) : (wW os args).heap[12]? = some (.cells wc12.toArray 366 (0, 0)) := by kernel_rfl
theorem wh18 (os : Os) (args : Array Value) : (wW os args).heap[18]? = some (.cells wc18.toArray 228 (0, 0)) := by kernel_rfl
theorem wh19 (os : Os) (args : Array Value) : (wW os args).heap[19]? = some (.cells wc19.toArray 228 (0, 0)) := by kernel_rfl
theorem wh20 (os : Os) (args : Array Value) : (wW os args).heap[20]? = some (.cells wc20.toArray 288 (0, 0)) := by kernel_rfl
theorem wh21 (os : Os) (args : Array Value) : (wW os args).heap[21]? = some (.cells wc21.toArray 3 (0, 0)) := by kernel_rfl
theorem wh22 (os : Os) (args : Array Value) : (wW os args).heap[22]? = some (.cells wc22.toArray 214 (0, 0)) := by kernel_rfl
theorem wh23 (os : Os) (args : Array Value) : (wW os args).heap[23]? = some (.cells wc23.toArray 365 (0, 0)) := by kernel_rfl
theorem wt0 (w : World) : DataW.trod (fun _ => ()) Tryz.prog w 0 (fun _ => true) false 8 270 wc0 = some (Rows.laid_internal_strconv_uint64pow10, []) := by kernel_rfl
theorem wt3 (w : World) : DataW.trod (fun _ => ()) Tryz.prog w 0 (fun _ => true) false 8 305 wc3 = some (Rows.laid_internal_strconv_float32info, []) := by kernel_rfl
theorem wt4 (w : World) : DataW.trod (fun _ => ()) Tryz.prog w 0 (fun _ => true) false 8 4 wc4 = some (Rows.laid_internal_strconv_optimize, []) := by kernel_rfl
theorem wt5 (w : World) : DataW.trod (fun _ => ()) Tryz.prog w 0 (fun _ => true) false 8 305 wc5 = some (Rows.laid_internal_strconv_float64info, []) := by kernel_rfl
theorem wt6 (w : World) : DataW.trod (fun _ => ()) Tryz.prog w 0 (fun _ => true) false 8 323 wc6 = some (Rows.laid_math_bits_deBruijn32tab, []) := by kernel_rfl
theorem wt7 (w : World) : DataW.trod (fun _ => ()) Tryz.prog w 0 (fun _ => true) false 8 324 wc7 = some (Rows.laid_math_bits_deBruijn64tab, []) := by kernel_rfl
theorem wt8 (os : Os) (args : Array Value) : DataW.trod (fun _ => ()) Tryz.prog (wW os args) 0 (fun _ => true) false 8 340 wc8 = some (Rows.laid_internal_strconv_float32pow10, MemPlace.row ⟨20, 0, none⟩ 11) :=
  (trod_slitsL (fuel := 6) (e := 288) (d := .float .f32) (cs := wc20) (n := 11) (by kernel_rfl) (by kernel_rfl) (by kernel_rfl) (wh20 os args) rfl (by unfold maxLen; omega) (by kernel_rfl)).trans (by kernel_rfl)
theorem wt9 (os : Os) (args : Array Value) : DataW.trod (fun _ => ()) Tryz.prog (wW os args) 0 (fun _ => true) false 8 139 wc9 = some (Rows.laid_internal_strconv_powtab, MemPlace.row ⟨21, 0, none⟩ 9) :=
  (trod_slitsL (fuel := 6) (e := 3) (d := .int .i64) (cs := wc21) (n := 9) (by kernel_rfl) (by kernel_rfl) (by kernel_rfl) (wh21 os args) rfl (by unfold maxLen; omega) (by kernel_rfl)).trans (by kernel_rfl)
theorem wt10 (os : Os) (args : Array Value) : DataW.trod (fun _ => ()) Tryz.prog (wW os args) 0 (fun _ => true) false 8 349 wc10 = some (Rows.laid_internal_strconv_float64pow10, MemPlace.row ⟨22, 0, none⟩ 23) :=
  (trod_slitsL (fuel := 6) (e := 214) (d := .float .f64) (cs := wc22) (n := 23) (by kernel_rfl) (by kernel_rfl) (by kernel_rfl) (wh22 os args) rfl (by unfold maxLen; omega) (by kernel_rfl)).trans (by kernel_rfl)
theorem wt1 (os : Os) (args : Array Value) : DataW.trod (fun _ => ()) Tryz.prog (wW os args) 0 (fun _ => true) false 8 77 wc1 = some (Rows.laid_strconv_ErrSyntax, MemPlace.row ⟨18, 0, none⟩ 1) := by kernel_rfl
theorem wo1 (os : Os) (args : Array Value) : Value.okWideB Tryz.prog (wW os args) 226 (.pointer (some ⟨18, 0, none⟩)) = true := by kernel_rfl
theorem wt2 (os : Os) (args : Array Value) : DataW.trod (fun _ => ()) Tryz.prog (wW os args) 0 (fun _ => true) false 8 77 wc2 = some (Rows.laid_strconv_ErrRange, MemPlace.row ⟨19, 0, none⟩ 1) := by kernel_rfl
theorem wo2 (os : Os) (args : Array Value) : Value.okWideB Tryz.prog (wW os args) 226 (.pointer (some ⟨19, 0, none⟩)) = true := by kernel_rfl
theorem wpw_one (w : World) (x : Nat × Nat) (h1 : (Lit.int .u64 (x.1 : Int)).wf = true) (h2 : (Lit.int .u64 (x.2 : Int)).wf = true) : DataW.trod (fun _ => ()) Tryz.prog w 0 (fun _ => true) false 7 359 (pwF x) = some (.agg [.lit (.int .u64 x.1), .lit (.int .u64 x.2)], []) := by
  have e1 : Tryz.prog.underlying 359 = some (.struct #[⟨ "hi", 235, 0, false, "", "internal/strconv", 0⟩, ⟨ "lo", 235, 1, false, "", "internal/strconv", 8⟩]) := by kernel_rfl
  have e2 : Tryz.prog.cellsOf 359 = 2 := by kernel_rfl
  have e3 : Tryz.prog.cellsOf 235 = 1 := by kernel_rfl
  have e4 : Tryz.prog.underlying 235 = some (.int .u64) := by kernel_rfl
  unfold DataW.trod
  simp only [e1, pwF, e2]
  rw [if_pos (show ([Value.int .u64 (x.1 : Int), Value.int .u64 (x.2 : Int)] : List Value).length = 2 from rfl)]
  simp only [List.mapM_cons, List.mapM_nil, e3]
  have t1 : DataW.trod (fun _ => ()) Tryz.prog w 0 (fun _ => true) false 6 235 [Value.int .u64 x.1] = some (.lit (.int .u64 x.1), []) := wtrod_lit (fuel := 5) e4 (by simp [wlitB, h1])
  have t2 : DataW.trod (fun _ => ()) Tryz.prog w 0 (fun _ => true) false 6 235 [Value.int .u64 x.2] = some (.lit (.int .u64 x.2), []) := wtrod_lit (fuel := 5) e4 (by simp [wlitB, h2])
  simp [t1, t2]
theorem wt11 (w : World) : DataW.trod (fun _ => ()) Tryz.prog w 0 (fun _ => true) false 8 360 wc11 = some (Rows.laid_internal_strconv_pow10Tab, []) := by
  have hl : wc11.length = Pinned.pow10Rows.length * 2 := wflat_len pwF 2 (fun _ => rfl) _
  have hr : Pinned.pow10Rows.length = 696 := by kernel_rfl
  have hwf : Pinned.pow10Rows.all (fun x => (Lit.int .u64 x.1).wf && (Lit.int .u64 x.2).wf) = true := by kernel_rfl
  have := trod_arrayL (P := Tryz.prog) (w := w) (enc := fun _ => ()) (sp := fun _ => true) (held := false) (fuel := 7) (t := 360) (e := 359) (n := 696) (k := 2) (cs := wc11) (g := fun i => (fun x : Nat × Nat => (.agg [.lit (.int .u64 x.1), .lit (.int .u64 x.2)] : DataW Unit)) (Pinned.pow10Rows.getD i default)) (by kernel_rfl) (by kernel_rfl) (by rw [hl, hr]; kernel_rfl) (fun i hi => by
    have hi' : i < Pinned.pow10Rows.length := by rw [hr]; exact hi
    have h1 : (wc11.drop (i * 2)).take 2 = pwF Pinned.pow10Rows[i] := wflat_at pwF 2 (fun _ => rfl) _ i hi'
    have h2 := List.all_eq_true.1 hwf _ (List.getElem_mem hi')
    simp only [Bool.and_eq_true] at h2
    rw [h1, List.getD_eq_getElem?_getD, List.getElem?_eq_getElem hi', Option.getD_some]
    exact wpw_one w _ h2.1 h2.2)
  rw [this]
  have h3 := wrange_get (fun x : Nat × Nat => (.agg [.lit (.int .u64 x.1), .lit (.int .u64 x.2)] : DataW Unit)) Pinned.pow10Rows
  rw [hr] at h3
  rw [h3]
  rfl
theorem wch_one (w : World) (x : Nat × List UInt8) (h1 : (Lit.int .i64 (x.1 : Int)).wf = true) (h2 : x.2.length ≤ maxLen) : DataW.trod (fun _ => ()) Tryz.prog w 0 (fun _ => true) false 7 365 (chF x) = some (.agg [.lit (.int .i64 x.1), .lit (.string x.2)], []) := by
  have e1 : Tryz.prog.underlying 365 = some (.struct #[⟨ "delta", 3, 0, false, "", "internal/strconv", 0⟩, ⟨ "cutoff", 9, 1, false, "", "internal/strconv", 8⟩]) := by kernel_rfl
  have e2 : Tryz.prog.cellsOf 365 = 2 := by kernel_rfl
  have e3 : Tryz.prog.cellsOf 3 = 1 := by kernel_rfl
  have e4 : Tryz.prog.cellsOf 9 = 1 := by kernel_rfl
  have e5 : Tryz.prog.underlying 3 = some (.int .i64) := by kernel_rfl
  have e6 : Tryz.prog.underlying 9 = some .string := by kernel_rfl
  have t1 : DataW.trod (fun _ => ()) Tryz.prog w 0 (fun _ => true) false 6 3 [Value.int .i64 x.1] = some (.lit (.int .i64 x.1), []) := wtrod_lit (fuel := 5) e5 (by simp [wlitB, h1])
  have t2 : DataW.trod (fun _ => ()) Tryz.prog w 0 (fun _ => true) false 6 9 [Value.string ⟨x.2.toArray⟩] = some (.lit (.string x.2), []) := by
    unfold DataW.trod
    have : (ByteArray.mk x.2.toArray).size ≤ maxLen := by simpa [ByteArray.size] using h2
    simp [e6, this]
  unfold DataW.trod
  simp only [e1, chF, e2]
  rw [if_pos (show ([Value.int .i64 (x.1 : Int), Value.string ⟨x.2.toArray⟩] : List Value).length = 2 from rfl)]
  simp only [List.mapM_cons, List.mapM_nil, e3, e4]
  simp [t1, t2]
theorem wt12 (os : Os) (args : Array Value) : DataW.trod (fun _ => ()) Tryz.prog (wW os args) 0 (fun _ => true) false 8 366 wc12 = some (Rows.laid_internal_strconv_leftcheats, MemPlace.row ⟨23, 0, none⟩ 122) := by
  have hl : wc23.length = Pinned.cheatRows.length * 2 := wflat_len chF 2 (fun _ => rfl) _
  have hr : Pinned.cheatRows.length = 61 := by kernel_rfl
  have hwf : Pinned.cheatRows.all (fun x => (Lit.int .i64 x.1).wf && decide (x.2.length ≤ maxLen)) = true := by kernel_rfl
  have := trod_sliceL (P := Tryz.prog) (w := wW os args) (enc := fun _ => ()) (sp := fun _ => true) (held := false) (fuel := 7) (t := 366) (e := 365) (b := 23) (n := 61) (k := 2) (T := 365) (cs := wc23) (g := fun i => (fun x : Nat × List UInt8 => (.agg [.lit (.int .i64 x.1), .lit (.string x.2)] : DataW Unit)) (Pinned.cheatRows.getD i default)) (by kernel_rfl) (by kernel_rfl) (wh23 os args) (by rw [hl, hr]) (by unfold maxLen; omega) (fun i hi => by
    have hi' : i < Pinned.cheatRows.length := by rw [hr]; exact hi
    have h1 : (wc23.drop (i * 2)).take 2 = chF Pinned.cheatRows[i] := wflat_at chF 2 (fun _ => rfl) _ i hi'
    have h2 := List.all_eq_true.1 hwf _ (List.getElem_mem hi')
    simp only [Bool.and_eq_true, decide_eq_true_eq] at h2
    rw [h1, List.getD_eq_getElem?_getD, List.getElem?_eq_getElem hi', Option.getD_some]
    exact wch_one _ _ h2.1 h2.2)
  have h3 := wrange_get (fun x : Nat × List UInt8 => (.agg [.lit (.int .i64 x.1), .lit (.string x.2)] : DataW Unit)) Pinned.cheatRows
  rw [hr] at h3
  rw [h3] at this
  exact this
def wPs : List MemPlace := MemPlace.row ⟨6, 0, none⟩ wc6.length ++ [] ++ (MemPlace.row ⟨7, 0, none⟩ wc7.length ++ [] ++ (MemPlace.row ⟨3, 0, none⟩ wc3.length ++ [] ++ (MemPlace.row ⟨5, 0, none⟩ wc5.length ++ [] ++ (MemPlace.row ⟨4, 0, none⟩ wc4.length ++ [] ++ (MemPlace.row ⟨9, 0, none⟩ wc9.length ++ MemPlace.row ⟨21, 0, none⟩ 9 ++ (MemPlace.row ⟨10, 0, none⟩ wc10.length ++ MemPlace.row ⟨22, 0, none⟩ 23 ++ (MemPlace.row ⟨8, 0, none⟩ wc8.length ++ MemPlace.row ⟨20, 0, none⟩ 11 ++ (MemPlace.row ⟨0, 0, none⟩ wc0.length ++ [] ++ (MemPlace.row ⟨2, 0, none⟩ wc2.length ++ MemPlace.row ⟨19, 0, none⟩ 1 ++ (MemPlace.row ⟨1, 0, none⟩ wc1.length ++ MemPlace.row ⟨18, 0, none⟩ 1 ++ (MemPlace.row ⟨12, 0, none⟩ wc12.length ++ MemPlace.row ⟨23, 0, none⟩ 122 ++ (MemPlace.row ⟨11, 0, none⟩ wc11.length ++ [] ++ ([])))))))))))))
theorem wLv (os : Os) (args : Array Value) : DataW.LaidVars Tryz.prog (wW os args) Rows.fnTextedRow.laid wPs :=
  wlv_cons 8 (by kernel_rfl) (by kernel_rfl) (wh6 os args) (wt6 _) (wlv_cons 8 (by kernel_rfl) (by kernel_rfl) (wh7 os args) (wt7 _) (wlv_cons 8 (by kernel_rfl) (by kernel_rfl) (wh3 os args) (wt3 _) (wlv_cons 8 (by kernel_rfl) (by kernel_rfl) (wh5 os args) (wt5 _) (wlv_cons 8 (by kernel_rfl) (by kernel_rfl) (wh4 os args) (wt4 _) (wlv_cons 8 (by kernel_rfl) (by kernel_rfl) (wh9 os args) (wt9 os args) (wlv_cons 8 (by kernel_rfl) (by kernel_rfl) (wh10 os args) (wt10 os args) (wlv_cons 8 (by kernel_rfl) (by kernel_rfl) (wh8 os args) (wt8 os args) (wlv_cons 8 (by kernel_rfl) (by kernel_rfl) (wh0 os args) (wt0 _) (wlv_cons 8 (by kernel_rfl) (by kernel_rfl) (wh2 os args) (wt2 os args) (wlv_cons 8 (by kernel_rfl) (by kernel_rfl) (wh1 os args) (wt1 os args) (wlv_cons 8 (by kernel_rfl) (by kernel_rfl) (wh12 os args) (wt12 os args) (wlv_cons 8 (by kernel_rfl) (by kernel_rfl) (wh11 os args) (wt11 _) (rfl)))))))))))))
def wBs : List Nat := [0, 1, 2, 3, 4, 5, 6, 7, 8, 9, 10, 11, 12, 18, 19, 20, 21, 22, 23]
theorem wNd : nodupBits 1400 wPs 0 = true := by kernel_rfl
theorem wIn : inB wBs wPs = true := by kernel_rfl
theorem laid_met (os : Os) (args : Array Value) : laidMet Tryz.prog Rows.fnTextedRow.laid (wW os args) := by
  refine ⟨wPs, wLv os args, (nodupBits_sound wNd).1, fun b off hp => ?_⟩
  have h1 := List.all_eq_true.1 wIn _ hp
  have hb : b ∈ wBs := by simpa using h1
  simp only [wBs, List.mem_cons, List.not_mem_nil, or_false] at hb
  rcases hb with rfl | rfl | rfl | rfl | rfl | rfl | rfl | rfl | rfl | rfl | rfl | rfl | rfl | rfl | rfl | rfl | rfl | rfl | rfl
  · exact wgood_lit (wh0 os args) (by kernel_rfl)
  · exact wgood_one (wh1 os args) (wo1 os args)
  · exact wgood_one (wh2 os args) (wo2 os args)
  · exact wgood_lit (wh3 os args) (by kernel_rfl)
  · exact wgood_lit (wh4 os args) (by kernel_rfl)
  · exact wgood_lit (wh5 os args) (by kernel_rfl)
  · exact wgood_lit (wh6 os args) (by kernel_rfl)
  · exact wgood_lit (wh7 os args) (by kernel_rfl)
  · exact wgood_lit (wh8 os args) (by kernel_rfl)
  · exact wgood_lit (wh9 os args) (by kernel_rfl)
  · exact wgood_lit (wh10 os args) (by kernel_rfl)
  · exact wgood_lit (wh11 os args) (by kernel_rfl)
  · exact wgood_lit (wh12 os args) (by kernel_rfl)
  · exact wgood_lit (wh18 os args) (by kernel_rfl)
  · exact wgood_lit (wh19 os args) (by kernel_rfl)
  · exact wgood_lit (wh20 os args) (by kernel_rfl)
  · exact wgood_lit (wh21 os args) (by kernel_rfl)
  · exact wgood_lit (wh22 os args) (by kernel_rfl)
  · exact wgood_lit (wh23 os args) (by kernel_rfl)
end Go.Jw

namespace Go.Jw
open Go Go.RowKit Go.Proofs Go.ChangeShapes Go.WideShapes Go.ChangeAt Go.Proofs.YtlcfillobkdnmaaGreatDoor
set_option maxRecDepth 100000
noncomputable abbrev jP : Program := Tryz.pinned.checked.prog
noncomputable abbrev jC : OpenClaim := Rows.fnTextedUptoRow
noncomputable abbrev jS : ChangeSpec := (Rows.OpenSpec.upto Rows.fnTextedSpec).bare
noncomputable abbrev jF : Func := Tryz.f3
def jL : List Char := ([104, 97, 114, 110, 101, 115, 115, 32, 51, 52, 54, 53, 50, 48, 98, 97, 101, 52, 98, 52, 51, 99, 98, 99, 55, 56, 100, 101, 53, 53, 51, 57, 50, 50, 101, 54, 99, 51, 55, 50, 100, 97, 98, 97, 102, 48, 98, 100, 48, 48, 53, 100, 102, 57, 97, 97, 102, 99, 54, 50, 57, 100, 55, 55, 100, 51, 48, 101, 52, 48, 56, 53, 32, 99, 117, 116, 32, 97, 116, 32, 108, 111, 111, 112, 46, 101, 120, 97, 109, 112, 108, 101, 47, 112, 117, 98, 45, 103, 48, 49, 53, 50, 50, 47, 108, 97, 119, 115, 46, 70, 110, 84, 101, 120, 116, 101, 100, 32, 108, 111, 111, 112, 46, 101, 120, 97, 109, 112, 108, 101, 47, 112, 117, 98, 45, 103, 48, 49, 53, 50, 50, 47, 108, 97, 119, 115, 46, 70, 110, 87, 114, 105, 116, 116, 101, 110, 32, 108, 111, 111, 112, 46, 101, 120, 97, 109, 112, 108, 101, 47, 112, 117, 98, 45, 103, 48, 49, 53, 50, 50, 47, 108, 97, 119, 115, 46, 70, 110, 87, 114, 105, 116, 116, 101, 110, 84, 119, 105, 99, 101, 32, 108, 111, 111, 112, 46, 101, 120, 97, 109, 112, 108, 101, 47, 112, 117, 98, 45, 103, 48, 49, 53, 50, 50, 47, 108, 97, 119, 115, 46, 70, 110, 65, 100, 100, 101, 100, 32, 108, 111, 111, 112, 46, 101, 120, 97, 109, 112, 108, 101, 47, 112, 117, 98, 45, 103, 48, 49, 53, 50, 50, 47, 108, 97, 119, 115, 46, 70, 110, 70, 111, 117, 110, 100, 32, 108, 111, 111, 112, 46, 101, 120, 97, 109, 112, 108, 101, 47, 112, 117, 98, 45, 103, 48, 49, 53, 50, 50, 47, 108, 97, 119, 115, 46, 70, 110, 80, 111, 105, 110, 116, 101, 100, 32, 108, 111, 111, 112, 46, 101, 120, 97, 109, 112, 108, 101, 47, 112, 117, 98, 45, 103, 48, 49, 53, 50, 50, 47, 108, 97, 119, 115, 46, 70, 110, 67, 111, 112, 105, 101, 100, 32, 108, 111, 111, 112, 46, 101, 120, 97, 109, 112, 108, 101, 47, 112, 117, 98, 45, 103, 48, 49, 53, 50, 50, 47, 108, 97, 119, 115, 46, 70, 110, 67, 111, 112, 105, 101, 100, 65, 99, 99, 101, 112, 116, 115, 32, 108, 111, 111, 112, 46, 101, 120, 97, 109, 112, 108, 101, 47, 112, 117, 98, 45, 103, 48, 49, 53, 50, 50, 47, 108, 97, 119, 115, 46, 70, 110, 65, 108, 108, 83, 116, 101, 112, 115, 32, 108, 111, 111, 112, 46, 101, 120, 97, 109, 112, 108, 101, 47, 112, 117, 98, 45, 103, 48, 49, 53, 50, 50, 47, 108, 97, 119, 115, 46, 70, 110, 67, 104, 111, 115, 101, 110, 32, 108, 111, 111, 112, 46, 101, 120, 97, 109, 112, 108, 101, 47, 112, 117, 98, 45, 103, 48, 49, 53, 50, 50, 47, 108, 97, 119, 115, 46, 70, 110, 67, 104, 111, 115, 101, 110, 78, 97, 114, 114, 111, 119, 115, 32, 108, 111, 111, 112, 46, 101, 120, 97, 109, 112, 108, 101, 47, 112, 117, 98, 45, 103, 48, 49, 53, 50, 50, 47, 108, 97, 119, 115, 46, 70, 110, 77, 101, 114, 103, 101, 100, 32, 108, 111, 111, 112, 46, 101, 120, 97, 109, 112, 108, 101, 47, 112, 117, 98, 45, 103, 48, 49, 53, 50, 50, 47, 108, 97, 119, 115, 46, 70, 110, 77, 101, 114, 103, 101, 100, 65, 99, 99, 101, 112, 116, 115, 32, 108, 111, 111, 112, 46, 101, 120, 97, 109, 112, 108, 101, 47, 112, 117, 98, 45, 103, 48, 49, 53, 50, 50, 47, 108, 97, 119, 115, 46, 70, 110, 82, 101, 115, 111, 108, 118, 101, 100, 32, 108, 111, 111, 112, 46, 101, 120, 97, 109, 112, 108, 101, 47, 112, 117, 98, 45, 103, 48, 49, 53, 50, 50, 47, 108, 97, 119, 115, 46, 70, 110, 82, 101, 115, 111, 108, 118, 101, 100, 65, 99, 99, 101, 112, 116, 115, 32, 108, 111, 111, 112, 46, 101, 120, 97, 109, 112, 108, 101, 47, 112, 117, 98, 45, 103, 48, 49, 53, 50, 50, 47, 108, 97, 119, 115, 46, 70, 110, 82, 101, 115, 111, 108, 118, 101, 100, 84, 119, 105, 99, 101] : List Nat).map Char.ofNat
def jW : List (List Char) := ([[104, 97, 114, 110, 101, 115, 115], [51, 52, 54, 53, 50, 48, 98, 97, 101, 52, 98, 52, 51, 99, 98, 99, 55, 56, 100, 101, 53, 53, 51, 57, 50, 50, 101, 54, 99, 51, 55, 50, 100, 97, 98, 97, 102, 48, 98, 100, 48, 48, 53, 100, 102, 57, 97, 97, 102, 99, 54, 50, 57, 100, 55, 55, 100, 51, 48, 101, 52, 48, 56, 53], [99, 117, 116], [97, 116], [108, 111, 111, 112, 46, 101, 120, 97, 109, 112, 108, 101, 47, 112, 117, 98, 45, 103, 48, 49, 53, 50, 50, 47, 108, 97, 119, 115, 46, 70, 110, 84, 101, 120, 116, 101, 100], [108, 111, 111, 112, 46, 101, 120, 97, 109, 112, 108, 101, 47, 112, 117, 98, 45, 103, 48, 49, 53, 50, 50, 47, 108, 97, 119, 115, 46, 70, 110, 87, 114, 105, 116, 116, 101, 110], [108, 111, 111, 112, 46, 101, 120, 97, 109, 112, 108, 101, 47, 112, 117, 98, 45, 103, 48, 49, 53, 50, 50, 47, 108, 97, 119, 115, 46, 70, 110, 87, 114, 105, 116, 116, 101, 110, 84, 119, 105, 99, 101], [108, 111, 111, 112, 46, 101, 120, 97, 109, 112, 108, 101, 47, 112, 117, 98, 45, 103, 48, 49, 53, 50, 50, 47, 108, 97, 119, 115, 46, 70, 110, 65, 100, 100, 101, 100], [108, 111, 111, 112, 46, 101, 120, 97, 109, 112, 108, 101, 47, 112, 117, 98, 45, 103, 48, 49, 53, 50, 50, 47, 108, 97, 119, 115, 46, 70, 110, 70, 111, 117, 110, 100], [108, 111, 111, 112, 46, 101, 120, 97, 109, 112, 108, 101, 47, 112, 117, 98, 45, 103, 48, 49, 53, 50, 50, 47, 108, 97, 119, 115, 46, 70, 110, 80, 111, 105, 110, 116, 101, 100], [108, 111, 111, 112, 46, 101, 120, 97, 109, 112, 108, 101, 47, 112, 117, 98, 45, 103, 48, 49, 53, 50, 50, 47, 108, 97, 119, 115, 46, 70, 110, 67, 111, 112, 105, 101, 100], [108, 111, 111, 112, 46, 101, 120, 97, 109, 112, 108, 101, 47, 112, 117, 98, 45, 103, 48, 49, 53, 50, 50, 47, 108, 97, 119, 115, 46, 70, 110, 67, 111, 112, 105, 101, 100, 65, 99, 99, 101, 112, 116, 115], [108, 111, 111, 112, 46, 101, 120, 97, 109, 112, 108, 101, 47, 112, 117, 98, 45, 103, 48, 49, 53, 50, 50, 47, 108, 97, 119, 115, 46, 70, 110, 65, 108, 108, 83, 116, 101, 112, 115], [108, 111, 111, 112, 46, 101, 120, 97, 109, 112, 108, 101, 47, 112, 117, 98, 45, 103, 48, 49, 53, 50, 50, 47, 108, 97, 119, 115, 46, 70, 110, 67, 104, 111, 115, 101, 110], [108, 111, 111, 112, 46, 101, 120, 97, 109, 112, 108, 101, 47, 112, 117, 98, 45, 103, 48, 49, 53, 50, 50, 47, 108, 97, 119, 115, 46, 70, 110, 67, 104, 111, 115, 101, 110, 78, 97, 114, 114, 111, 119, 115], [108, 111, 111, 112, 46, 101, 120, 97, 109, 112, 108, 101, 47, 112, 117, 98, 45, 103, 48, 49, 53, 50, 50, 47, 108, 97, 119, 115, 46, 70, 110, 77, 101, 114, 103, 101, 100], [108, 111, 111, 112, 46, 101, 120, 97, 109, 112, 108, 101, 47, 112, 117, 98, 45, 103, 48, 49, 53, 50, 50, 47, 108, 97, 119, 115, 46, 70, 110, 77, 101, 114, 103, 101, 100, 65, 99, 99, 101, 112, 116, 115], [108, 111, 111, 112, 46, 101, 120, 97, 109, 112, 108, 101, 47, 112, 117, 98, 45, 103, 48, 49, 53, 50, 50, 47, 108, 97, 119, 115, 46, 70, 110, 82, 101, 115, 111, 108, 118, 101, 100], [108, 111, 111, 112, 46, 101, 120, 97, 109, 112, 108, 101, 47, 112, 117, 98, 45, 103, 48, 49, 53, 50, 50, 47, 108, 97, 119, 115, 46, 70, 110, 82, 101, 115, 111, 108, 118, 101, 100, 65, 99, 99, 101, 112, 116, 115], [108, 111, 111, 112, 46, 101, 120, 97, 109, 112, 108, 101, 47, 112, 117, 98, 45, 103, 48, 49, 53, 50, 50, 47, 108, 97, 119, 115, 46, 70, 110, 82, 101, 115, 111, 108, 118, 101, 100, 84, 119, 105, 99, 101]] : List (List Nat)).map fun l => l.map Char.ofNat
theorem hI : jP.initOrder = String.ofList jL := by kernel_rfl
theorem hW0 : wordsSigns jL = jW := by kernel_rfl
theorem hW : wordsSigns jP.initOrder.toList = jW := by rw [hI, String.toList_ofList, hW0]
theorem jh : behindMainWord (wordsSigns jP.initOrder.toList) = "cut".toList :: jW.drop 3 := by rw [hW]; kernel_rfl
theorem make_of {P : Program} {rest : List (List Char)} (h : behindMainWord (wordsSigns P.initOrder.toList) = "cut".toList :: rest) : P.make = some .cut := by unfold Program.make; rw [h]; rfl
theorem lifts_of {P : Program} {rest : List (List Char)} (h : behindMainWord (wordsSigns P.initOrder.toList) = "cut".toList :: rest) : P.liftsFinal = false := by unfold Program.liftsFinal Program.headLifts; rw [h]; rfl
theorem enter_of {P : Program} {rest : List (List Char)} (h : behindMainWord (wordsSigns P.initOrder.toList) = "cut".toList :: rest) (l1 : P.laysLater = false) (l2 : P.bearsReflect = false) (l3 : P.doorFits [] = true) : P.mayEnter = true := by
  have h1 : (stripLifts liftWords ("cut".toList :: rest)).1 = [] := rfl
  have h2 : (stripLifts liftWords ("cut".toList :: rest)).2 = "cut".toList :: rest := rfl
  unfold Program.mayEnter
  rw [h]
  simp only [h1, h2, l1, l2, l3, List.head?_cons]
  simp
theorem jl1 : jP.laysLater = false := by kernel_rfl
theorem jl2 : jP.bearsReflect = false := by kernel_rfl
theorem jl3 : jP.doorFits [] = true := by kernel_rfl
theorem j0 : (jC.wf (OpenSpec.ofChange jS)) = true := by kernel_rfl
theorem j1 : (laidOutB jP) = true := by kernel_rfl
theorem j2 : (mapsRowed jP) = true := by kernel_rfl
theorem j3 : (jF.params.all (jP.readableRec ·)) = true := by kernel_rfl
theorem j4 : (namedTie jP jC.named jS.vars) = true := by kernel_rfl
theorem j5 : ((jC.stops == [])) = true := by kernel_rfl
theorem j6 : ((jP.stops == [])) = true := by kernel_rfl
theorem j7 : ((jC.knobs == [])) = true := by kernel_rfl
theorem j8 : ((jP.stopKnobs == [])) = true := by kernel_rfl
theorem j9 : ((jC.inPlace == jP.inPlace 3)) = true := by kernel_rfl
theorem j10 : ((jC.unfollowed == jP.unfollowed 3)) = true := by kernel_rfl
theorem j11 : ((jC.recurses == jP.recurses 3)) = true := by kernel_rfl
theorem j12 : ((jC.named == jP.varsNamed 3)) = true := by kernel_rfl
theorem j13 : ((jC.maps == (jF.params.toList ++ jS.plain.varTypes jP).any (jP.mapsRec ·))) = true := by kernel_rfl
theorem j14 : ((jC.ifaces == (jF.params.toList ++ jS.plain.varTypes jP).any (jP.ifacesRec ·))) = true := by kernel_rfl
theorem j15 : ((jC.mapsOut == jP.mapsAmong jF.resultTypes.toList)) = true := by kernel_rfl
theorem j16 : ((jC.loops == (jF.params.toList ++ jS.plain.varTypes jP).any (jP.loopsFrom ·))) = true := by kernel_rfl
theorem j17 : ((jC.wideKeys == (jF.params.toList ++ jS.plain.varTypes jP ++ jF.resultTypes.toList).any (jP.wideKeysFrom ·))) = true := by kernel_rfl
theorem j18 : (jS.vars.all (jP.varReadable ·)) = true := by kernel_rfl
theorem j19 : (jF.resultTypes.all (fun t => jP.readableRec t && decide (t < jP.types.size))) = true := by kernel_rfl
theorem j20 : ((jC.ifacesOut == jF.resultTypes.toList.any (jP.ifacesRec ·))) = true := by kernel_rfl
theorem j21 : ((jC.loopsOut == jF.resultTypes.toList.any (jP.loopsFrom ·))) = true := by kernel_rfl
theorem j22 : ((jC.plainKeys == jP.plainKeys)) = true := by kernel_rfl
theorem j23 : (jC.shortTexts.isNone) = true := by kernel_rfl
theorem j24 : (jP.stopsHeard) = true := by kernel_rfl
theorem j25 : (jP.mayEnter) = true := enter_of jh jl1 jl2 jl3
theorem j26 : ((jC.lifted == jP.liftsFinal)) = true := by rw [lifts_of jh]; kernel_rfl
theorem j27 : ((jP.make == some jC.make)) = true := by rw [make_of jh]; kernel_rfl
theorem j28 : ((jC.kinds == (if jC.domain.isEmpty then [] else jF.params.toList.map fun t => match jP.underlying t with | some (.int k) => some k | _ => none))) = true := by kernel_rfl
theorem j29 : ((jC.pinned == jC.pinnedBy)) = true := by kernel_rfl
theorem j30 : ((jC.veiled == (jF.params.toList ++ jS.plain.varTypes jP ++ jF.resultTypes.toList).any (jP.veiledRec ·))) = true := by kernel_rfl
theorem j31 : (jC.veiledFits jP jF.params.toList (jF.params.toList ++ jS.plain.varTypes jP ++ jF.resultTypes.toList)) = true := by kernel_rfl
theorem jAll : joinedFacts jP 3 jF jS jC = true := by
  unfold joinedFacts
  simp only [Bool.and_eq_true]
  exact ⟨⟨⟨⟨⟨⟨⟨⟨⟨⟨⟨⟨⟨⟨⟨⟨⟨⟨⟨⟨⟨⟨⟨⟨⟨⟨⟨⟨⟨⟨⟨j0, j1⟩, j2⟩, j3⟩, j4⟩, j5⟩, j6⟩, j7⟩, j8⟩, j9⟩, j10⟩, j11⟩, j12⟩, j13⟩, j14⟩, j15⟩, j16⟩, j17⟩, j18⟩, j19⟩, j20⟩, j21⟩, j22⟩, j23⟩, j24⟩, j25⟩, j26⟩, j27⟩, j28⟩, j29⟩, j30⟩, j31⟩
end Go.Jw

namespace Go.Jw
open Go Go.RowKit Go.Proofs Go.ChangeShapes Go.WideShapes Go.ChangeAt Go.Proofs.YtlcfillobkdnmaaGreatDoor
set_option maxRecDepth 100000
def wArg : Value := .agg #[.int .i64 0, .int .i64 0, .string ⟨#[]⟩, .slice none 0 0, .slice none 0 0]
theorem reads (os : Os) {H : Type} (enc : TypeId × Value → H) : ∃ places, DataW.whole enc Tryz.prog ((laidWorld os).forCall (fun _ _ => 0) ⟨#[], #[wArg], []⟩).memory Tryz.f3.params.toList Rows.fnTextedSpec.vars false #[wArg].toList 8 = some ([.agg [.lit (.int .i64 0), .lit (.int .i64 0), .lit (.string []), .nil, .nil]], [], places) :=
  ⟨[], by kernel_rfl⟩
theorem lifted (os : Os) (started : os.Started) (H : Type) (enc : TypeId × Value → H) (F : Stop.Interp) :
    ReturnsInHanded {} Tryz.checked os 3 .any ((Rows.OpenSpec.upto Rows.fnTextedSpec).preRow enc Tryz.prog Tryz.f3 Rows.fnTextedUptoRow.domain false Rows.fnTextedUptoRow.laid) (((Rows.OpenSpec.upto Rows.fnTextedSpec).at F).post enc Tryz.prog Tryz.f3 false true false false) := by
  obtain ⟨places, hx⟩ := reads os enc
  refine returnsInHanded_of_row (C := Tryz.checked) (s := Rows.OpenSpec.upto Rows.fnTextedSpec) own started (by kernel_rfl) Tryz.func3
    (witness_row_atRef (enc := enc) (C := Tryz.checked) false (laidWorld os) #[wArg] rfl (vars_ref os _) (by kernel_rfl) (by kernel_rfl)
      (OpenSpec.preRow_of_cond 8 hx (by kernel_rfl) (fun k hk => by cases hk; kernel_rfl) (by kernel_rfl) (laid_met os _))) ?_
  intro W base args ds gs before hval hW _ hcond _ hL _ _
  exact contract H enc W base args ds gs before hval hW (hcond _ rfl) hL
theorem said : Rows.FnTextedUptoSaid :=
  OpenClaim.holds_of_cond 3 Tryz.f3 rfl rfl rfl rfl rfl rfl rfl ⟨rfl, rfl, rfl, rfl, rfl⟩ rfl rfl rfl rfl rfl (by kernel_rfl) Tryz.func3 jAll
    (of_decide_eq_true (by kernel_rfl)) (by unfold Func.isWrapper; first | (rw [if_pos (by decide +kernel)]; kernel_rfl) | (rw [if_neg (by decide +kernel)]; exact ⟨rfl, rfl⟩))
    (fun os started H enc _ F => by rw [OpenClaim.pre_eq_preRow]; exact lifted os started H enc F)
theorem plain (f : FuncId) (fn : Func) (hf : Tryz.pinned.checked.prog.funcNamed "loop.example/pub-g01522/laws.FnTexted" = some f) (hfn : Tryz.pinned.checked.prog.funcs[f]? = some fn) :
    true = Tryz.pinned.checked.prog.looks [] ∧ ∀ (j : Nat) t, fn.params[j]? = some t → Tryz.pinned.checked.prog.wantsStandIn t = false := by
  obtain rfl : f = 3 := Option.some.inj ((show Tryz.prog.funcNamed "loop.example/pub-g01522/laws.FnTexted" = some 3 by kernel_rfl).symm.trans hf) |>.symm
  obtain rfl : fn = Tryz.f3 := (Option.some.inj (Tryz.func3.symm.trans hfn)).symm
  refine ⟨by kernel_rfl, fun j t ht => ?_⟩
  rw [Tryz.params3] at ht
  obtain rfl : t = 25 := by simpa using Array.mem_of_getElem? ht
  exact (show Tryz.prog.wantsStandIn 25 = false by kernel_rfl)
end Go.Jw

namespace Go.Jw
open Go Go.RowKit Go.Proofs Go.ChangeShapes Go.WideShapes Go.ChangeAt Go.Proofs.YtlcfillobkdnmaaGreatDoor
set_option maxRecDepth 100000
theorem main_of {P : Program} {h s : List Char} {r : List (List Char)} (hw : wordsSigns P.initOrder.toList = h :: s :: r) (h1 : h = "harness".toList) (h2 : isSumSigns s = true) : P.mainIs = some (true, s) := by
  unfold Program.mainIs
  rw [hw, h1]
  simp only [h2]
  rfl
theorem jhd : wordsSigns jP.initOrder.toList = "harness".toList :: "346520bae4b43cbc78de553922e6c372dabaf0bd005df9aafc629d77d30e4085".toList :: jW.drop 2 := by rw [hW]; kernel_rfl
theorem jsum : isSumSigns "346520bae4b43cbc78de553922e6c372dabaf0bd005df9aafc629d77d30e4085".toList = true := by kernel_rfl
theorem jmain : jP.mainIs = some (true, "346520bae4b43cbc78de553922e6c372dabaf0bd005df9aafc629d77d30e4085".toList) := main_of jhd rfl jsum
theorem jgoes : false = jC.goesBy jP := by kernel_rfl
theorem jtext : jC.wfByText (Rows.OpenSpec.upto Rows.fnTextedSpec) = true := by kernel_rfl
end Go.Jw

namespace Go.Jw
open Go Go.RowKit Go.Proofs Go.ChangeShapes Go.WideShapes Go.ChangeAt Go.Proofs.YtlcfillobkdnmaaGreatDoor
set_option maxRecDepth 100000
theorem card : Rows.FnTextedUptoCardSaid :=
  Claim7.holds_tied_plain_at .later [] _ _ _ _ said (fun _ h => by cases h) jtext (fun _ h => by cases h) fnTextedUpto_row_tie rfl ⟨rfl, rfl⟩ jmain rfl plain jgoes
end Go.Jw
namespace Go.Proofs.YtlcfillobkdnmaaGreatDoor
/-- Whatever the document (of at most 1048576 values and letters): the law on JSON texts returns true, and the document reads ags it did. -/
theorem fnTexted_holds : Rows.FnTextedUptoCardSaid := Go.Jw.card
end Go.Proofs.YtlcfillobkdnmaaGreatDoor

