/- FnCopiedCardSaid, for every input: all that another schema specifies is copied into a schema: part 6, the proof's texts, made small by a program. -/
import Derived.Test.YtlcfillobkdnmaaGreatDoorTc5
import Derived.Test.YtlcfillobkdnmaaGreatDoorRows
import Derived.ProofKit
import Derived.Deep.Slices
import Derived.SliceStrings
import Derived.Lib.LaidTab
import Derived.LaidByTextLater
import Derived.SevenTiedAt
import Derived.LaidSub
import Derived.LaidOnce
import Derived.Test.YtlcfillobkdnmaaGreatDoorCards
import Derived.OpenShut
import Derived.Deep.DeepHandedRow
import Derived.Deep.DeepWitnessRowRef
import Derived.RowKit
import Derived.DataWitness
import Derived.LaidLaws
import Derived.ChangeMaps5
set_option linter.unusedVariables false
set_option linter.unusedSimpArgs false
set_option maxHeartbeats 4000000
namespace Go.Jw
open Go Go.RowKit Go.Proofs
set_option maxRecDepth 8000
open Go.Sort (SWO)
section rules
variable {P : Program} {n : Nat} {F : List Nat} {c : Ctx F} {ops : Array Oper} {d : Nat} {T : TypeId} {l : List Oper} {k : List KI} {Q : Post} {e : Env} {M : List HA} {D : List DA}
theorem ops_frBlk (i : Nat) {b : Nat} {cs : List Value} {U : TypeId} (hi : M[i]? = some (.blk b cs U)) (hF : F = []) (next : RunOps P n c ops l k Q e (M.eraseIdx i) (.dblk b cs U :: D)) : RunOps P n c ops l k Q e M D :=
  ops_freeze (h := .blk b cs U) [.dblk b cs U] (fun x _ h => by rw [hF] at h; cases h) (vV hi) (fun w ok h hok hD d hd => by
    rcases List.mem_singleton.1 hd with rfl
    exact ⟨hok _ (by simp [HA.foot]), h⟩) next
theorem op_idxRow (i : Nat) {x y : Operand} {A : Option Addr} {m cap j : Nat} {kd : IntKind} {S E sz by_ U : Nat} {xs : List Value} (hS : SliceOf P S E sz by_) (hd : Nat.blt d n = true) (hx : ev e x = some (.slice A m cap)) (hy : ev e y = some (.int kd (j : Nat))) (hi : M[i]? = some (.row A m cap U 1 xs)) (hj : j < m)
  (next : RunOps P n c ops l k Q ((d, .pointer (some (At A (j * sz)))) :: e) M D) : RunOp P n c ops (some d) (.indexAddr S x y) T l k Q e M D := by
 intro a w hf
 obtain ⟨_, _, h3⟩ := uW (hf.toFitsW.mem hi)
 have hl : xs.length = m := by have := (hf.toFitsW.mem hi : (HA.row A m cap U 1 xs).holds w).1; omega
 obtain ⟨a', ha, _⟩ := h3 j xs[j] (List.getElem?_eq_getElem (by omega))
 subst ha
 exact wR hS hd hx hy hj next a w hf
end rules
abbrev encE (x : Nat) : Value := encN (2 * x)
def vals (ys : List Y) : List ByteArray := ys.map Y.val
theorem rangeE_snoc (i : Nat) : (List.range i).map encE ++ [encE i] = (List.range (i + 1)).map encE := by rw [List.range_succ, List.map_append]; rfl
theorem rangeE (n : Nat) : (List.range n).map encE = ((List.range n).map (2 * ·)).map encN := by rw [List.map_map]; rfl
theorem c107len {ks : List ByteArray} {us : List V} (hl : ks.length = us.length) : (ks.zip (us.map outY)).length = us.length := by rw [List.length_zip, List.length_map]; omega
theorem c107key {ks : List ByteArray} {us : List V} (hl : ks.length = us.length) {i : Nat} (h : i < us.length) : ((ks.zip (us.map outY)).flatMap prY)[2 * i]? = some (scal tStr (ks.getD i ⟨#[]⟩)) := by
 rw [flat_get0 (by rw [c107len hl]; exact h), List.getElem_zip, uJ (by omega)]
theorem c107val {ks : List ByteArray} {us : List V} (hl : ks.length = us.length) {i : Nat} (h : i < us.length) : ((ks.zip (us.map outY)).flatMap prY)[2 * i + 1]? = some (outY (us[i])) := by
 rw [flat_get1 (by rw [c107len hl]; exact h), List.getElem_zip, List.getElem_map]
theorem halves {ks : List ByteArray} {us : List V} (hl : ks.length = us.length) {ds : List Nat} (hp : ds.Perm ((List.range us.length).map (2 * ·))) (hs : ds.Pairwise (fun x y => ltK (vals ((ks.zip (us.map outY)).flatMap prY)) y x = false)) :
  ∃ es : List Nat, es.Perm (List.range us.length) ∧ es.Pairwise (fun x y => ltK ks y x = false) ∧ ds.map encN = es.map encE := by
 have hev : ∀ x ∈ ds, ∃ y, y < us.length ∧ x = 2 * y := fun x hx => by
  obtain ⟨y, hy, rfl⟩ := List.mem_map.1 (hp.mem_iff.1 hx)
  exact ⟨y, List.mem_range.1 hy, rfl⟩
 have hkey : ∀ y, y < us.length → (vals ((ks.zip (us.map outY)).flatMap prY)).getD (2 * y) ⟨#[]⟩ = ks.getD y ⟨#[]⟩ := fun y hy => by
  unfold vals
  rw [List.getD_eq_getElem?_getD, List.getElem?_map, c107key hl hy]
  rfl
 refine ⟨ds.map (· / 2), ?_, ?_, ?_⟩
 ·have := hp.map (· / 2)
  rw [List.map_map] at this
  have e : ((fun x => x / 2) ∘ fun x => 2 * x) = (id : Nat → Nat) := by funext x; simp only [Function.comp, id]; omega
  rwa [e, List.map_id] at this
 ·rw [List.pairwise_map]
  refine hs.imp_of_mem fun {x y} hx hy h => ?_
  obtain ⟨a, ha, rfl⟩ := hev x hx
  obtain ⟨b, hb, rfl⟩ := hev y hy
  unfold ltK at h ⊢
  rw [hkey a ha, hkey b hb] at h
  rw [show 2 * a / 2 = a by omega, show 2 * b / 2 = b by omega]
  exact h
 ·rw [List.map_map]
  refine List.map_congr_left fun x hx => ?_
  obtain ⟨y, _, rfl⟩ := hev x hx
  show encN (2 * y) = encN (2 * (2 * y / 2))
  congr 1
  omega
set_option maxHeartbeats 2000000 in
theorem less167 (W : World) (keys : List ByteArray) (dk : List Nat) (b1 nb b9 b n c m : Nat) (ka : Addr) (kc : Nat) (hn1 : W.cell? ⟨b1, 0, none⟩ = some (ptr nb)) (hks : W.cell? ⟨nb, 6, none⟩ = some (.slice (some ka) m kc)) (hm : m = keys.length) (hps : W.cell? ⟨b9, 0, none⟩ = some (.slice (some ⟨b, 0, none⟩) n c)) (hn : dk.length = n)
  (hdk : ∀ j x, dk[j]? = some x → W.cell? ⟨b, j, none⟩ = some (encN x)) (hkk : ∀ j s, keys[j]? = some s → ∃ q, W.cell? (ka.add j) = some (ptr q) ∧ W.cell? ⟨q, 3, none⟩ = some (.string s)) (hlt : ∀ x ∈ dk, x < keys.length) (i j : Nat) (hi : i < dk.length) (hj : j < dk.length) :
  Calls Tryz.prog 167 #[.int .i64 i, .int .i64 j, ptr b1, ptr b9] W fun e w' => e = .returned (.bool (ltK keys dk[i] dk[j])) ∧ ∃ q, w' = W.drewN q := by
 have hxi := hlt _ (List.getElem_mem hi)
 have hxj := hlt _ (List.getElem_mem hj)
 have ci := hdk i _ (List.getElem?_eq_getElem hi)
 have cj := hdk j _ (List.getElem?_eq_getElem hj)
 obtain ⟨qi, ki, vi⟩ := hkk _ _ (List.getElem?_eq_getElem hxi)
 obtain ⟨qj, kj, vj⟩ := hkk _ _ (List.getElem?_eq_getElem hxj)
 have hin : i < n := by omega
 have hjn : j < n := by omega
 have him : dk[i] < m := by omega
 have hjm : dk[j] < m := by omega
 have hlk : ltK keys dk[i] dk[j] = Op.bytesLess keys[dk[i]].toList keys[dk[j]].toList := by
  unfold ltK
  rw [less_lt, uJ hxi, uJ hxj, rC, rC]
 go_enter Tryz.func167, Tryz.ntmps167
 go_wp2
 go_quiet (fail)
 go_wp2
 go_ret
 refine ⟨?_, nq, rfl⟩
 rw [hlk]
 rfl
theorem fun167 : Fun Tryz.prog 167 := ⟨_, Tryz.func167, by kernel_rfl, rfl⟩
theorem less_okE (ys : List Y) (A : Option Addr) (m ca nb b1 b9 pb n c9 : Nat) (t v : ByteArray) (k : Int) (hm : m = ys.length) : ∀ (W : World) (dk : List Nat), dk.length = n → (∀ x ∈ dk, x < ys.length) → (∀ x ∈ [HA.blk b9 [.slice (some ⟨pb, 0, none⟩) n c9] 139], x.holds W) → (∀ j x, dk[j]? = some x → W.cell? ⟨pb, j, none⟩ = some (encN x)) →
  (∃ ok, ∀ d ∈ [DA.dblk b1 [ptr nb] 102, .dblk nb (ycells k t v A m ca) 150, .kids (.slice A m ca) ys], d.p W ok) → ∀ (i j : Nat) (hi : i < dk.length) (hj : j < dk.length),
   Calls Tryz.prog 167 (#[.int .i64 i, .int .i64 j] ++ #[ptr b1, ptr b9]) W fun e w' => e = .returned (.bool (ltK (vals ys) dk[i] dk[j])) ∧ ∃ q, w' = W.drewN q := by
 intro W dk hn hlt hM hdk hD i j hi hj
 obtain ⟨ok, hD⟩ := hD
 have h1 : BlkP W ok b1 [ptr nb] 102 := hD _ List.mem_cons_self
 have h2 : BlkP W ok nb (ycells k t v A m ca) 150 := hD _ (List.mem_cons_of_mem _ List.mem_cons_self)
 obtain ⟨A', c', hv, _, _, hk⟩ : KidsV W ok (.slice A m ca) ys := hD _ (List.mem_cons_of_mem _ (List.mem_cons_of_mem _ List.mem_cons_self))
 injection hv with e1 e2 e3
 subst e1; subst e3
 have hkid : ∀ (x : Nat) (y : Y), ys[x]? = some y → ∃ a b, A = some a ∧ ok a.block ∧ W.cell? (a.add x) = some (ptr b) ∧ NodeP W ok y b := fun x y hx => by
  have := hk.get hx
  simpa using this
 obtain ⟨a, _, rfl, _⟩ := hkid _ _ (List.getElem?_eq_getElem (hlt _ (List.getElem_mem hi)))
 refine less167 W (vals ys) dk b1 nb b9 pb n c9 m a ca ?_ ?_ (by unfold vals; rw [List.length_map]; exact hm) ?_ hn hdk (fun j s hj => ?_) (fun x hx => by unfold vals; rw [List.length_map]; exact hlt x hx) i j hi hj
 ·rw [tA h1.2]; rfl
 ·rw [tA h2.2]; rfl
 ·have := hM _ List.mem_cons_self
  rw [tA this]; rfl
 ·unfold vals at hj
  rw [List.getElem?_map] at hj
  obtain ⟨y, hy, rfl⟩ := Option.map_eq_some_iff.1 hj
  obtain ⟨a', b', ha, _, hc, hnode⟩ := hkid _ _ hy
  cases ha
  refine ⟨b', hc, ?_⟩
  obtain ⟨q, tt, vv, zs⟩ := y
  obtain ⟨_, _, _, A2, c2, hb, _⟩ := hnode
  rw [tA hb]
  rfl
def C107 (fb : Addr) (u : V) : Prop := ∀ b, CtR Tryz.prog 107 #[ptr b] [.node b (outY u), ftD fb] (RVT (srtV u))

theorem c107s (fb : Addr) (b : Nat) (y : Y) (v : V) (hk : y.kind = 8) (H : CtR Tryz.prog 166 #[ptr b] [.node b y, ftD fb] (RVT v)) : CtR Tryz.prog 107 #[ptr b] [.node b y, ftD fb] (RVT v) := by
 refine Ct.of_run (args := [ptr b]) Tryz.func107 (by kernel_rfl) rfl Tryz.ntmps107 rfl (fun c => ?_)
 refine run_node 0 rfl (fun A0 cap0 ht0 hv0 hl0 hc0 => ?_)
 refine zD (zB ?_)
 refine zA (xL rfl rfl rfl (fun b1 => ?_))
 refine ops_frBlk 0 rfl rfl (zA ?_)
 refine yM ze25 rfl (fun b2 => ?_)
 change RunOps _ _ _ _ _ _ _ _ (HA.blk _ [_, _, _, _, _] _ :: _) _
 refine zA (zE rfl rfl ?_)
 refine zC (zD ?_)
 refine zD (zB ?_)
 refine zA (zM 0 sc102 rfl rfl rfl rfl ?_)
 refine zA (rB pn102 rfl rfl ?_)
 refine zC (yE rfl (rfl) ?_)
 refine zJ (zD ?_)
 refine zD (zB ?_)
 refine zA (zM 0 sc102 rfl rfl rfl rfl ?_)
 refine zA (zP rfl rfl ?_)
 refine zA (zH wN rfl rfl ?_)
 refine zA (zM 1 sc146 rfl rfl rfl rfl ?_)
 refine zC (zN ?_)
 refine zD (zB ?_)
 refine zA (zX rfl rfl rfl ?_)
 refine zA (zE rfl rfl ?_)
 refine zC (yG rfl (decide_eq_true (by exact_mod_cast hk)) ?_)
 refine zD (zB ?_)
 refine zA (zM 0 sc102 rfl rfl rfl rfl ?_)
 refine zA (zW rfl rfl rfl H (sub2 3 4 rfl rfl) (fun u27 D27 hv27 => ?_))
 obtain ⟨_, rfl, A27, c27, B27, d27, rfl, rfl⟩ := hv27
 refine sT (zA ?_)
 refine zR 0 (M' := [HA.blk _ [_, _, _, _, _] _]) rfl rfl rfl rfl si25 rfl rfl rfl (zA ?_)
 refine zE rfl rfl (zC ?_)
 refine kE [(3, _), (2, _)] rfl ?_
 refine rI (M' := [HA.blk b2 [_, _, _, _, _] 25]) (by repeat (first | exact wP _ | refine yB 0 rfl ?_ | refine yB 1 rfl ?_ | refine yB 2 rfl ?_ | refine yB 3 rfl ?_ | refine yB 4 rfl ?_)) ?_
 exact uV 0 Tryz.results107 rfl rfl rfl ag25 ⟨rfl, _, rfl, _, _, _, _, rfl, rfl⟩ nS (sub1 0 rfl)
theorem c107l (fb : Addr) (b : Nat) (us : List V) (h60 : us.length ≤ 60) (H : ∀ x ∈ us, C107 fb x) : CtR Tryz.prog 107 #[ptr b] [.node b (RKids 2 (us.map outY)), ftD fb] (RVT (.mk 4 0 ⟨#[]⟩ [] (us.map srtV))) := by
 refine Ct.of_run (args := [ptr b]) Tryz.func107 (by kernel_rfl) rfl Tryz.ntmps107 rfl (fun c => ?_)
 refine wD 0 rfl (fun A0 cap0 ht0 hv0 hl0 hc0 => ?_)
 rw [List.length_map]
 rw [List.length_map] at hl0
 unfold maxLen at hc0
 refine zD (zB ?_)
 refine zA (xL rfl rfl rfl (fun b1 => ?_))
 refine ops_frBlk 0 rfl rfl (zA ?_)
 refine yM ze25 rfl (fun b2 => ?_)
 change RunOps _ _ _ _ _ _ _ _ (HA.blk _ [_, _, _, _, _] _ :: _) _
 refine zA (zE rfl rfl ?_)
 refine zC (zD ?_)
 refine zD (zB ?_)
 refine zA (zM 0 sc102 rfl rfl rfl rfl ?_)
 refine zA (rB pn102 rfl rfl ?_)
 refine zC (yE rfl (rfl) ?_)
 refine zJ (zD ?_)
 refine zD (zB ?_)
 refine zA (zM 0 sc102 rfl rfl rfl rfl ?_)
 refine zA (zP rfl rfl ?_)
 refine zA (zH wN rfl rfl ?_)
 refine zA (zM 1 sc146 rfl rfl rfl rfl ?_)
 refine zC (zN ?_)
 refine zD (zB ?_)
 refine zA (zX rfl rfl rfl ?_)
 refine zA (zE rfl rfl ?_)
 refine zC (yE rfl (rfl) ?_)
 refine zD (zB ?_)
 refine zA (zX rfl rfl rfl ?_)
 refine zA (zE rfl rfl ?_)
 refine zC (kE [(30, _), (23, _), (2, _), (1, _)] rfl ?_)
 refine yG rfl (rfl) (zD ?_)
 refine zB (zA ?_)
 refine xR rfl rfl (bu25_0 ..) (zA ?_)
 refine yM ze25 rfl (fun b4 => ?_)
 change RunOps _ _ _ _ _ _ _ _ (HA.blk _ [_, _, _, _, _] _ :: _) _
 refine zA (zR 0 (M' := [HA.blk _ [_, _, _, _, _] _, _]) rfl rfl rfl rfl si25 rfl rfl rfl ?_)
 refine zC (zD ?_)
 refine zD (zB ?_)
 refine zA (zM 0 sc102 rfl rfl rfl rfl ?_)
 refine zA (zP rfl rfl ?_)
 refine zA (zH wO rfl rfl ?_)
 refine zA (zM 1 sc148 rfl rfl rfl rfl ?_)
 refine zA (yU sl148 rfl rfl ?_)
 refine zA (zF rfl rfl ?_)
 refine zC (zN ?_)
 refine kE [(38, _), (37, _), (36, _), (4, _), (2, _)] rfl (vE 25 5 ?_)
 refine qD ?_
 refine xU 1 (fun (⟨i, A, ca, xs⟩ : Nat × Option Addr × Nat × List Value) => i ≤ us.length) (fun (⟨i, A, ca, xs⟩ : Nat × Option Addr × Nat × List Value) => [(38, .int .i64 ((i : Nat) : Int))]) (fun (⟨i, A, ca, xs⟩ : Nat × Option Addr × Nat × List Value) => HA.row A i ca 25 5 xs :: HA.blk b4 [.int .i64 4, .int .i64 0, .string ⟨#[]⟩, .slice none 0 0, .slice A i ca] 25 :: HA.blk b2 [.int .i64 0, .int .i64 0, .string ⟨#[]⟩, .slice none 0 0, .slice none 0 0] 25 :: []) (fun (⟨i, A, ca, xs⟩ : Nat × Option Addr × Nat × List Value) => .its xs ((us.take i).map srtV) :: .dblk b1 [ptr b] 102 :: .dblk b (ycells 2 ⟨#[]⟩ ⟨#[]⟩ A0 us.length cap0) 150 :: .kids (.slice A0 us.length cap0) (us.map outY) :: .node b (RKids 2 (us.map outY)) :: ftD fb :: []) (fun (⟨i, A, ca, xs⟩ : Nat × Option Addr × Nat × List Value) => us.length - i) (0, none, 0, []) (by show 0 ≤ _; omega) (eC rfl (eN _)) rfl rfl ?_ (eC rfl (eC rfl (eC rfl (eC rfl (eN _)))))
 intro ⟨i, A, ca, xs⟩ hI K hK
 replace hI : i ≤ us.length := hI
 change Run _ _ _ _ _ [(38, .int .i64 ((i : Nat) : Int)), (37, _), (36, _), (4, _), (2, _)] (HA.row A i ca 25 5 xs :: HA.blk b4 [.int .i64 4, .int .i64 0, .string ⟨#[]⟩, .slice none 0 0, .slice A i ca] 25 :: HA.blk b2 [.int .i64 0, .int .i64 0, .string ⟨#[]⟩, .slice none 0 0, .slice none 0 0] 25 :: []) (.its xs ((us.take i).map srtV) :: .dblk b1 [ptr b] 102 :: .dblk b (ycells 2 ⟨#[]⟩ ⟨#[]⟩ A0 us.length cap0) 150 :: .kids (.slice A0 us.length cap0) (us.map outY) :: .node b (RKids 2 (us.map outY)) :: ftD fb :: [])
 have hi : i ≤ us.length := hI
 refine zD (zB ?_)
 refine zA (xT rfl rfl rfl ?_)
 refine zC (zD ?_)
 refine zS rfl (fun h39 => ?_) (fun h39 => ?_)
 ·refine zJ (zD ?_)
  refine zN (zD ?_)
  refine zB (zA ?_)
  refine wS 3 sl148 rfl rfl rfl rfl h39 (uC 3 i rfl (qR h39) (fun bk => ?_))
  refine zA (xO sc102 rfl rfl (fun _ h => uD h (j := 0) rfl) ?_)
  refine zA (zE rfl rfl ?_)
  refine zC (zD ?_)
  refine zB (zA ?_)
  refine zF rfl rfl (zA ?_)
  refine zW rfl rfl rfl (H _ (List.getElem_mem h39) bk) (sub2 1 7 rfl rfl) (fun u44 D44 hv44 => ?_)
  obtain ⟨_, rfl, A44, c44, B44, d44, rfl, rfl⟩ := hv44
  refine sT (zA ?_)
  refine yM ze25 rfl (fun b7 => ?_)
  change RunOps _ _ _ _ _ _ _ _ (HA.blk _ [_, _, _, _, _] _ :: _) _
  refine zA (zR 0 (M' := [HA.blk _ [_, _, _, _, _] _, _, _, _]) rfl rfl rfl rfl si25 rfl rfl rfl ?_)
  refine zA (zE rfl rfl ?_)
  refine zC (kE [(8, _), (7, _), (38, _), (37, _), (36, _), (4, _), (2, _)] rfl ?_)
  refine zD (zD ?_)
  refine zB (sT ?_)
  refine zC (yE rfl (rfl) ?_)
  refine zJ (zB ?_)
  refine zA (zH xV rfl rfl ?_)
  refine zA (zT 2 sc23 rfl rfl rfl rfl ?_)
  refine zA (yQ 0 rfl ag25 rfl rfl ?_)
  refine zA (zZ sl23 rfl rfl rfl rfl rfl (fun b53 => ?_))
  refine zA ?_
  refine yL 2 0 sl23 rfl rfl rfl rfl rfl rfl rfl (by unfold maxLen; omega) (by omega) (fun A54 c54 => ?_)
  refine zA (zH xV rfl rfl ?_)
  refine zA (zR 3 (M' := [_, _, _, HA.blk _ [_, _, _, _, _] _, _]) rfl rfl rfl rfl si23 rfl rfl rfl ?_)
  refine zC (kE [(38, _), (37, _), (36, _), (4, _), (2, _)] rfl ?_)
  refine zQ (zB ?_)
  refine zA (xH rfl rfl (by omega) ?_)
  refine zA (zF rfl rfl ?_)
  refine zC (vL 3 0 rfl rfl rfl ?_)
  rw [tD (f := srtV) h39]
  exact kQ (hK (i + 1, _, _, _) (by show i + 1 ≤ _; omega) (by show us.length - (i + 1) < us.length - i; omega)) (eC rfl (eC rfl (eC rfl (eC rfl (eC rfl (eN _)))))) (hD := (subc 0 rfl sQ))
 obtain rfl : i = us.length := by omega
 rw [List.take_length]
 refine yK rfl (zD ?_)
 refine zB (zA ?_)
 refine yQ 1 rfl ag25 rfl rfl (zA ?_)
 refine zR 2 (M' := [_, _, HA.blk _ [_, _, _, _, _] _]) rfl rfl rfl rfl si25 rfl rfl rfl (zA ?_)
 refine zE rfl rfl (zC ?_)
 refine sD (tL 0 1 (us.map srtV) rfl rfl (by simp [foots, HA.foot]) (by rw [List.length_map]) ?_)
 refine vK 1 0 rfl rfl (s := ⟨#[]⟩) (q := 4) (m := 0) (by decide) ?_
 refine rI (M' := [HA.blk b2 [_, _, _, _, _] 25]) (by repeat (first | exact wP _ | refine yB 0 rfl ?_ | refine yB 1 rfl ?_ | refine yB 2 rfl ?_ | refine yB 3 rfl ?_ | refine yB 4 rfl ?_)) ?_
 exact uV 0 Tryz.results107 rfl rfl rfl ag25 ⟨rfl, _, rfl, none, 0, _, _, by simp only [V.kind, V.num, V.text, V.keys, V.items, List.length_map, List.length_nil]; rfl, rfl⟩ nS (sub1 0 rfl)
theorem sK {M M2 : List HA} (h : Pick M2 M := by repeat (first | exact pick_refl _ | exact wP _ | refine yB 0 rfl ?_ | refine yB 1 rfl ?_ | refine yB 2 rfl ?_ | refine yB 3 rfl ?_ | refine yB 4 rfl ?_ | refine yB 5 rfl ?_ | refine yB 6 rfl ?_ | refine yB 7 rfl ?_ | refine yB 8 rfl ?_)) : Pick M2 M := h
set_option maxHeartbeats 4000000 in
theorem c107m (fb : Addr) (b : Nat) (ks : List ByteArray) (us : List V) (hl : ks.length = us.length) (h60 : us.length ≤ 60) (hnd : ks.Nodup) (hszs : ∀ s ∈ ks, s.size ≤ maxLen) (H : ∀ x ∈ us, C107 fb x) (ys : List Y) (hys : ys = (ks.zip (us.map outY)).flatMap prY) : CtR Tryz.prog 107 #[ptr b] [.node b (RKids 4 ys), ftD fb] (RVT (srtV (.mk 5 0 ⟨#[]⟩ ks us))) := by
 refine Ct.of_run (args := [ptr b]) Tryz.func107 (by kernel_rfl) rfl Tryz.ntmps107 rfl (fun c => ?_)
 have hfl : ys.length = 2 * us.length := by rw [hys, flat_len, c107len hl]
 have hk0 : ∀ x, x < us.length → ys[2 * x]? = some (scal tStr (ks.getD x ⟨#[]⟩)) := fun x hx => by rw [hys]; exact c107key hl hx
 have hk1 : ∀ x (h : x < us.length), ys[2 * x + 1]? = some (outY us[x]) := fun x hx => by rw [hys]; exact c107val hl hx
 have h2t : ((2 * us.length : Nat) : Int).tmod 2 = 0 := by rw [show ((2 * us.length : Nat) : Int) = 2 * (us.length : Int) by omega]; exact Int.mul_tmod_right _ _
 refine wD 0 rfl (fun A0 cap0 ht0 hv0 hl0 hc0 => ?_)
 rw [hfl]
 rw [hfl] at hl0
 unfold maxLen at hc0
 refine zD (zB ?_)
 refine zA (xL rfl rfl rfl (fun b1 => ?_))
 refine ops_frBlk 0 rfl rfl (zA ?_)
 refine yM ze25 rfl (fun b2 => ?_)
 change RunOps _ _ _ _ _ _ _ _ (HA.blk _ [_, _, _, _, _] _ :: _) _
 refine zA (zE rfl rfl ?_)
 refine zC (zD ?_)
 refine zD (zB ?_)
 refine zA (zM 0 sc102 rfl rfl rfl rfl ?_)
 refine zA (rB pn102 rfl rfl ?_)
 refine zC (yE rfl (rfl) ?_)
 refine zJ (zD ?_)
 refine zD (zB ?_)
 refine zA (zM 0 sc102 rfl rfl rfl rfl ?_)
 refine zA (zP rfl rfl ?_)
 refine zA (zH wN rfl rfl ?_)
 refine zA (zM 1 sc146 rfl rfl rfl rfl ?_)
 refine zC (zN ?_)
 refine zD (zB ?_)
 refine zA (zX rfl rfl rfl ?_)
 refine zA (zE rfl rfl ?_)
 refine zC (yE rfl (rfl) ?_)
 refine zD (zB ?_)
 refine zA (zX rfl rfl rfl ?_)
 refine zA (zE rfl rfl ?_)
 refine zC (kE [(30, _), (23, _), (2, _), (1, _)] rfl ?_)
 refine yE rfl (rfl) (zD ?_)
 refine zB (zA ?_)
 refine zX rfl rfl rfl (zA ?_)
 refine zE rfl rfl (zC ?_)
 refine yG rfl (rfl) (zD ?_)
 refine zD (zB ?_)
 refine zA (zM 0 sc102 rfl rfl rfl rfl ?_)
 refine zA (zP rfl rfl ?_)
 refine zA (zH wO rfl rfl ?_)
 refine zA (zM 1 sc148 rfl rfl rfl rfl ?_)
 refine zA (yU sl148 rfl rfl ?_)
 refine zA (op_rem rfl rfl rfl (by decide) ?_)
 rw [h2t]
 refine zA (tJ rfl rfl rfl ?_)
 refine zC (kE [(66, _), (2, _), (1, _)] rfl ?_)
 refine yE rfl (rfl) (zJ ?_)
 refine zD (zB ?_)
 refine zA (rL sl139 rfl (fun b68 => ?_))
 refine zA (yM ze139 rfl (fun b9 => ?_))
 change RunOps _ _ _ _ _ _ _ _ (HA.blk _ [_] _ :: _) _
 refine zA (zR 0 (M' := [HA.blk _ [_] _, _, _]) rfl rfl rfl rfl si139 rfl rfl rfl ?_)
 refine zC (zD ?_)
 refine zD (zB ?_)
 refine zA (zE rfl rfl ?_)
 refine zC (zN ?_)
 refine kE [(10, _), (9, _), (2, _), (1, _)] rfl ?_
 refine xU 1 (fun (⟨i, pb, c9⟩ : Nat × Nat × Nat) => i ≤ us.length) (fun (⟨i, pb, c9⟩ : Nat × Nat × Nat) => [(10, .int .i64 ((2 * i : Nat) : Int))]) (fun (⟨i, pb, c9⟩ : Nat × Nat × Nat) => HA.blk b9 [.slice (some ⟨pb, 0, none⟩) i c9] 139 :: HA.row (some ⟨pb, 0, none⟩) i c9 3 1 ((List.range i).map encE) :: HA.blk b2 [.int .i64 0, .int .i64 0, .string ⟨#[]⟩, .slice none 0 0, .slice none 0 0] 25 :: []) (fun (⟨i, pb, c9⟩ : Nat × Nat × Nat) => .dblk b1 [ptr b] 102 :: .dblk b (ycells 4 ⟨#[]⟩ ⟨#[]⟩ A0 (2 * us.length) cap0) 150 :: .kids (.slice A0 (2 * us.length) cap0) ys :: .node b (RKids 4 ys) :: ftD fb :: []) (fun (⟨i, pb, c9⟩ : Nat × Nat × Nat) => us.length - i) (0, _, _) (by show 0 ≤ _; omega) (eC rfl (eN _)) rfl rfl ?_ (eC rfl (eC rfl (eC rfl (eN _))))
 intro ⟨i, pb, c9⟩ hI K hK
 replace hI : i ≤ us.length := hI
 change Run _ _ _ _ _ [(10, .int .i64 ((2 * i : Nat) : Int)), (9, _), (2, _), (1, _)] (HA.blk b9 [.slice (some ⟨pb, 0, none⟩) i c9] 139 :: HA.row (some ⟨pb, 0, none⟩) i c9 3 1 ((List.range i).map encE) :: HA.blk b2 [.int .i64 0, .int .i64 0, .string ⟨#[]⟩, .slice none 0 0, .slice none 0 0] 25 :: []) (.dblk b1 [ptr b] 102 :: .dblk b (ycells 4 ⟨#[]⟩ ⟨#[]⟩ A0 (2 * us.length) cap0) 150 :: .kids (.slice A0 (2 * us.length) cap0) ys :: .node b (RKids 4 ys) :: ftD fb :: [])
 have hi : i ≤ us.length := hI
 refine zD (zD ?_)
 refine zB (zA ?_)
 refine zF rfl rfl (zA ?_)
 refine zM 0 sc102 rfl rfl rfl rfl (zA ?_)
 refine zP rfl rfl (zA ?_)
 refine zH wO rfl rfl (zA ?_)
 refine zM 1 sc148 rfl rfl rfl rfl (zA ?_)
 refine yU sl148 rfl rfl (zA ?_)
 refine xT rfl rfl rfl (zC ?_)
 refine zS rfl (fun h75 => ?_) (fun h75 => ?_)
 ·refine zJ (zD ?_)
  refine zN (zB ?_)
  refine zA (zT 0 sc139 rfl rfl rfl rfl ?_)
  refine zA (zF rfl rfl ?_)
  refine zA (zZ sl139 rfl rfl rfl rfl rfl (fun b80 => ?_))
  refine zA ?_
  refine yL 2 0 sl139 rfl rfl rfl rfl rfl rfl rfl (by unfold maxLen; omega) (by omega) (fun A81 c81 => ?_)
  refine zA (zR 1 (M' := [_, HA.blk _ [_] _, _, _]) rfl rfl rfl rfl si139 rfl rfl rfl ?_)
  refine zC (kE [(10, _), (9, _), (2, _), (1, _)] rfl ?_)
  refine zQ (zB ?_)
  refine zA (zF rfl rfl ?_)
  refine zA (yP (s := ((2 * (i + 1) : Nat) : Int)) rfl rfl rfl (by omega) (by omega) (by omega) ?_)
  refine zA (zE rfl rfl ?_)
  refine zC ?_
  refine run_rowA 2 rfl (by omega) (fun pb1 hpb => ?_)
  subst hpb
  rw [rangeE_snoc]
  exact kQ (hK (i + 1, pb1, _) (by show i + 1 ≤ _; omega) (by show us.length - (i + 1) < us.length - i; omega)) (eC rfl (eC rfl (eC rfl (eC rfl (eN _)))))
 obtain rfl : i = us.length := by omega
 rw [rangeE]
 refine yK rfl (zD ?_)
 refine zB (zA ?_)
 refine zT 0 sc139 rfl rfl rfl rfl (zA ?_)
 refine op_makeIface (by kernel_rfl) rfl rfl (zA ?_)
 refine pD rfl rfl rfl (zA ?_)
 refine xM 1 0 rfl rfl rfl (c130 167 #[ptr b1, ptr b9] pb us.length c9 ys.length ((List.range us.length).map (2 * ·)) (fun x hx => by obtain ⟨z, hz, rfl⟩ := List.mem_map.1 hx; have := List.mem_range.1 hz; omega) (ltK (vals ys)) (ltK_swo _) [HA.blk b9 [.slice (some ⟨pb, 0, none⟩) us.length c9] 139] [.dblk b1 [ptr b] 102, .dblk b (ycells 4 ⟨#[]⟩ ⟨#[]⟩ A0 (2 * us.length) cap0) 150, .kids (.slice A0 (2 * us.length) cap0) ys] (by omega) (fun args w => run_callFunc fun167 args w) (fun W dk h1 h2 => less_okE ys A0 (2 * us.length) cap0 b b1 b9 pb us.length c9 _ _ _ hfl.symm W dk h1 h2)) rfl rfl (subc 0 rfl (sub2 1 2 rfl rfl)) (fun u85 M85 D85 hv85 => ?_)
 obtain ⟨rfl, ⟨ds, hdp, hds, rfl⟩, rfl⟩ := hv85
 rw [hys] at hds
 obtain ⟨es, hep, hes, hee⟩ := halves hl hdp hds
 rw [hee]
 have hel : es.length = us.length := by rw [hep.length_eq, List.length_range]
 have hep2 : es.Perm (List.range ks.length) := by rw [hl]; exact hep
 refine zC (kE [(9, _), (2, _), (1, _)] rfl ?_)
 refine zD (zB ?_)
 refine zA (xR rfl rfl (bu25_0 ..) ?_)
 refine zA (yM ze25 rfl (fun b11 => ?_))
 change RunOps _ _ _ _ _ _ _ _ (HA.blk _ [_, _, _, _, _] _ :: _) _
 refine zA (zR 0 (M' := [HA.blk _ [_, _, _, _, _] _, _, _, _]) rfl rfl rfl rfl si25 rfl rfl rfl ?_)
 refine zC (zD ?_)
 refine zD (zB ?_)
 refine zA (zT 2 sc139 rfl rfl rfl rfl ?_)
 refine zA (yU sl139 rfl rfl ?_)
 refine zA (zF rfl rfl ?_)
 refine zC (zN ?_)
 refine kE [(89, _), (88, _), (87, _), (11, _), (2, _), (1, _)] rfl (vE 25 5 ?_)
 refine vE 9 1 (qD ?_)
 refine xU 1 (fun (⟨i3, KA, kc, KI, ic, xv⟩ : Nat × Option Addr × Nat × Option Addr × Nat × List Value) => i3 ≤ us.length) (fun (⟨i3, KA, kc, KI, ic, xv⟩ : Nat × Option Addr × Nat × Option Addr × Nat × List Value) => [(89, .int .i64 ((i3 : Nat) : Int))]) (fun (⟨i3, KA, kc, KI, ic, xv⟩ : Nat × Option Addr × Nat × Option Addr × Nat × List Value) => HA.row KA i3 kc 9 1 ((es.take i3).map (fun x => Value.string (ks.getD x ⟨#[]⟩))) :: HA.row KI i3 ic 25 5 xv :: HA.blk b11 [.int .i64 5, .int .i64 0, .string ⟨#[]⟩, .slice KA i3 kc, .slice KI i3 ic] 25 :: HA.row (some ⟨pb, 0, none⟩) us.length c9 3 1 (es.map encE) :: HA.blk b9 [.slice (some ⟨pb, 0, none⟩) us.length c9] 139 :: HA.blk b2 [.int .i64 0, .int .i64 0, .string ⟨#[]⟩, .slice none 0 0, .slice none 0 0] 25 :: []) (fun (⟨i3, KA, kc, KI, ic, xv⟩ : Nat × Option Addr × Nat × Option Addr × Nat × List Value) => .its xv ((es.take i3).map (fun x => (us.map srtV).getD x zV0)) :: .dblk b1 [ptr b] 102 :: .dblk b (ycells 4 ⟨#[]⟩ ⟨#[]⟩ A0 (2 * us.length) cap0) 150 :: .kids (.slice A0 (2 * us.length) cap0) ys :: .node b (RKids 4 ys) :: ftD fb :: []) (fun (⟨i3, KA, kc, KI, ic, xv⟩ : Nat × Option Addr × Nat × Option Addr × Nat × List Value) => us.length - i3) (0, none, 0, none, 0, []) (by show 0 ≤ _; omega) (eC rfl (eN _)) rfl rfl ?_ (eC rfl (eC rfl (eC rfl (eC rfl (eC rfl (eN _))))))
 intro ⟨i3, KA, kc, KI, ic, xv⟩ hI K hK1
 replace hI : i3 ≤ us.length := hI
 change Run _ _ _ _ _ [(89, .int .i64 ((i3 : Nat) : Int)), (88, _), (87, _), (11, _), (2, _), (1, _)] (HA.row KA i3 kc 9 1 ((es.take i3).map (fun x => Value.string (ks.getD x ⟨#[]⟩))) :: HA.row KI i3 ic 25 5 xv :: HA.blk b11 [.int .i64 5, .int .i64 0, .string ⟨#[]⟩, .slice KA i3 kc, .slice KI i3 ic] 25 :: HA.row (some ⟨pb, 0, none⟩) us.length c9 3 1 (es.map encE) :: HA.blk b9 [.slice (some ⟨pb, 0, none⟩) us.length c9] 139 :: HA.blk b2 [.int .i64 0, .int .i64 0, .string ⟨#[]⟩, .slice none 0 0, .slice none 0 0] 25 :: []) (.its xv ((es.take i3).map (fun x => (us.map srtV).getD x zV0)) :: .dblk b1 [ptr b] 102 :: .dblk b (ycells 4 ⟨#[]⟩ ⟨#[]⟩ A0 (2 * us.length) cap0) 150 :: .kids (.slice A0 (2 * us.length) cap0) ys :: .node b (RKids 4 ys) :: ftD fb :: [])
 have hi3 : i3 ≤ us.length := hI
 refine zD (zB ?_)
 refine zA (xT rfl rfl rfl ?_)
 refine zC (zD ?_)
 refine zS rfl (fun h90 => ?_) (fun h90 => ?_)
 ·have hld : i3 < es.length := by omega
  have hde : es[i3] < us.length := places_lt hep _ (List.getElem_mem hld)
  have hdk : es[i3] < ks.length := by omega
  have hdv : es[i3] < (us.map srtV).length := by rw [List.length_map]; exact hde
  refine zJ (zD ?_)
  refine zN (zD ?_)
  refine zB (zA ?_)
  refine zF rfl rfl (zA ?_)
  refine wR sl139 rfl rfl rfl h90 (zA ?_)
  refine xO sc3 rfl rfl (fun _ h => row_at h (i := 3) rfl (by rw [List.getElem?_map, List.getElem?_eq_getElem hld]; rfl)) ?_
  refine sT (zC ?_)
  refine zD (zB ?_)
  refine zA (zM 1 sc102 rfl rfl rfl rfl ?_)
  refine zA (zP rfl rfl ?_)
  refine zA (zH wO rfl rfl ?_)
  refine zA (zM 2 sc148 rfl rfl rfl rfl ?_)
  refine zA (zF rfl rfl ?_)
  refine zA (wS (i := 2 * es[i3]) 3 sl148 rfl rfl rfl rfl (by omega) ?_)
  refine uC 3 (2 * es[i3]) rfl (hk0 _ hde) (fun bk => ?_)
  refine tT 1 rfl (fun A1 cap1 ht1 hv1 hl1 hc1 => ?_)
  refine zA (xO sc102 rfl rfl (fun _ h => uD h (j := 2) rfl) ?_)
  refine zA (zP rfl rfl ?_)
  refine zA (zH wU rfl rfl ?_)
  refine zA (zM 0 sc9 rfl rfl rfl rfl ?_)
  refine zA (zE rfl rfl ?_)
  refine zC (kE [(14, _), (13, _), (12, _), (89, _), (88, _), (87, _), (11, _), (2, _), (1, _)] rfl ?_)
  refine zD (zB ?_)
  refine zA (zM 5 sc102 rfl rfl rfl rfl ?_)
  refine zA (zP rfl rfl ?_)
  refine zA (zH wO rfl rfl ?_)
  refine zA (zM 6 sc148 rfl rfl rfl rfl ?_)
  refine zA (zF rfl rfl ?_)
  refine zA (xH rfl rfl (by omega) ?_)
  refine zA (wS (i := 2 * es[i3] + 1) 7 sl148 rfl rfl rfl rfl (by omega) ?_)
  refine uC 7 (2 * es[i3] + 1) rfl (hk1 _ hde) (fun bv => ?_)
  refine zA (xO sc102 rfl rfl (fun _ h => uD h (j := 0) rfl) ?_)
  refine zA (zW rfl rfl rfl (H _ (List.getElem_mem hde) bv) (sub2 1 11 rfl rfl) (fun u113 D113 hv113 => ?_))
  obtain ⟨_, rfl, A113, c113, B113, d113, rfl, rfl⟩ := hv113
  refine sT (zA ?_)
  refine yM ze25 rfl (fun b15 => ?_)
  change RunOps _ _ _ _ _ _ _ _ (HA.blk _ [_, _, _, _, _] _ :: _) _
  refine zA (zR 0 (M' := [HA.blk _ [_, _, _, _, _] _, _, _, _, _, _, _]) rfl rfl rfl rfl si25 rfl rfl rfl ?_)
  refine zA (zE rfl rfl ?_)
  refine zC (kE [(16, _), (15, _), (14, _), (12, _), (89, _), (88, _), (87, _), (11, _), (2, _), (1, _)] rfl ?_)
  refine zD (zD ?_)
  refine zB (sT ?_)
  refine vB (s := 118) rfl (rfl) (zK rfl rfl ?_)
  refine zF rfl rfl (zK rfl rfl ?_)
  refine vN rfl rfl rfl (zK rfl rfl ?_)
  refine zF rfl rfl (yX (s := 121) rfl (fun h121 => ?_) (fun h121 => ?_))
  ·refine zK rfl rfl (zH wL rfl rfl ?_)
   refine zK rfl rfl (zT 3 sc22 rfl rfl rfl rfl ?_)
   refine zK rfl rfl (zF rfl rfl ?_)
   refine zK rfl rfl (wE (s := ((i3 - 1 : Nat) : Int)) rfl rfl rfl (by omega) (by omega) (by omega) ?_)
   refine zK rfl rfl (op_idxRow 1 sl22 rfl rfl rfl rfl (by omega) ?_)
   refine zK rfl rfl (xO (v := .string (ks.getD (es[i3 - 1]'(by omega)) ⟨#[]⟩)) sc9 rfl rfl (fun _ h => row_atA h (i := 1) rfl (take_get (by omega) (by omega))) ?_)
   refine zK rfl rfl (zF rfl rfl ?_)
   refine zK rfl rfl (zU rfl rfl rfl ?_)
   refine zK rfl rfl (zO rfl rfl rfl ?_)
   refine zA (zO rfl rfl rfl ?_)
   refine zC (kE [(131, _), (15, _), (14, _), (89, _), (88, _), (87, _), (11, _), (2, _), (1, _)] rfl ?_)
   refine yE rfl (decide_eq_false (fun he => places_ne hnd hep2 (i := i3 - 1) (j := i3) (by omega) (by omega) he)) (zJ ?_)
   refine xX xE (yJ ?_)
   refine tP 0 rfl wanted0 (yN wL rfl) (tP 2 rfl wanted0 (yO rfl) ?_)
   refine tP 5 rfl wanted0 (yN xV rfl) (any_grpG (yB 0 rfl (yB 2 rfl (wP _))) ?_)
   refine sB (yB 0 rfl (yB 2 rfl (wP _))) 1 (wK _ _ _ _) rfl wanted0 (by decide +kernel) (by decide +kernel) (by decide +kernel) rfl (xW 1 sc22 rfl rfl rfl) (sB (yB 0 rfl (yB 2 rfl (wP _))) 6 (wK _ _ _ _) rfl wanted0 (by decide +kernel) (by decide +kernel) (by decide +kernel) rfl (xW 1 sc23 rfl rfl rfl) ?_)
   refine sB (yB 0 rfl (yB 2 rfl (wP _))) 7 (wK _ _ _ _) rfl wanted0 (by decide +kernel) (by decide +kernel) (by decide +kernel) rfl (uE 0 rfl ag25 rfl) (sH (rs := [3, 8]) (by decide +kernel) (by simp) ?_)
   intro j hj
   simp only [List.mem_cons, List.not_mem_nil, or_false] at hj
   rcases hj with rfl | rfl
   ·refine yC (I2 := [[7, 6, 1], [5, 0], []]) rfl wanted0 (by decide +kernel) (fun Kd hKd => ?_)
    refine zZ sl22 rfl rfl rfl rfl rfl (fun b136 => ?_)
    refine hKd _ _ _ (uN sK sQ (hC (zL (yD)))) ?_
    refine sH (rs := [4, 8]) (by decide +kernel) (by simp) ?_
    intro j hj
    simp only [List.mem_cons, List.not_mem_nil, or_false] at hj
    rcases hj with rfl | rfl
    ·refine yC (I2 := [[7, 6], [5], []]) rfl wanted0 (by decide +kernel) (fun Kd hKd => ?_)
     refine yL 2 0 sl22 rfl rfl rfl rfl rfl rfl rfl (by unfold maxLen; omega) (by omega) (fun A137 c137 => ?_)
     refine hKd _ _ _ (uN sK sQ (hC (zL (yD)))) ?_
     refine yJ (tP 10 rfl wanted0 (yN wL rfl) ?_)
     refine yA 8 (by decide +kernel) ?_
     refine yC (I2 := [[10], [6], [5], []]) rfl wanted0 (by decide +kernel) (fun Kd hKd => ?_)
     refine zZ sl23 rfl rfl rfl rfl rfl (fun b141 => ?_)
     refine hKd _ _ _ (hC (uN sK sQ (hC (zL (yD))))) ?_
     refine yA 9 (by decide +kernel) ?_
     refine yC (I2 := [[10], [], [], []]) rfl wanted0 (by decide +kernel) (fun Kd hKd => ?_)
     refine yL 4 0 sl23 rfl rfl rfl rfl rfl rfl rfl (by unfold maxLen; omega) (by omega) (fun A142 c142 => ?_)
     refine hKd _ _ _ (hC (zL (zL (zL (yD))))) (yA 11 (by decide +kernel) ?_)
     refine yC (I2 := [[], [], [], []]) rfl wanted0 (by decide +kernel) (fun Kd hKd => ?_)
     refine zR 5 (M' := [_, _, _, _, _, HA.blk _ [_, _, _, _, _] _, _, _, _]) rfl rfl rfl rfl si22 rfl rfl rfl (hKd _ _ _ (zL (zL (zL (zL (yD))))) ?_)
     refine tP 12 rfl wanted0 (yN xV rfl) (yA 13 (by decide +kernel) ?_)
     refine yC (I2 := [[], [], [], []]) rfl wanted0 (by decide +kernel) (fun Kd hKd => ?_)
     refine zR 5 (M' := [_, _, _, _, _, HA.blk _ [_, _, _, _, _] _, _, _, _]) rfl rfl rfl rfl si23 rfl rfl rfl (hKd _ _ _ (zL (zL (zL (zL (yD))))) ?_)
     refine xF (by decide +kernel) (kE [(89, _), (88, _), (87, _), (11, _), (2, _), (1, _)] rfl ?_)
     refine zQ (zB ?_)
     refine zA (xH rfl rfl (by omega) ?_)
     refine zA (zF rfl rfl ?_)
     refine zC (vL 7 0 rfl rfl rfl ?_)
     rw [vQ (f := fun x => (us.map srtV).getD x zV0) hld (by rw [uJ hdv, List.getElem_map]), vQ (f := fun x => Value.string (ks.getD x ⟨#[]⟩)) hld rfl]
     exact kQ (hK1 (i3 + 1, _, _, _, _, _) (by show i3 + 1 ≤ _; omega) (by show us.length - (i3 + 1) < us.length - i3; omega)) (eC rfl (eC rfl (eC rfl (eC rfl (eC rfl (eC rfl (eN _))))))) (hD := (subc 0 rfl sQ))
    refine yC (I2 := [[6, 1], [5, 0], []]) rfl wanted0 (by decide +kernel) (fun Kd hKd => ?_)
    refine zZ sl23 rfl rfl rfl rfl rfl (fun b141 => ?_)
    refine hKd _ _ _ (uN sK sQ (hC (zL (yD)))) ?_
    refine yA 4 (by decide +kernel) ?_
    refine yC (I2 := [[6], [5], []]) rfl wanted0 (by decide +kernel) (fun Kd hKd => ?_)
    refine yL 3 1 sl22 rfl rfl rfl rfl rfl rfl rfl (by unfold maxLen; omega) (by omega) (fun A137 c137 => ?_)
    refine hKd _ _ _ (uN sK sQ (hC (zL (yD)))) ?_
    refine yJ (tP 10 rfl wanted0 (yN wL rfl) ?_)
    refine yA 9 (by decide +kernel) ?_
    refine yC (I2 := [[10], [], [], []]) rfl wanted0 (by decide +kernel) (fun Kd hKd => ?_)
    refine yL 4 0 sl23 rfl rfl rfl rfl rfl rfl rfl (by unfold maxLen; omega) (by omega) (fun A142 c142 => ?_)
    refine hKd _ _ _ (hC (zL (zL (zL (yD))))) (yA 11 (by decide +kernel) ?_)
    refine yC (I2 := [[], [], [], []]) rfl wanted0 (by decide +kernel) (fun Kd hKd => ?_)
    refine zR 5 (M' := [_, _, _, _, _, HA.blk _ [_, _, _, _, _] _, _, _, _]) rfl rfl rfl rfl si22 rfl rfl rfl (hKd _ _ _ (zL (zL (zL (zL (yD))))) ?_)
    refine tP 12 rfl wanted0 (yN xV rfl) (yA 13 (by decide +kernel) ?_)
    refine yC (I2 := [[], [], [], []]) rfl wanted0 (by decide +kernel) (fun Kd hKd => ?_)
    refine zR 5 (M' := [_, _, _, _, _, HA.blk _ [_, _, _, _, _] _, _, _, _]) rfl rfl rfl rfl si23 rfl rfl rfl (hKd _ _ _ (zL (zL (zL (zL (yD))))) ?_)
    refine xF (by decide +kernel) (kE [(89, _), (88, _), (87, _), (11, _), (2, _), (1, _)] rfl ?_)
    refine zQ (zB ?_)
    refine zA (xH rfl rfl (by omega) ?_)
    refine zA (zF rfl rfl ?_)
    refine zC (vL 7 0 rfl rfl rfl ?_)
    rw [vQ (f := fun x => (us.map srtV).getD x zV0) hld (by rw [uJ hdv, List.getElem_map]), vQ (f := fun x => Value.string (ks.getD x ⟨#[]⟩)) hld rfl]
    exact kQ (hK1 (i3 + 1, _, _, _, _, _) (by show i3 + 1 ≤ _; omega) (by show us.length - (i3 + 1) < us.length - i3; omega)) (eC rfl (eC rfl (eC rfl (eC rfl (eC rfl (eC rfl (eN _))))))) (hD := (subc 0 rfl sQ))
   refine yC (I2 := [[6, 1], [5, 2, 0], []]) rfl wanted0 (by decide +kernel) (fun Kd hKd => ?_)
   refine zZ sl23 rfl rfl rfl rfl rfl (fun b141 => ?_)
   refine hKd _ _ _ (uN sK sQ (hC (zL (yD)))) ?_
   refine yA 3 (by decide +kernel) ?_
   refine yC (I2 := [[6, 1], [5, 0], []]) rfl wanted0 (by decide +kernel) (fun Kd hKd => ?_)
   refine zZ sl22 rfl rfl rfl rfl rfl (fun b136 => ?_)
   refine hKd _ _ _ (uN sK sQ (hC (zL (yD)))) ?_
   refine yA 4 (by decide +kernel) ?_
   refine yC (I2 := [[6], [5], []]) rfl wanted0 (by decide +kernel) (fun Kd hKd => ?_)
   refine yL 3 0 sl22 rfl rfl rfl rfl rfl rfl rfl (by unfold maxLen; omega) (by omega) (fun A137 c137 => ?_)
   refine hKd _ _ _ (uN sK sQ (hC (zL (yD)))) ?_
   refine yJ (tP 10 rfl wanted0 (yN wL rfl) ?_)
   refine yA 9 (by decide +kernel) ?_
   refine yC (I2 := [[10], [], [], []]) rfl wanted0 (by decide +kernel) (fun Kd hKd => ?_)
   refine yL 4 1 sl23 rfl rfl rfl rfl rfl rfl rfl (by unfold maxLen; omega) (by omega) (fun A142 c142 => ?_)
   refine hKd _ _ _ (hC (zL (zL (zL (yD))))) (yA 11 (by decide +kernel) ?_)
   refine yC (I2 := [[], [], [], []]) rfl wanted0 (by decide +kernel) (fun Kd hKd => ?_)
   refine zR 5 (M' := [_, _, _, _, _, HA.blk _ [_, _, _, _, _] _, _, _, _]) rfl rfl rfl rfl si22 rfl rfl rfl (hKd _ _ _ (zL (zL (zL (zL (yD))))) ?_)
   refine tP 12 rfl wanted0 (yN xV rfl) (yA 13 (by decide +kernel) ?_)
   refine yC (I2 := [[], [], [], []]) rfl wanted0 (by decide +kernel) (fun Kd hKd => ?_)
   refine zR 5 (M' := [_, _, _, _, _, HA.blk _ [_, _, _, _, _] _, _, _, _]) rfl rfl rfl rfl si23 rfl rfl rfl (hKd _ _ _ (zL (zL (zL (zL (yD))))) ?_)
   refine xF (by decide +kernel) (kE [(89, _), (88, _), (87, _), (11, _), (2, _), (1, _)] rfl ?_)
   refine zQ (zB ?_)
   refine zA (xH rfl rfl (by omega) ?_)
   refine zA (zF rfl rfl ?_)
   refine zC (vL 7 0 rfl rfl rfl ?_)
   rw [vQ (f := fun x => (us.map srtV).getD x zV0) hld (by rw [uJ hdv, List.getElem_map]), vQ (f := fun x => Value.string (ks.getD x ⟨#[]⟩)) hld rfl]
   exact kQ (hK1 (i3 + 1, _, _, _, _, _) (by show i3 + 1 ≤ _; omega) (by show us.length - (i3 + 1) < us.length - i3; omega)) (eC rfl (eC rfl (eC rfl (eC rfl (eC rfl (eC rfl (eN _))))))) (hD := (subc 0 rfl sQ))
  refine zG rfl rfl rfl rfl (zG rfl rfl rfl rfl ?_)
  refine zG rfl rfl rfl rfl (zG rfl rfl rfl rfl ?_)
  refine zG rfl rfl rfl rfl (zG rfl rfl rfl rfl ?_)
  refine zG rfl rfl rfl rfl (zG rfl rfl rfl rfl ?_)
  refine zK rfl rfl (zO rfl rfl rfl ?_)
  refine zA (zO rfl rfl rfl ?_)
  refine zC (kE [(131, _), (15, _), (14, _), (89, _), (88, _), (87, _), (11, _), (2, _), (1, _)] rfl ?_)
  refine wY rfl (zJ ?_)
  refine xX xE (yJ ?_)
  refine tP 0 rfl wanted0 (yN wL rfl) (tP 2 rfl wanted0 (yO rfl) ?_)
  refine tP 5 rfl wanted0 (yN xV rfl) (any_grpG (yB 0 rfl (yB 2 rfl (wP _))) ?_)
  refine sB (yB 0 rfl (yB 2 rfl (wP _))) 1 (wK _ _ _ _) rfl wanted0 (by decide +kernel) (by decide +kernel) (by decide +kernel) rfl (xW 1 sc22 rfl rfl rfl) (sB (yB 0 rfl (yB 2 rfl (wP _))) 6 (wK _ _ _ _) rfl wanted0 (by decide +kernel) (by decide +kernel) (by decide +kernel) rfl (xW 1 sc23 rfl rfl rfl) ?_)
  refine sB (yB 0 rfl (yB 2 rfl (wP _))) 7 (wK _ _ _ _) rfl wanted0 (by decide +kernel) (by decide +kernel) (by decide +kernel) rfl (uE 0 rfl ag25 rfl) (sH (rs := [3, 8]) (by decide +kernel) (by simp) ?_)
  intro j hj
  simp only [List.mem_cons, List.not_mem_nil, or_false] at hj
  rcases hj with rfl | rfl
  ·refine yC (I2 := [[7, 6, 1], [5, 0], []]) rfl wanted0 (by decide +kernel) (fun Kd hKd => ?_)
   refine zZ sl22 rfl rfl rfl rfl rfl (fun b136 => ?_)
   refine hKd _ _ _ (uN sK sQ (hC (zL (yD)))) ?_
   refine sH (rs := [4, 8]) (by decide +kernel) (by simp) ?_
   intro j hj
   simp only [List.mem_cons, List.not_mem_nil, or_false] at hj
   rcases hj with rfl | rfl
   ·refine yC (I2 := [[7, 6], [5], []]) rfl wanted0 (by decide +kernel) (fun Kd hKd => ?_)
    refine yL 2 0 sl22 rfl rfl rfl rfl rfl rfl rfl (by unfold maxLen; omega) (by omega) (fun A137 c137 => ?_)
    refine hKd _ _ _ (uN sK sQ (hC (zL (yD)))) ?_
    refine yJ (tP 10 rfl wanted0 (yN wL rfl) ?_)
    refine yA 8 (by decide +kernel) ?_
    refine yC (I2 := [[10], [6], [5], []]) rfl wanted0 (by decide +kernel) (fun Kd hKd => ?_)
    refine zZ sl23 rfl rfl rfl rfl rfl (fun b141 => ?_)
    refine hKd _ _ _ (hC (uN sK sQ (hC (zL (yD))))) ?_
    refine yA 9 (by decide +kernel) ?_
    refine yC (I2 := [[10], [], [], []]) rfl wanted0 (by decide +kernel) (fun Kd hKd => ?_)
    refine yL 4 0 sl23 rfl rfl rfl rfl rfl rfl rfl (by unfold maxLen; omega) (by omega) (fun A142 c142 => ?_)
    refine hKd _ _ _ (hC (zL (zL (zL (yD))))) (yA 11 (by decide +kernel) ?_)
    refine yC (I2 := [[], [], [], []]) rfl wanted0 (by decide +kernel) (fun Kd hKd => ?_)
    refine zR 5 (M' := [_, _, _, _, _, HA.blk _ [_, _, _, _, _] _, _, _, _]) rfl rfl rfl rfl si22 rfl rfl rfl (hKd _ _ _ (zL (zL (zL (zL (yD))))) ?_)
    refine tP 12 rfl wanted0 (yN xV rfl) (yA 13 (by decide +kernel) ?_)
    refine yC (I2 := [[], [], [], []]) rfl wanted0 (by decide +kernel) (fun Kd hKd => ?_)
    refine zR 5 (M' := [_, _, _, _, _, HA.blk _ [_, _, _, _, _] _, _, _, _]) rfl rfl rfl rfl si23 rfl rfl rfl (hKd _ _ _ (zL (zL (zL (zL (yD))))) ?_)
    refine xF (by decide +kernel) (kE [(89, _), (88, _), (87, _), (11, _), (2, _), (1, _)] rfl ?_)
    refine zQ (zB ?_)
    refine zA (xH rfl rfl (by omega) ?_)
    refine zA (zF rfl rfl ?_)
    refine zC (vL 7 0 rfl rfl rfl ?_)
    rw [vQ (f := fun x => (us.map srtV).getD x zV0) hld (by rw [uJ hdv, List.getElem_map]), vQ (f := fun x => Value.string (ks.getD x ⟨#[]⟩)) hld rfl]
    exact kQ (hK1 (i3 + 1, _, _, _, _, _) (by show i3 + 1 ≤ _; omega) (by show us.length - (i3 + 1) < us.length - i3; omega)) (eC rfl (eC rfl (eC rfl (eC rfl (eC rfl (eC rfl (eN _))))))) (hD := (subc 0 rfl sQ))
   refine yC (I2 := [[6, 1], [5, 0], []]) rfl wanted0 (by decide +kernel) (fun Kd hKd => ?_)
   refine zZ sl23 rfl rfl rfl rfl rfl (fun b141 => ?_)
   refine hKd _ _ _ (uN sK sQ (hC (zL (yD)))) ?_
   refine yA 4 (by decide +kernel) ?_
   refine yC (I2 := [[6], [5], []]) rfl wanted0 (by decide +kernel) (fun Kd hKd => ?_)
   refine yL 3 1 sl22 rfl rfl rfl rfl rfl rfl rfl (by unfold maxLen; omega) (by omega) (fun A137 c137 => ?_)
   refine hKd _ _ _ (uN sK sQ (hC (zL (yD)))) ?_
   refine yJ (tP 10 rfl wanted0 (yN wL rfl) ?_)
   refine yA 9 (by decide +kernel) ?_
   refine yC (I2 := [[10], [], [], []]) rfl wanted0 (by decide +kernel) (fun Kd hKd => ?_)
   refine yL 4 0 sl23 rfl rfl rfl rfl rfl rfl rfl (by unfold maxLen; omega) (by omega) (fun A142 c142 => ?_)
   refine hKd _ _ _ (hC (zL (zL (zL (yD))))) (yA 11 (by decide +kernel) ?_)
   refine yC (I2 := [[], [], [], []]) rfl wanted0 (by decide +kernel) (fun Kd hKd => ?_)
   refine zR 5 (M' := [_, _, _, _, _, HA.blk _ [_, _, _, _, _] _, _, _, _]) rfl rfl rfl rfl si22 rfl rfl rfl (hKd _ _ _ (zL (zL (zL (zL (yD))))) ?_)
   refine tP 12 rfl wanted0 (yN xV rfl) (yA 13 (by decide +kernel) ?_)
   refine yC (I2 := [[], [], [], []]) rfl wanted0 (by decide +kernel) (fun Kd hKd => ?_)
   refine zR 5 (M' := [_, _, _, _, _, HA.blk _ [_, _, _, _, _] _, _, _, _]) rfl rfl rfl rfl si23 rfl rfl rfl (hKd _ _ _ (zL (zL (zL (zL (yD))))) ?_)
   refine xF (by decide +kernel) (kE [(89, _), (88, _), (87, _), (11, _), (2, _), (1, _)] rfl ?_)
   refine zQ (zB ?_)
   refine zA (xH rfl rfl (by omega) ?_)
   refine zA (zF rfl rfl ?_)
   refine zC (vL 7 0 rfl rfl rfl ?_)
   rw [vQ (f := fun x => (us.map srtV).getD x zV0) hld (by rw [uJ hdv, List.getElem_map]), vQ (f := fun x => Value.string (ks.getD x ⟨#[]⟩)) hld rfl]
   exact kQ (hK1 (i3 + 1, _, _, _, _, _) (by show i3 + 1 ≤ _; omega) (by show us.length - (i3 + 1) < us.length - i3; omega)) (eC rfl (eC rfl (eC rfl (eC rfl (eC rfl (eC rfl (eN _))))))) (hD := (subc 0 rfl sQ))
  refine yC (I2 := [[6, 1], [5, 2, 0], []]) rfl wanted0 (by decide +kernel) (fun Kd hKd => ?_)
  refine zZ sl23 rfl rfl rfl rfl rfl (fun b141 => ?_)
  refine hKd _ _ _ (uN sK sQ (hC (zL (yD)))) ?_
  refine yA 3 (by decide +kernel) ?_
  refine yC (I2 := [[6, 1], [5, 0], []]) rfl wanted0 (by decide +kernel) (fun Kd hKd => ?_)
  refine zZ sl22 rfl rfl rfl rfl rfl (fun b136 => ?_)
  refine hKd _ _ _ (uN sK sQ (hC (zL (yD)))) ?_
  refine yA 4 (by decide +kernel) ?_
  refine yC (I2 := [[6], [5], []]) rfl wanted0 (by decide +kernel) (fun Kd hKd => ?_)
  refine yL 3 0 sl22 rfl rfl rfl rfl rfl rfl rfl (by unfold maxLen; omega) (by omega) (fun A137 c137 => ?_)
  refine hKd _ _ _ (uN sK sQ (hC (zL (yD)))) ?_
  refine yJ (tP 10 rfl wanted0 (yN wL rfl) ?_)
  refine yA 9 (by decide +kernel) ?_
  refine yC (I2 := [[10], [], [], []]) rfl wanted0 (by decide +kernel) (fun Kd hKd => ?_)
  refine yL 4 1 sl23 rfl rfl rfl rfl rfl rfl rfl (by unfold maxLen; omega) (by omega) (fun A142 c142 => ?_)
  refine hKd _ _ _ (hC (zL (zL (zL (yD))))) (yA 11 (by decide +kernel) ?_)
  refine yC (I2 := [[], [], [], []]) rfl wanted0 (by decide +kernel) (fun Kd hKd => ?_)
  refine zR 5 (M' := [_, _, _, _, _, HA.blk _ [_, _, _, _, _] _, _, _, _]) rfl rfl rfl rfl si22 rfl rfl rfl (hKd _ _ _ (zL (zL (zL (zL (yD))))) ?_)
  refine tP 12 rfl wanted0 (yN xV rfl) (yA 13 (by decide +kernel) ?_)
  refine yC (I2 := [[], [], [], []]) rfl wanted0 (by decide +kernel) (fun Kd hKd => ?_)
  refine zR 5 (M' := [_, _, _, _, _, HA.blk _ [_, _, _, _, _] _, _, _, _]) rfl rfl rfl rfl si23 rfl rfl rfl (hKd _ _ _ (zL (zL (zL (zL (yD))))) ?_)
  refine xF (by decide +kernel) (kE [(89, _), (88, _), (87, _), (11, _), (2, _), (1, _)] rfl ?_)
  refine zQ (zB ?_)
  refine zA (xH rfl rfl (by omega) ?_)
  refine zA (zF rfl rfl ?_)
  refine zC (vL 7 0 rfl rfl rfl ?_)
  rw [vQ (f := fun x => (us.map srtV).getD x zV0) hld (by rw [uJ hdv, List.getElem_map]), vQ (f := fun x => Value.string (ks.getD x ⟨#[]⟩)) hld rfl]
  exact kQ (hK1 (i3 + 1, _, _, _, _, _) (by show i3 + 1 ≤ _; omega) (by show us.length - (i3 + 1) < us.length - i3; omega)) (eC rfl (eC rfl (eC rfl (eC rfl (eC rfl (eC rfl (eN _))))))) (hD := (subc 0 rfl sQ))
 obtain rfl : i3 = us.length := by omega
 have het : es.take us.length = es := by rw [← hel]; exact List.take_length
 rw [het]
 refine vM 0 (es.map fun x => ks.getD x ⟨#[]⟩) rfl (by simp [foots, HA.foot]) (by rw [List.map_map]; rfl) (by intro s hs; obtain ⟨x, hx, rfl⟩ := List.mem_map.1 hs; rw [uJ (places_lt hep2 _ hx)]; exact hszs _ (List.getElem_mem _)) (tL 0 1 (es.map fun x => (us.map srtV).getD x zV0) rfl rfl (by simp [foots, HA.foot]) (by rw [List.length_map, hel]) ?_)
 refine vK 1 0 rfl rfl (s := ⟨#[]⟩) (q := 5) (m := 0) (by decide) (yK rfl ?_)
 refine zD (zB ?_)
 refine zA (yQ 0 rfl ag25 rfl rfl ?_)
 refine zA (zR 3 (M' := [_, _, _, HA.blk _ [_, _, _, _, _] _]) rfl rfl rfl rfl si25 rfl rfl rfl ?_)
 refine zA (zE rfl rfl ?_)
 refine zC ?_
 have hsv : srtV (.mk 5 0 ⟨#[]⟩ ks us) = .mk 5 0 ⟨#[]⟩ (es.map fun x => ks.getD x ⟨#[]⟩) (es.map fun x => (us.map srtV).getD x zV0) := by
  rw [srtV_map (places_srt zV0 ks (us.map srtV) es (by rw [List.length_map]; exact hl) hnd hep2 hes), List.map_map, List.map_map]
  rfl
 rw [hsv]
 refine rI (M' := [HA.blk b2 [_, _, _, _, _] 25]) (by repeat (first | exact wP _ | refine yB 0 rfl ?_ | refine yB 1 rfl ?_ | refine yB 2 rfl ?_ | refine yB 3 rfl ?_ | refine yB 4 rfl ?_)) ?_
 exact uV 0 Tryz.results107 rfl rfl rfl ag25 ⟨rfl, _, rfl, KA, kc, KI, ic, by simp only [V.kind, V.num, V.text, V.keys, V.items, List.length_map, hel], rfl⟩ nS (sub1 0 rfl)
theorem c107 (fb : Addr) (u : V) : Pl (srtV u) → Eql u → C107 fb u := by
  refine V.indS (p := fun u => Pl (srtV u) → Eql u → C107 fb u) (fun u IH hp he => ?_) u
  have hk := ju_kind hp
  have hD : ∀ {b : Nat} {y : Y} {v : V}, CtR Tryz.prog 166 #[ptr b] [.node b y] (RVT v) → CtR Tryz.prog 166 #[ptr b] [.node b y, ftD fb] (RVT v) := fun h => Ct.data h (fun d hd => by rw [List.mem_singleton.1 hd]; exact List.mem_cons_self)
  intro b
  by_cases h4 : u.kind = 4
  · obtain ⟨hu, h60, hit⟩ := ju_l hp he h4
    have h1 := c107l fb b u.items h60 (fun x hx => IH x (xA hx) (hit x hx).1 (hit x hx).2)
    rw [← outY_l, ← srtV_no (q := 4) (n := 0) (s := ⟨#[]⟩) (ks := []) (by decide), ← hu] at h1
    exact h1
  by_cases h5 : u.kind = 5
  · obtain ⟨hu, hl, h60, hnd, hkw, hit⟩ := ju_m hp he h5
    have h1 := c107m fb b u.keys u.items hl h60 hnd (fun k hk => by have := (hkw k hk).1.2; unfold maxLen; omega) (fun x hx => IH x (xA hx) (hit x hx).1 (hit x hx).2) _ rfl
    rw [← outY_m, ← hu] at h1
    exact h1
  obtain ⟨hpu, hu⟩ := ju_scal hp h4 h5
  rw [hu]
  have hk8 : (outY u).kind = 8 := by rw [outY_kind hk.1 hk.2, if_neg h4, if_neg h5]
  refine c107s fb b _ u hk8 ?_
  have hnum := hpu.num
  rcases (by omega : u.kind = 0 ∨ u.kind = 1 ∨ u.kind = 2 ∨ u.kind = 3 ∨ u.kind = 6) with h | h | h | h | h
  · have hs := qV hpu (by omega) (by omega)
    obtain ⟨q, m, s, ks, ts⟩ := u
    simp only [V.kind] at h
    subst h
    simp only [V.kind, V.num, V.text, V.keys, V.items] at hs
    have e : V.mk 0 m s ks ts = .mk 0 0 ⟨#[]⟩ [] [] := by
      unfold IsScal at hs
      simp at hs
      simp [hs]
    rw [e, sU]
    exact hD (c166n b)
  · obtain ⟨hl, hn⟩ := leaf_bool hpu h
    rw [hl, outY_bool]
    rcases hn with hn | hn
    · rw [hn]; exact hD (c166f b)
    · rw [hn]; exact hD (c166t b)
  · have hl := leaf_int hpu h
    obtain ⟨a1, a2⟩ := hnum.num (by omega)
    rw [hl, outY_int]
    exact hD (c166i b _ a1 a2)
  · have hl := qM hpu h
    rw [hl, qN]
    exact hD (c166s b _)
  · have hl := leaf_q hpu h
    obtain ⟨a1, a2⟩ := hnum.num (by omega)
    have h0 := hpu.frac h
    rw [hl, outY_q]
    exact c166q fb b _ h0 a1 a2
end Go.Jw

namespace Go.Jw
open Go Go.RowKit Go.Proofs
set_option maxRecDepth 8000
section rules
variable {P : Program} {n : Nat} {F : List Nat} {c : Ctx F} {ops : Array Oper} {d : Nat} {T : TypeId} {l : List Oper} {k : List KI} {Q : Post} {e : Env} {M : List HA} {D : List DA}
end rules
def RTV (t : V) (u : Value) (D' : List DA) : Prop := ∃ A1 c1 A2 c2, u = .agg #[.int .i64 0, .int .i64 t.kind, .int .i64 t.num, .string t.text, .slice A1 t.keys.length c1, .slice A2 t.items.length c2] ∧ D' = [.val (.agg #[.int .i64 t.kind, .int .i64 t.num, .string t.text, .slice A1 t.keys.length c1, .slice A2 t.items.length c2]) t]
theorem c107A (fb : Addr) {u : V} (hp : Pl (srtV u)) (he : Eql u) (b : Nat) : CtR Tryz.prog 107 #[ptr b] [.node b (outY u), ftA fb] (RVT (srtV u)) := Ct.wide (c107 fb u hp he b) (fun w ok h d hd => by
 have h4 := h (ftA fb) (by simp)
 simp only [List.mem_cons, List.not_mem_nil, or_false] at hd
 rcases hd with rfl | rfl
 ·exact h _ List.mem_cons_self
 ·exact h4.2)

theorem c108 (ft : DA) (mb : Nat) (G : Gr) (v : V) (b : Nat) (hU : Unf G v b) (hC : C105 ft mb G v) : CtR Tryz.prog 108 #[ptr b] [.gr mb G, .tab, ft] (fun u D' => ∃ y, OutR v y ∧ RN y u D') := by
 refine Ct.of_run (args := [ptr b]) Tryz.func108 (by kernel_rfl) rfl Tryz.ntmps108 rfl (fun c => ?_)
 refine zD (zB ?_)
 refine zA (zE rfl rfl ?_)
 refine zC (zD ?_)
 refine zB (zA ?_)
 refine zF rfl rfl (zA ?_)
 refine zW rfl rfl rfl (hC b hU) (subc 0 rfl (sub2 1 2 rfl rfl)) (fun u4 D4 hv4 => ?_)
 obtain ⟨y4, hy4, b4, rfl, rfl⟩ := hv4
 refine zA (zE rfl rfl ?_)
 exact zC (zI Tryz.results108 rfl ⟨rfl, y4, hy4, b4, rfl, rfl⟩ nS (sub1 0 rfl))
theorem c60 (fb : Addr) (mb : Nat) (G : Gr) (v : V) (b : Nat) (hU : Unf G v b) (hp : Pl v) (hs : IsShape v) : CtR Tryz.prog 60 #[ptr b] [.gr mb G, .tab, ftA fb] (RTV (wr v)) := by
 refine Ct.of_run (args := [ptr b]) Tryz.func60 (by kernel_rfl) rfl Tryz.ntmps60 rfl (fun c => ?_)
 refine zD (zB ?_)
 refine zA (yM ze34 rfl (fun b2 => ?_))
 change RunOps _ _ _ _ _ _ _ _ (HA.blk _ [_, _, _, _, _, _] _ :: _) _
 refine zC (zD ?_)
 refine zD (zB ?_)
 refine zA (zF rfl rfl ?_)
 refine zA (rB pn63 rfl rfl ?_)
 refine zC (yE rfl (rfl) ?_)
 refine zJ (zD ?_)
 refine zB (zA ?_)
 refine zF rfl rfl (zA ?_)
 refine zW rfl rfl rfl (c108 (ftA fb) mb G v b hU (c105 (ftA fb) mb G v (.inl (numW fb)) hp hs)) (subc 0 rfl (sub2 1 2 rfl rfl)) (fun u10 D10 hv10 => ?_)
 obtain ⟨y10, hy10, b10, rfl, rfl⟩ := hv10
 obtain ⟨u, rfl, hu, he⟩ := out_wr v hp hs y10 hy10
 have hpu : Pl (srtV u) := hu ▸ pl_wr hs hp
 refine zA (zW rfl rfl rfl (c107A fb hpu he b10) (sub2 0 3 rfl rfl) (fun u11 D11 hv11 => ?_))
 obtain ⟨_, rfl, A11, m11, B11, d11, rfl, rfl⟩ := hv11
 rw [hu]
 refine sT (zA ?_)
 refine yM ze25 rfl (fun b3 => ?_)
 change RunOps _ _ _ _ _ _ _ _ (HA.blk _ [_, _, _, _, _] _ :: _) _
 refine zA (zR 0 (M' := [HA.blk _ [_, _, _, _, _] _, _]) rfl rfl rfl rfl si25 rfl rfl rfl ?_)
 refine zA (zE rfl rfl ?_)
 refine zC (kE [(4, _), (3, _), (2, _)] rfl ?_)
 refine zD (zD ?_)
 refine zB (sT ?_)
 refine zC (yE rfl (rfl) ?_)
 refine zJ (zD ?_)
 refine zB (zA ?_)
 refine yQ 0 rfl ag25 rfl rfl (zA ?_)
 refine xR rfl rfl (bu34_1 ..) (zA ?_)
 refine zR 1 (M' := [_, HA.blk _ [_, _, _, _, _, _] _]) rfl rfl rfl rfl si34 rfl rfl rfl (zC ?_)
 refine rI (M' := [HA.blk b2 [_, _, _, _, _, _] 34]) (by repeat (first | exact wP _ | refine yB 0 rfl ?_ | refine yB 1 rfl ?_ | refine yB 2 rfl ?_ | refine yB 3 rfl ?_ | refine yB 4 rfl ?_)) ?_
 exact vH 0 Tryz.results60 rfl rfl ag34 ⟨rfl, A11, m11, B11, d11, rfl, rfl⟩ nS (sub1 0 rfl)
theorem sV {D D2 : List DA} (h : ∀ d ∈ D2, d ∈ D := by first | exact sub1 0 rfl | exact sub1 1 rfl | exact sub1 2 rfl | exact sub1 3 rfl | exact sub1 4 rfl | exact sub1 5 rfl | exact sub1 6 rfl) : ∀ d ∈ D2, d ∈ D := h
theorem c27 (a b : V) (ha : Wf a) (hb : Wf b) (y : Value) (A1 A2 : Option Addr) (c1 c2 : Nat) : CtV Tryz.prog 27 #[.agg #[.int .i64 0, .int .i64 a.kind, .int .i64 a.num, .string a.text, .slice A1 a.keys.length c1, .slice A2 a.items.length c2], y] [.val (.agg #[.int .i64 a.kind, .int .i64 a.num, .string a.text, .slice A1 a.keys.length c1, .slice A2 a.items.length c2]) a, .val y b] (.bool (tb (bareV a = bareV b))) := by
 refine Ct.of_run (args := [.agg #[.int .i64 0, .int .i64 a.kind, .int .i64 a.num, .string a.text, .slice A1 a.keys.length c1, .slice A2 a.items.length c2], y]) Tryz.func27 (by kernel_rfl) rfl Tryz.ntmps27 rfl (fun c => ?_)
 refine wC 1 rfl (fun B1 m1 B2 m2 hy hsz hk1 hk2 hi1 hi2 => ?_)
 subst hy
 refine zD (zB ?_)
 refine zA (xL rfl rfl rfl (fun b2 => ?_))
 refine zA (xL rfl rfl rfl (fun b3 => ?_))
 refine zA (zE rfl rfl ?_)
 refine zC (zD ?_)
 refine xX xE (yJ ?_)
 refine tP 0 rfl wanted0 (yN fo34_0 rfl) (yZ ?_)
 refine tM 1 rfl wanted0 (xW 1 sc2 rfl rfl rfl) (tM 2 rfl wanted0 (st_eql rfl rfl) ?_)
 refine yJ (tP 3 rfl wanted0 (yO rfl) ?_)
 refine any_knowT (s := 8) rfl (rfl) (tP 4 rfl (wanted1 rfl rfl) (yN fo34_1 rfl) ?_)
 refine yZ (tM 5 rfl (wanted1 rfl rfl) (st_loadP 1 rfl ag25 rfl rfl rfl) ?_)
 refine tM 7 rfl (wanted1 rfl rfl) (uE 0 rfl ag25 rfl) (yA 6 (by decide +kernel) ?_)
 refine yC (I2 := [[7], [], [], [], []]) rfl (wanted1 rfl rfl) (by decide +kernel) (fun Kd hKd => ?_)
 refine zW rfl rfl rfl (c26 a ha _) sV (fun u11 D11 hv11 => ?_)
 obtain ⟨A11, m11, B11, d11, rfl, rfl⟩ := hv11
 refine hKd _ _ _ (hC (zL (zL (zL (zL (yD)))))) (yA 8 (by decide +kernel) ?_)
 refine yC (I2 := [[], [], [], [], []]) rfl (wanted1 rfl rfl) (by decide +kernel) (fun Kd hKd => ?_)
 refine zW rfl rfl rfl (c26 b hb _) sV (fun u13 D13 hv13 => ?_)
 obtain ⟨A13, m13, B13, d13, rfl, rfl⟩ := hv13
 refine hKd _ _ _ (zL (zL (zL (zL (zL (yD)))))) (yA 9 (by decide +kernel) ?_)
 refine yC (I2 := [[], [], [], [], []]) rfl (wanted1 rfl rfl) (by decide +kernel) (fun Kd hKd => ?_)
 refine zV rfl rfl rfl (c25 (bareV a) (bareV b) _ _) (by first | exact sub2 0 1 rfl rfl | exact sub2 0 2 rfl rfl | exact sub2 0 3 rfl rfl | exact sub2 0 4 rfl rfl | exact sub2 1 0 rfl rfl | exact sub2 1 2 rfl rfl | exact sub2 1 3 rfl rfl | exact sub2 1 4 rfl rfl | exact sub2 2 0 rfl rfl | exact sub2 2 1 rfl rfl | exact sub2 2 3 rfl rfl | exact sub2 2 4 rfl rfl | exact sub2 3 0 rfl rfl | exact sub2 3 1 rfl rfl | exact sub2 3 2 rfl rfl | exact sub2 3 4 rfl rfl | exact sub2 4 0 rfl rfl | exact sub2 4 1 rfl rfl | exact sub2 4 2 rfl rfl | exact sub2 4 3 rfl rfl) (hKd _ _ _ (zL (zL (zL (zL (zL (yD)))))) ?_)
 refine yJ (tP 10 rfl wanted0 (st_pick rfl rfl) ?_)
 refine tP 11 rfl wanted0 (xZ rfl) (xF (by decide +kernel) ?_)
 refine kE [(4, _)] rfl ?_
 exact zI Tryz.results27 rfl ⟨rfl, rfl, rfl⟩ nS (fun _ h => by cases h)
end Go.Jw

namespace Go.Jw
open Go Go.RowKit Go.Proofs
set_option maxRecDepth 8000
theorem kid_in {sh : Int} {x y : V} (h : y ∈ kidsOf sh x) : y = x ∨ y ∈ x.items := by
 unfold kidsOf at h
 (repeat' split at h) <;> first | (exact .inl (List.mem_singleton.1 h)) | (exact .inr (List.mem_filter.1 h).1) | cases h
theorem pl_kid {v x y : V} {sh : Int} (hp : Pl v) (hx : x ∈ v.items) (h : y ∈ kidsOf sh x) : Pl y := (kid_in h).elim (fun e => e ▸ hp.item x hx) (fun e => (hp.item x hx).item y e)
theorem shape_schema : shapeOf kSchema = 1 := by decide +kernel
end Go.Jw

namespace Go.Jw
open Go Go.RowKit Go.Proofs
set_option maxRecDepth 8000
end Go.Jw

namespace Go.Jw
open Go Go.RowKit Go.Proofs
set_option maxRecDepth 8000
theorem norm_zip (v : V) : (normalV v).keys.zip (normalV v).items = ((v.keys.zip v.items).filter (fun p => isKw p.1)).map (fun p => (p.1, turnV (shapeOf p.1) normalV p.2)) := by
  rw [tN]
  unfold filterV
  simp only [V.keys, V.items]
  rw [List.zip_map]
  generalize (List.filter _ _) = l
  induction l with
  | nil => rfl
  | cons a l ih => simp [ih]
theorem sY {v : V} (hs : IsShape v) (hp : Pl v) : Pl (normalV v) := hp.elim fun d h => ⟨d, plain_norm v hs d h⟩
theorem pP {v : V} (hs : IsShape v) (hp : Pl v) (key : ByteArray) : getV (normalV v) key = if isKw key = true then (getV v key).map (turnV (shapeOf key) normalV) else none := by
  have hget : ∀ y, getV (normalV v) key = some y ↔ ∃ x, getV v key = some x ∧ isKw key = true ∧ y = turnV (shapeOf key) normalV x := by
    intro y
    rw [← vA (sY hs hp) (uS v), norm_zip, List.mem_map]
    constructor
    · rintro ⟨⟨k', x⟩, hm, he⟩
      injection he with e1 e2
      subst e1; subst e2
      obtain ⟨h1, h2⟩ := List.mem_filter.1 hm
      exact ⟨x, (vA hp hs.kind).1 h1, h2, rfl⟩
    · rintro ⟨x, h1, h2, rfl⟩
      exact ⟨(key, x), List.mem_filter.2 ⟨(vA hp hs.kind).2 h1, h2⟩, rfl⟩
  cases h : getV (normalV v) key with
  | some y =>
    obtain ⟨x, h1, h2, rfl⟩ := (hget y).1 h
    rw [if_pos h2, h1]
    rfl
  | none =>
    split
    · rename_i hk
      cases hv : getV v key with
      | none => rfl
      | some x =>
        have := (hget _).2 ⟨x, hv, hk, rfl⟩
        rw [h] at this
        cases this
    · rfl
end Go.Jw

namespace Go.Jw
open Go Go.RowKit Go.Proofs
set_option maxRecDepth 8000
end Go.Jw

namespace Go.Jw
open Go Go.RowKit
theorem setMany_app (pre zs vs post : List Value) (h : zs.length = vs.length) : setMany (pre ++ (zs ++ post)) pre.length vs = pre ++ (vs ++ post) := by
  induction vs generalizing pre zs with
  | nil =>
    have : zs = [] := List.eq_nil_of_length_eq_zero h
    subst this
    rfl
  | cons v vs ih =>
    cases zs with
    | nil => cases h
    | cons z zs =>
      have e : (pre ++ (z :: zs ++ post)).set pre.length v = (pre ++ [v]) ++ (zs ++ post) := by simp
      have := ih (pre ++ [v]) zs (by simpa using h)
      rw [setMany, e]
      simp only [List.length_append, List.length_singleton] at this
      rw [this]
      simp
section rules
variable {P : Program} {n : Nat} {F : List Nat} {c : Ctx F} {ops : Array Oper} {d : Nat} {T : TypeId} {l : List Oper} {k : List KI} {Q : Post} {e : Env} {M : List HA} {D : List DA}
theorem st_idxRowL (i : Nat) {x y : Operand} {A : Option Addr} {m cap j : Nat} {kd : IntKind} {S E sz by_ U : Nat} {xs : List Value} (hS : SliceOf P S E sz by_) (hx : ev e x = some (.slice A m cap)) (hy : ev e y = some (.int kd (j : Nat))) (hi : M[i]? = some (.row A m cap U sz xs)) (hj : j < m) :
  St P n c (.indexAddr S x y) T e M D (.pointer (some (At A (j * sz)))) := by
 intro d a w hf
 have hrow := hf.toFitsW.mem hi
 rcases hrow.2 with ⟨_, h⟩ | ⟨g, cap', cur, hv, _⟩
 ·omega
 ·injection hv with h4
  subst h4
  exact uB (T := T) hS hx hy hj d a w hf
theorem op_storeRow (i : Nat) {x y : Operand} {A : Option Addr} {m cap E sz S : Nat} {pre zs vs : List Value} {v : Value} (hx : ev e x = some (.pointer (some (At A (m * sz))))) (hy : ev e y = some v) (hi : M[i]? = some (.row A (m + 1) cap E sz (pre ++ zs))) (hz : zs.length = sz) (hvs : vs.length = sz) (hv : v.cells = vs.toArray)
  (hs : ∃ i, P.info? S = some i ∧ i.size = sz) (h1 : vs.all (·.oneCell') = true) (next : RunOps P n c ops l k Q e (M.set i (.row A (m + 1) cap E sz (pre ++ vs))) D) : RunOp P n c ops none (.store S x y) T l k Q e M D := by
 intro a w hf
 have hrow := hf.toFitsW.mem hi
 have hpl : pre.length = m * sz := by
  have := hrow.1
  rw [List.length_append, hz, Nat.succ_mul] at this
  omega
 rcases hrow.2 with ⟨_, h⟩ | ⟨g, cap', cur, hv', hg, hc, hnc, hm, hsz, ht⟩
 ·omega
 ·injection hv' with hA _ hcap
  subst hA; subst hcap
  have hcur : cur.toList = pre ++ (zs ++ cur.toList.drop ((m + 1) * sz)) := by
   rw [← List.append_assoc, ← ht, List.take_append_drop]
  have hcs : w.heap[g]? = some (.cells cur.toList.toArray E (0, 0)) := by rw [Array.toArray_toList]; exact hc
  obtain ⟨w', hr, hh, hcg⟩ := pB (P := P) (T' := S) (v := v) (o := pre.length) hcs hv (by rw [hvs]; exact hs) (by rw [hcur]; simp; omega) (fun u hu => (List.all_eq_true.1 h1) u hu)
  have hadr : At (some ⟨g, 0, none⟩) (m * sz) = ⟨g, pre.length, none⟩ := by
   show (⟨g, 0, none⟩ : Addr).add (m * sz) = _
   rw [vG, Nat.zero_add, hpl]
  unfold Oper.wp
  have : (execOp a.eval (opr none (.store S x y) T)).run P w = .ok .skip w' := by simp [execOp, opr, hf.ev hx, hf.ev hy, hadr, hr]
  rw [this]
  refine next _ _ (hf.world (hf.toFitsW.swapAt hi (x' := .row (some ⟨g, 0, none⟩) (m + 1) cap E sz (pre ++ vs)) ?_ (by simpa [HA.foot] using hcg) (by simp [HA.foot]) (fun q hq => .inl hq)))
  refine ⟨by rw [List.length_append, hpl, hvs, Nat.succ_mul], .inr ⟨g, cap, _, rfl, Nat.zero_le _, hh, hnc, hm, ?_, ?_⟩⟩
  ·rw [List.size_toArray, setMany_length]; simpa using hsz
  ·have e : setMany cur.toList pre.length vs = pre ++ (vs ++ cur.toList.drop ((m + 1) * sz)) := by
    conv => lhs; rw [hcur]
    exact setMany_app _ _ _ _ (by omega)
   rw [e]
   show List.take ((m + 1) * sz) (pre ++ (vs ++ _)) = _
   rw [← List.append_assoc]
   exact List.take_left' (by rw [List.length_append, hpl, hvs, Nat.succ_mul])
end rules
end Go.Jw

namespace Go.Jw
open Go Go.RowKit Go.Proofs
def HE (M N : List HA) : Prop := (∀ w : World, (∀ h ∈ M, h.holds w) ↔ ∀ h ∈ N, h.holds w) ∧ (foots M).Perm (foots N)
theorem HE.refl (M : List HA) : HE M M := ⟨fun _ => Iff.rfl, .refl _⟩
theorem HE.symm {M N : List HA} (h : HE M N) : HE N M := ⟨fun w => (h.1 w).symm, h.2.symm⟩
theorem HE.trans {M N L : List HA} (h : HE M N) (k : HE N L) : HE M L := ⟨fun w => (h.1 w).trans (k.1 w), h.2.trans k.2⟩
theorem HE.perm {M N : List HA} (h : M.Perm N) : HE M N := ⟨fun w => ⟨fun a x hx => a x (h.mem_iff.2 hx), fun a x hx => a x (h.mem_iff.1 hx)⟩, foots_perm h⟩
theorem HE.append {M N M' N' : List HA} (h : HE M N) (k : HE M' N') : HE (M ++ M') (N ++ N') := by
 refine ⟨fun w => ?_, by rw [xD, xD]; exact h.2.append k.2⟩
 have e : ∀ A B : List HA, (∀ x ∈ A ++ B, x.holds w) ↔ (∀ x ∈ A, x.holds w) ∧ ∀ x ∈ B, x.holds w := fun A B =>
  ⟨fun a => ⟨fun x hx => a x (List.mem_append_left _ hx), fun x hx => a x (List.mem_append_right _ hx)⟩, fun a x hx => (List.mem_append.1 hx).elim (a.1 x) (a.2 x)⟩
 rw [e, e, h.1 w, k.1 w]
theorem FitsW.he {F : List Nat} {c : Ctx F} {M N : List HA} {D : List DA} {w : World} (h : FitsW c M D w) (he : HE M N) : FitsW c N D w :=
 ⟨h.chg, (he.1 w).1 h.own, he.2.nodup_iff.1 h.nodup, fun b hb => h.foot b (he.2.mem_iff.2 hb), fun d hd =>
  d.mono (fun k hk => ⟨hk.1, hk.2.1, fun h' => hk.2.2 (he.2.mem_iff.2 h')⟩) (fun _ _ => rfl) (h.dat d hd)⟩
theorem Ct.draw {P : Program} {f : FuncId} {args : Array Value} {M : List HA} {D E : List DA} {R : Value → List HA → List DA → Prop} (hE : ∀ (w : World) (ok : Nat → Prop), (∀ d ∈ D, d.p w ok) → ∀ d ∈ E, d.p w ok) (h : Ct P f args M E R) : Ct P f args M D R :=
 ⟨h.1, fun w ok hok hM hn hD => h.2 w ok hok hM hn (hE w ok hD)⟩


abbrev Sig := Nat → Option Flds
def upd (σ : Sig) (b : Nat) (o : Option Flds) : Sig := fun d => if d = b then o else σ d
theorem upd_self (σ : Sig) (b : Nat) (o : Option Flds) : upd σ b o b = o := if_pos rfl
theorem upd_ne {σ : Sig} {b d : Nat} (h : d ≠ b) (o : Option Flds) : upd σ b o d = σ d := if_neg h
def GOk (G : Gr) (σ : Sig) : Prop := (G.map (·.1)).Nodup ∧ ∀ b f, G.at b f ↔ σ b = some f
theorem GOk.ex {G : Gr} (h : (G.map (·.1)).Nodup) : ∃ σ, GOk G σ := by
  induction G with
  | nil => exact ⟨fun _ => none, h, fun b f => ⟨(fun ⟨cs, hm⟩ => absurd hm (by simp)), (fun h => by cases h)⟩⟩
  | cons g G ih =>
    rw [List.map_cons, List.nodup_cons] at h
    obtain ⟨σ, h1, h2⟩ := ih h.2
    refine ⟨upd σ g.1 (some g.2.2), by rw [List.map_cons, List.nodup_cons]; exact h, fun b f => ?_⟩
    by_cases hb : b = g.1
    · subst hb
      rw [upd_self]
      constructor
      · rintro ⟨cs, hm⟩
        rcases List.mem_cons.1 hm with e | e
        · rw [← e]
        · exact absurd (List.mem_map.2 ⟨_, e, rfl⟩) h.1
      · intro e
        injection e with e
        exact ⟨g.2.1, by rw [← e]; exact List.mem_cons_self⟩
    · rw [upd_ne hb, ← h2]
      constructor
      · rintro ⟨cs, hm⟩
        rcases List.mem_cons.1 hm with e | e
        · exact absurd (congrArg Prod.fst e) hb
        · exact ⟨cs, e⟩
      · rintro ⟨cs, hm⟩
        exact ⟨cs, List.mem_cons_of_mem _ hm⟩
theorem GOk.perm {G G' : Gr} {σ : Sig} (h : GOk G σ) (hp : G.Perm G') : GOk G' σ :=
 ⟨(hp.map _).nodup_iff.1 h.1, fun b f => by rw [← h.2]; exact ⟨fun ⟨cs, hm⟩ => ⟨cs, hp.mem_iff.2 hm⟩, fun ⟨cs, hm⟩ => ⟨cs, hp.mem_iff.1 hm⟩⟩⟩
theorem GOk.tail {g : Nat × List Value × Flds} {R : Gr} {σ : Sig} (h : GOk (g :: R) σ) : GOk R (upd σ g.1 none) := by
 have hn := h.1
 rw [List.map_cons, List.nodup_cons] at hn
 refine ⟨hn.2, fun b f => ?_⟩
 by_cases hb : b = g.1
 ·subst hb
  rw [upd_self]
  exact ⟨fun ⟨cs, hm⟩ => absurd (List.mem_map.2 ⟨_, hm, rfl⟩) hn.1, fun e => by cases e⟩
 ·rw [upd_ne hb, ← h.2]
  constructor
  ·rintro ⟨cs, hm⟩; exact ⟨cs, List.mem_cons_of_mem _ hm⟩
  ·rintro ⟨cs, hm⟩
   rcases List.mem_cons.1 hm with e | e
   ·exact absurd (congrArg Prod.fst e) hb
   ·exact ⟨cs, e⟩
theorem GOk.split {G : Gr} {σ : Sig} {b : Nat} {f : Flds} (h : GOk G σ) (hb : σ b = some f) : ∃ cs R, G.Perm ((b, cs, f) :: R) ∧ GOk R (upd σ b none) := by
 obtain ⟨cs, hm⟩ := (h.2 b f).2 hb
 obtain ⟨s, t, rfl⟩ := List.append_of_mem hm
 have hp : (s ++ (b, cs, f) :: t).Perm ((b, cs, f) :: (s ++ t)) := List.perm_middle
 exact ⟨cs, s ++ t, hp, (h.perm hp).tail⟩
theorem blks_perm {G G' : Gr} (h : G.Perm G') : (Gr.blks G).Perm (Gr.blks G') := h.map _
theorem he_manyP {U : TypeId} {gs gs' : List (Nat × List Value)} (h : gs.Perm gs') : HE [.many U gs] [.many U gs'] :=
 ⟨fun w => by
  constructor <;> intro a x hx <;> rcases List.mem_singleton.1 hx with rfl <;> intro g hg
  ·exact (a _ List.mem_cons_self : (HA.many U gs).holds w) g (h.mem_iff.2 hg)
  ·exact (a _ List.mem_cons_self : (HA.many U gs').holds w) g (h.mem_iff.1 hg), by simpa [foots, HA.foot] using h.map _⟩
theorem he_many1 (U : TypeId) (b : Nat) (cs : List Value) (gs : List (Nat × List Value)) : HE [.many U ((b, cs) :: gs)] [.blk b cs U, .many U gs] :=
 ⟨fun w => by
  constructor
  ·intro a x hx
   have h1 : (HA.many U ((b, cs) :: gs)).holds w := a _ List.mem_cons_self
   simp only [List.mem_cons, List.not_mem_nil, or_false] at hx
   rcases hx with rfl | rfl
   ·exact h1 (b, cs) List.mem_cons_self
   ·exact fun g hg => h1 g (List.mem_cons_of_mem _ hg)
  ·intro a x hx
   rcases List.mem_singleton.1 hx with rfl
   intro g hg
   rcases List.mem_cons.1 hg with rfl | hg
   ·exact (a _ List.mem_cons_self : (HA.blk b cs U).holds w)
   ·exact (a _ (List.mem_cons_of_mem _ List.mem_cons_self) : (HA.many U gs).holds w) g hg, by simp [foots, HA.foot]⟩
theorem he_split {G R : Gr} {b : Nat} {cs : List Value} {f : Flds} (h : G.Perm ((b, cs, f) :: R)) : HE [.many 124 (Gr.blks G)] [.blk b cs 124, .many 124 (Gr.blks R)] :=
 (he_manyP (blks_perm h)).trans (he_many1 124 b cs (Gr.blks R))
theorem many_nodup {U : TypeId} {gs : List (Nat × List Value)} {M : List HA} (h : (foots (.many U gs :: M)).Nodup) : (gs.map (·.1)).Nodup := (List.nodup_append.1 h).1
theorem graph_nodup {G : Gr} {M : List HA} (h : (foots (.many 124 (Gr.blks G) :: M)).Nodup) : (G.map (·.1)).Nodup := by
 have := many_nodup h
 rw [Gr.blks, List.map_map] at this
 exact this
def Flds.put (f : Flds) (i : Nat) (o : Option FVal) : Flds := fun j => if j = i then o else f j
section rules
variable {P : Program} {n : Nat} {F : List Nat} {c : Ctx F} {ops : Array Oper} {d : Nat} {T : TypeId} {l : List Oper} {k : List KI} {Q : Post} {e : Env} {M : List HA} {D : List DA}
theorem ops_he {N : List HA} (he : HE M N) (next : RunOps P n c ops l k Q e N D) : RunOps P n c ops l k Q e M D := fun a w hf => next a w (hf.world (hf.toFitsW.he he))
theorem ops_nd (next : (foots M).Nodup → RunOps P n c ops l k Q e M D) : RunOps P n c ops l k Q e M D := fun a w hf => next hf.toFitsW.nodup a w hf
theorem cellsP_get {w : World} {ok : Nat → Prop} {mb : Nat} {cs : List Value} {f : Flds} (h : CellsP w ok mb cs f) {i : Nat} (h1 : 1 ≤ i) (h2 : i ≤ 36) : ∃ p : Option Addr, cs[i]? = some (.pointer p) ∧ p.isSome = (f i).isSome ∧ ∀ fv, f i = some fv → FvP w ok fv (.pointer p) := by
  obtain ⟨u, hu, hm⟩ := h.2.2 i h1 h2
  cases hf : f i with
  | none =>
    rw [hf] at hm
    exact ⟨none, by rw [hu]; exact congrArg some hm, rfl, fun fv h => by cases h⟩
  | some fv =>
    rw [hf] at hm
    have : ∃ p : Addr, u = .pointer (some p) := by
      cases fv with
      | text s => obtain ⟨p, a, b⟩ := hm; exact ⟨_, a⟩
      | bool x => obtain ⟨p, a, b⟩ := hm; exact ⟨_, a⟩
      | int n => obtain ⟨p, a, b⟩ := hm; exact ⟨_, a⟩
      | numI n => obtain ⟨b, p, a, c⟩ := hm; exact ⟨_, a⟩
      | numF n => obtain ⟨b, p, a, c⟩ := hm; exact ⟨_, a⟩
      | sbS c => obtain ⟨b, a, d⟩ := hm; exact ⟨_, a⟩
      | sbB x => obtain ⟨b, p, a, c⟩ := hm; exact ⟨_, a⟩
      | itS c => obtain ⟨b, a, d⟩ := hm; exact ⟨_, a⟩
      | itL bs => obtain ⟨b, p, sl, a, c⟩ := hm; exact ⟨_, a⟩
      | texts l => obtain ⟨p, sl, a, d⟩ := hm; exact ⟨_, a⟩
      | named l => obtain ⟨p, sl, nbs, a, d⟩ := hm; exact ⟨_, a⟩
      | deps l => obtain ⟨p, sl, nbs, a, d⟩ := hm; exact ⟨_, a⟩
      | enums l => obtain ⟨p, A, c, a, d⟩ := hm; exact ⟨_, a⟩
      | tyS s => obtain ⟨b, p, a, c⟩ := hm; exact ⟨_, a⟩
      | tyL l => obtain ⟨b, p, sl, a, c⟩ := hm; exact ⟨_, a⟩
      | list bs => obtain ⟨p, sl, a, d⟩ := hm; exact ⟨_, a⟩
      | one c => exact ⟨_, hm⟩
      | any => obtain ⟨p, a⟩ := hm; exact ⟨_, a⟩
    obtain ⟨p, rfl⟩ := this
    exact ⟨some p, hu, rfl, fun fv' h => by injection h with h; subst h; exact hm⟩
theorem cellsP_put {w : World} {ok : Nat → Prop} {mb : Nat} {cs : List Value} {f : Flds} (h : CellsP w ok mb cs f) {i : Nat} (h1 : 1 ≤ i) {p : Option Addr} {o : Option FVal} (hp : p.isSome = o.isSome) (ho : ∀ fv, o = some fv → FvP w ok fv (.pointer p)) : CellsP w ok mb (cs.set i (.pointer p)) (f.put i o) := by
  refine ⟨by simp [h.1], by rw [List.getElem?_set_ne (by omega)]; exact h.2.1, fun q hq hq2 => ?_⟩
  by_cases hoq : q = i
  · subst hoq
    refine ⟨.pointer p, by rw [List.getElem?_set_self (by rw [h.1]; omega)], ?_⟩
    simp only [Flds.put, if_true]
    cases o with
    | none => cases p with
      | none => rfl
      | some a => cases hp
    | some fv => exact ho fv rfl
  · obtain ⟨u', hu', hm⟩ := h.2.2 q hq hq2
    exact ⟨u', by rw [List.getElem?_set_ne (by omega)]; exact hu', by simp only [Flds.put, if_neg hoq]; exact hm⟩
end rules
end Go.Jw

namespace Go.Jw
open Go Go.RowKit
def stepF (q : Nat) (f s : Flds) : Flds := fun i => if i = q then (s i).or (f i) else f i
theorem steps_eq (l : List Nat) (hn : l.Nodup) (f s : Flds) : l.foldl (fun g q => stepF q g s) f = fun i => if i ∈ l then (s i).or (f i) else f i := by
  induction l generalizing f with
  | nil => funext i; simp
  | cons q l ih =>
    rw [List.nodup_cons] at hn
    rw [List.foldl_cons, ih hn.2]
    funext i
    by_cases hi : i ∈ l
    · have hq : i ≠ q := fun e => hn.1 (e ▸ hi)
      simp [hi, stepF, hq]
    · by_cases hq : i = q
      · subst hq; simp [hi, stepF]
      · simp [hi, stepF, hq]
section rules
variable {P : Program} {n : Nat} {F : List Nat} {c : Ctx F} {ops : Array Oper} {d : Nat} {T : TypeId} {l : List Oper} {k : List KI} {Q : Post} {e : Env} {M : List HA} {D : List DA}
theorem qP (t : Nat) (v : Value) (e : Env) : look ((t, v) :: e) t = some v := by rw [vI, if_pos rfl]
theorem look_ne {t s : Nat} (v : Value) (e : Env) (h : s ≠ t) : look ((s, v) :: e) t = look e t := by rw [vI, if_neg h]
theorem blt_of {a n : Nat} (h : a < n) : Nat.blt a n = true := by simpa using h
theorem xQ {b s mb mb2 : Nat} {cs cs2 : List Value} {f f2 : Flds} (a q T : Nat) (ha : 2 ≤ a) (hn : a + 11 < n) (h1 : 1 ≤ q) (h2 : q ≤ 36) (hT : Scalar P T) (hfo : FieldOff P 124 q q) (hpn : P.underlying T = some (.pointer (P.pointee T))) (hsi : ∃ i, P.info? T = some i ∧ i.size = 1)
    {i1 i2 : Nat} {A1 A2 A3 A4 A5 B1 B2 B3 B4 B5 B6 B7 B8 C1 : TypeId} {p1 p2 p3 p4 p5 q1 q2 q3 q4 q5 q6 q7 q8 : String} {e1 e2 e3 e4 e5 g1 g2 g3 g4 g5 g6 g7 g8 : Array Edge}
    (next : ∀ cs', Run P n c k Q [(0, ptr b), (1, ptr s)] [.blk b cs' 124, .blk s cs2 124] [.flds mb cs' (stepF q f f2), .flds mb2 cs2 f2]) :
    Run P n c (.code (.seq (.region i1 #[⟨some a, .move (.tmp 1), A1, p1, e1, none⟩, ⟨some (a + 1), .nilCheck (.tmp a), A2, p2, e2, none⟩, ⟨some (a + 2), .fieldAddr 124 (.tmp (a + 1)) q, A3, p3, e3, none⟩, ⟨some (a + 3), .load T (.tmp (a + 2)), A4, p4, e4, none⟩, ⟨some (a + 4), .binOp .neq T (.tmp (a + 3)) (.const (.pointer none)) C1, A5, p5, e5, none⟩] false)
      (.cond (.tmp (a + 4)) (.region i2 #[⟨some (a + 5), .move (.tmp 0), B1, q1, g1, none⟩, ⟨some (a + 6), .move (.tmp 1), B2, q2, g2, none⟩, ⟨some (a + 7), .nilCheck (.tmp (a + 6)), B3, q3, g3, none⟩, ⟨some (a + 8), .fieldAddr 124 (.tmp (a + 7)) q, B4, q4, g4, none⟩, ⟨some (a + 9), .load T (.tmp (a + 8)), B5, q5, g5, none⟩, ⟨some (a + 10), .nilCheck (.tmp (a + 5)), B6, q6, g6, none⟩, ⟨some (a + 11), .fieldAddr 124 (.tmp (a + 10)) q, B7, q7, g7, none⟩, ⟨none, .store T (.tmp (a + 11)) (.tmp (a + 9)), B8, q8, g8, none⟩] false) .skip)) :: k)
      Q [(0, ptr b), (1, ptr s)] [.blk b cs 124, .blk s cs2 124] [.flds mb cs f, .flds mb2 cs2 f2] := by
  have ev1 : ∀ (t : Nat) (v : Value) (e : Env), ev ((t, v) :: e) (.tmp t) = some v := fun t v e => qP t v e
  have evn : ∀ (t s : Nat) (v : Value) (e : Env), s ≠ t → ev ((s, v) :: e) (.tmp t) = ev e (.tmp t) := fun t s v e h => look_ne v e h
  have hbl : ∀ j, j ≤ 11 → Nat.blt (a + j) n = true := fun j hj => blt_of (by omega)
  refine rJ (p := cs.length = 37) (fun w ok h => (h (.flds mb cs f) (by simp)).1) (fun hcl => ?_)
  refine rJ (p := ∃ p : Option Addr, cs2[q]? = some (.pointer p) ∧ p.isSome = (f2 q).isSome) (fun w ok h => ?_) (fun ⟨p, hcp, hps⟩ => ?_)
  · obtain ⟨p, a1, a2, _⟩ := cellsP_get (h (.flds mb2 cs2 f2) (by simp)) h1 h2
    exact ⟨p, a1, a2⟩
  refine zD (zB (zA ?_))
  refine zF (hbl 0 (by omega)) (v := ptr s) (by rw [evn 1 0 _ _ (by decide)]; exact ev1 1 _ _) (zA ?_)
  refine zP (hbl 1 (by omega)) (ev1 _ _ _) (zA ?_)
  refine zH hfo (hbl 2 (by omega)) (ev1 _ _ _) (zA ?_)
  refine tF 1 hT (hbl 3 (by omega)) (ev1 _ _ _) rfl (by rw [Nat.zero_add]; exact hcp) (zA ?_)
  refine yF hpn (hbl 4 (by omega)) (ev1 _ _ _) (zC ?_)
  refine yI (ev1 _ _ _) (fun hb => ?_) (fun hb => ?_)
  · refine zB (zA ?_)
    refine zF (hbl 5 (by omega)) (v := ptr b) (by (repeat rw [evn 0 _ _ _ (by omega)]); exact ev1 0 _ _) (zA ?_)
    refine zF (hbl 6 (by omega)) (v := ptr s) (by (repeat rw [evn 1 _ _ _ (by omega)]); exact ev1 1 _ _) (zA ?_)
    refine zP (hbl 7 (by omega)) (ev1 _ _ _) (zA ?_)
    refine zH hfo (hbl 8 (by omega)) (ev1 _ _ _) (zA ?_)
    refine tF 1 hT (hbl 9 (by omega)) (ev1 _ _ _) rfl (by rw [Nat.zero_add]; exact hcp) (zA ?_)
    refine zP (p := ⟨b, 0, none⟩) (hbl 10 (by omega)) (by (repeat rw [evn (a + 5) _ _ _ (by omega)]); exact ev1 _ _ _) (zA ?_)
    refine zH hfo (hbl 11 (by omega)) (ev1 _ _ _) (zA ?_)
    rw [Nat.zero_add]
    refine xC 0 (v := .pointer p) (ev1 _ _ _) (by (repeat rw [evn (a + 9) _ _ _ (by omega)]); exact ev1 _ _ _) rfl rfl rfl hsi (by omega) (zC ?_)
    refine run_env (e' := [(0, ptr b), (1, ptr s)]) (eC (by (repeat rw [look_ne _ _ (by omega)]); exact qP _ _ _) (eC (by (repeat rw [look_ne _ _ (by omega)]); exact qP _ _ _) (eN _))) ?_
    refine tC (fun w ok h x hx => ?_) (next (cs.set q (.pointer p)))
    have hf1 : CellsP w ok mb cs f := h (.flds mb cs f) (by simp)
    have hf2 : CellsP w ok mb2 cs2 f2 := h (.flds mb2 cs2 f2) (by simp)
    simp only [List.mem_cons, List.not_mem_nil, or_false] at hx
    rcases hx with rfl | rfl
    · obtain ⟨p', a1, a2, a3⟩ := cellsP_get hf2 h1 h2
      rw [hcp] at a1
      injection a1 with a1
      injection a1 with a1
      subst a1
      have e : stepF q f f2 = f.put q (f2 q) := by
        funext i
        unfold stepF Flds.put
        by_cases hi : i = q
        · subst hi
          rw [if_pos rfl, if_pos rfl]
          cases hfi : f2 i with
          | none => rw [hfi] at a2; rw [hb] at a2; cases a2
          | some fv => rfl
        · rw [if_neg hi, if_neg hi]
      show CellsP w ok mb (cs.set q (.pointer p)) (stepF q f f2)
      rw [e]
      exact cellsP_put hf1 h1 a2 a3
    · exact hf2
  · refine zJ ?_
    refine run_env (e' := [(0, ptr b), (1, ptr s)]) (eC (by (repeat rw [look_ne _ _ (by omega)]); exact qP _ _ _) (eC (by (repeat rw [look_ne _ _ (by omega)]); exact qP _ _ _) (eN _))) ?_
    have e : stepF q f f2 = f := by
      funext i
      unfold stepF
      by_cases hi : i = q
      · subst hi
        rw [if_pos rfl]
        cases hfi : f2 i with
        | none => rfl
        | some fv => rw [hfi, hb] at hps; cases hps
      · rw [if_neg hi]
    have := next cs
    rw [e] at this
    exact this
end rules
end Go.Jw

namespace Go.Jw
open Go Go.RowKit Go.Proofs
set_option maxRecDepth 8000
abbrev Prs := List (ByteArray × V)
def lk (l : Prs) (k : ByteArray) : Option V := (l.find? (fun p => decide (p.1 = k))).map (·.2)
theorem lk_nil (k : ByteArray) : lk [] k = none := rfl
theorem sL (p : ByteArray × V) (l : Prs) (k : ByteArray) : lk (p :: l) k = if p.1 = k then some p.2 else lk l k := by
 unfold lk
 rw [List.find?_cons]
 by_cases h : p.1 = k
 ·simp [h]
 ·simp [h]
theorem lk_filter (l : Prs) (q : ByteArray → Bool) (k : ByteArray) : lk (l.filter fun p => q p.1) k = if q k = true then lk l k else none := by
  induction l with
  | nil => simp [lk_nil]
  | cons p l ih =>
    rw [List.filter_cons]
    by_cases hq : q p.1 = true
    · rw [if_pos hq, sL, sL, ih]
      by_cases h : p.1 = k
      · rw [if_pos h, if_pos h, ← h, if_pos hq]
      · rw [if_neg h, if_neg h]
    · rw [if_neg hq, ih, sL]
      by_cases h : p.1 = k
      · rw [← h, if_neg hq, if_neg hq]
      · rw [if_neg h]
theorem lk_mem {l : Prs} {k : ByteArray} {x : V} (h : lk l k = some x) : (k, x) ∈ l := by
  induction l with
  | nil => cases h
  | cons p l ih =>
    rw [sL] at h
    split at h
    · rename_i hp
      injection h with h
      rw [← hp, ← h]
      exact List.mem_cons_self
    · exact List.mem_cons_of_mem _ (ih h)
theorem findIdx_lk (ks : List ByteArray) (ts : List V) (key : ByteArray) (h : ks.length ≤ ts.length) : (if ks.findIdx (fun x => decide (x = key)) < ks.length then ts[ks.findIdx (fun x => decide (x = key))]? else none) = lk (ks.zip ts) key := by
  induction ks generalizing ts with
  | nil => rfl
  | cons k ks ih =>
    cases ts with
    | nil => simp at h
    | cons t ts =>
      rw [List.zip_cons_cons, sL, List.findIdx_cons]
      by_cases hk : k = key
      · simp [hk]
      · have := ih ts (by simpa using h)
        simp only [hk, decide_false, cond_false, if_false, List.length_cons, Nat.add_lt_add_iff_right, List.getElem?_cons_succ]
        exact this
theorem getV_lk {v : V} (h : v.keys.length ≤ v.items.length) (key : ByteArray) : getV v key = lk (v.keys.zip v.items) key := by
 rw [← findIdx_lk _ _ _ h]
 unfold getV findI
 split
 ·rename_i hlt
  rw [if_neg (by omega)]
  simp
 ·rw [if_pos rfl]
def mkM (l : Prs) : V := .mk 5 0 ⟨#[]⟩ (l.map (·.1)) (l.map (·.2))
theorem mkM_zip (l : Prs) : (mkM l).keys.zip (mkM l).items = l := by
  show (l.map (·.1)).zip (l.map (·.2)) = l
  induction l with
  | nil => rfl
  | cons p l ih => simp [ih]
theorem getV_mkM (l : Prs) (key : ByteArray) : getV (mkM l) key = lk l key := by
 rw [getV_lk (by simp [mkM, V.keys, V.items]), mkM_zip]
def withL (key : ByteArray) (own : V) : Prs → Prs
  | [] => [(key, own)]
  | p :: l => if Op.bytesLess p.1.toList key.toList = false then (key, own) :: (p :: l).filter (fun q => !decide (q.1 = key)) else p :: withL key own l
def withV (v : V) (key : ByteArray) (own : V) : V := mkM (withL key own (v.keys.zip v.items))
theorem bl_irr (k : ByteArray) : Op.bytesLess k.toList k.toList = false := by
 rw [less_lt]
 exact decide_eq_false (List.lt_irrefl _)
theorem lk_with (key : ByteArray) (own : V) (l : Prs) (k : ByteArray) : lk (withL key own l) k = if k = key then some own else lk l k := by
  induction l with
  | nil =>
    rw [withL, sL]
    by_cases h : k = key
    · rw [if_pos h.symm, if_pos h]
    · rw [if_neg (Ne.symm h), if_neg h]
  | cons p l ih =>
    rw [withL]
    split
    · rw [sL, lk_filter (p :: l) (fun x => !decide (x = key))]
      by_cases h : k = key
      · rw [if_pos h.symm, if_pos h]
      · rw [if_neg (Ne.symm h), if_neg h, if_pos (by simp [h])]
    · rename_i hlt
      rw [sL, sL, ih]
      by_cases h : k = key
      · rw [if_pos h, if_pos h]
        split
        · rename_i hp
          rw [hp, h, bl_irr] at hlt
          exact absurd rfl hlt
        · rfl
      · rw [if_neg h, if_neg h]
theorem get_with {v : V} (h : v.keys.length ≤ v.items.length) (key : ByteArray) (own : V) (k : ByteArray) : getV (withV v key own) k = if k = key then some own else getV v k := by
 rw [withV, getV_mkM, lk_with, getV_lk h]
theorem with_le (v : V) (key : ByteArray) (own : V) : (withV v key own).keys.length ≤ (withV v key own).items.length := by simp [withV, mkM, V.keys, V.items]

theorem with_mem {key : ByteArray} {own : V} {l : Prs} {p : ByteArray × V} (h : p ∈ withL key own l) : p = (key, own) ∨ p ∈ l := by
  induction l with
  | nil => exact .inl (List.mem_singleton.1 h)
  | cons q l ih =>
    rw [withL] at h
    split at h
    · rcases List.mem_cons.1 h with h | h
      · exact .inl h
      · exact .inr (List.mem_filter.1 h).1
    · rcases List.mem_cons.1 h with h | h
      · exact .inr (by rw [h]; exact List.mem_cons_self)
      · exact (ih h).imp id (List.mem_cons_of_mem _)
theorem with_len (key : ByteArray) (own : V) (l : Prs) : (withL key own l).length ≤ l.length + 1 := by
  induction l with
  | nil => exact Nat.le_refl _
  | cons p l ih =>
    rw [withL]
    split
    · have := List.length_filter_le (fun q : ByteArray × V => !decide (q.1 = key)) (p :: l)
      simp only [List.length_cons] at this ⊢
      omega
    · simp only [List.length_cons]; omega
theorem shape_get {v : V} (hp : Pl v) (hk : v.kind = 5) (h : ∀ key x, getV v key = some x → FitLoc (shapeOf key) x ∧ (∀ z ∈ kidsOf (shapeOf key) x, IsShape z) ∧ (key = kId → ∃ u, getV v kSchema = some u ∧ IsFourth u.text)) : IsShape v := by
 refine (wZ v).2 ⟨hk, fun j k x hj hx => h k x ((vA hp hk).1 ?_)⟩
 refine List.mem_of_getElem? (i := j) ?_
 rw [List.getElem?_zip_eq_some]
 exact ⟨hj, hx⟩
theorem rE {v : V} (hs : IsShape v) {key : ByteArray} {x : V} (h : getV v key = some x) : FitLoc (shapeOf key) x ∧ (∀ z ∈ kidsOf (shapeOf key) x, IsShape z) ∧ (key = kId → ∃ u, getV v kSchema = some u ∧ IsFourth u.text) := by
 obtain ⟨j, hj1, hj2⟩ := qK h
 exact ((wZ v).1 hs).2 j _ _ hj1 hj2
end Go.Jw

namespace Go.Jw
open Go Go.RowKit Go.Proofs
set_option maxRecDepth 8000
def fkids : FVal → List Nat
  | .sbS b => [b]
  | .itS b => [b]
  | .itL bs => bs
  | .named l => l.map (·.2)
  | .list bs => bs
  | .one b => [b]
  | _ => []
def kidsAt (f : Flds) (i : Nat) : List Nat := match f i with
  | none => []
  | some fv => fkids fv
theorem All2.map {α β γ : Type} {R : α → β → Prop} {S : α → γ → Prop} {g : β → γ} {l : List α} {l' : List β} (h : ∀ a b, a ∈ l → b ∈ l' → R a b → S a (g b)) (h2 : All2 R l l') : All2 S l (l'.map g) := by
  refine ⟨by rw [List.length_map]; exact h2.1, fun i a b ha hb => ?_⟩
  rw [List.getElem?_map] at hb
  cases hl : l'[i]? with
  | none => rw [hl] at hb; cases hb
  | some b' =>
    rw [hl] at hb
    injection hb with hb
    rw [← hb]
    exact h a b' (List.mem_of_getElem? ha) (List.mem_of_getElem? hl) (h2.2 i a b' ha hl)
theorem zip_mapR (ks : List ByteArray) (ts : List V) (g : V → V) : ks.zip (ts.map g) = (ks.zip ts).map (fun p => (p.1, g p.2)) := by
  induction ks generalizing ts with
  | nil => rfl
  | cons k ks ih => cases ts with
    | nil => rfl
    | cons t ts => simp [ih]
theorem FvRel.turn {U U' : Nat → V → Prop} {g : V → V} (hg : ∀ z, (g z).kind = 5) {sh : Int} {x : V} {fv : FVal} (hfit : FitLoc sh x) (h : ∀ c z, c ∈ fkids fv → z ∈ kidsOf sh x → U c z → U' c (g z)) (hf : FvRel U sh x fv) : FvRel U' sh (turnV sh g x) fv := by
  have all5 : ∀ (hi : ∀ y ∈ x.items, y.kind = 5), ∀ y ∈ x.items, mapKids g y = g y := fun hi y hy => vR (hi y hy)
  cases fv with
  | text s => obtain ⟨rfl, h2⟩ := hf; exact ⟨rfl, h2⟩
  | bool s => obtain ⟨rfl, h2⟩ := hf; exact ⟨rfl, h2⟩
  | int s => obtain ⟨rfl, h2⟩ := hf; exact ⟨rfl, h2⟩
  | numI s => obtain ⟨rfl, h2⟩ := hf; exact ⟨rfl, h2⟩
  | numF s => obtain ⟨rfl, h2⟩ := hf; exact ⟨rfl, h2⟩
  | sbS b =>
    obtain ⟨rfl, h5, hu⟩ := hf
    have e : turnV 6 g x = g x := by simp [turnV, h5]
    rw [e]
    exact ⟨rfl, hg x, h b x (by simp [fkids]) (by simp [kidsOf, h5]) hu⟩
  | sbB s =>
    obtain ⟨rfl, h1, h2⟩ := hf
    have e : turnV 6 g x = x := by simp [turnV, h1]
    rw [e]
    exact ⟨rfl, h1, h2⟩
  | itS b =>
    obtain ⟨rfl, h5, hu⟩ := hf
    have e : turnV 7 g x = g x := by simp [turnV, h5]
    rw [e]
    exact ⟨rfl, hg x, h b x (by simp [fkids]) (by simp [kidsOf, h5]) hu⟩
  | itL bs =>
    obtain ⟨rfl, h4, hu⟩ := hf
    have hi : ∀ y ∈ x.items, y.kind = 5 := by simpa [FitLoc, h4] using hfit
    have e : turnV 7 g x = turnAll g x := by simp [turnV, h4]
    rw [e]
    refine ⟨rfl, h4, ?_⟩
    show All2 U' bs (x.items.map (mapKids g))
    exact hu.map fun a b ha hb hab => by rw [all5 hi b hb]; exact h a b ha (by rw [kids7l h4 hi]; exact hb) hab
  | texts l => obtain ⟨rfl, h2⟩ := hf; exact ⟨rfl, h2⟩
  | named l =>
    obtain ⟨rfl, ps, hp, hu⟩ := hf
    have hi : ∀ y ∈ x.items, y.kind = 5 := by
      have : x.kind = 5 ∧ ∀ x' ∈ x.items, x'.kind = 5 := by simpa [FitLoc] using hfit
      exact this.2
    have e : turnV 9 g x = turnAll g x := by simp [turnV]
    rw [e]
    refine ⟨rfl, ps.map (fun p => (p.1, mapKids g p.2)), ?_, ?_⟩
    · show (ps.map _).Perm (x.keys.zip (x.items.map (mapKids g)))
      rw [zip_mapR]
      exact hp.map _
    · exact hu.map fun a b ha hb hab => by
        have hm := (List.of_mem_zip (hp.mem_iff.1 hb)).2
        refine ⟨hab.1, ?_⟩
        show U' a.2 (mapKids g b.2)
        rw [all5 hi _ hm]
        exact h a.2 b.2 (List.mem_map.2 ⟨a, ha, rfl⟩) (by rw [kids9 hi]; exact hm) hab.2
  | deps l => obtain ⟨rfl, h2⟩ := hf; exact ⟨rfl, h2⟩
  | enums l => obtain ⟨rfl, h2⟩ := hf; exact ⟨rfl, h2⟩
  | tyS s => obtain ⟨rfl, h2⟩ := hf; exact ⟨rfl, h2⟩
  | tyL l => obtain ⟨rfl, h2⟩ := hf; exact ⟨rfl, h2⟩
  | list bs =>
    obtain ⟨rfl, hu⟩ := hf
    have hi : ∀ y ∈ x.items, y.kind = 5 := by
      have : x.kind = 4 ∧ ∀ x' ∈ x.items, x'.kind = 5 := by simpa [FitLoc] using hfit
      exact this.2
    have e : turnV 13 g x = turnAll g x := by simp [turnV]
    rw [e]
    refine ⟨rfl, ?_⟩
    show All2 U' bs (x.items.map (mapKids g))
    exact hu.map fun a b ha hb hab => by rw [all5 hi b hb]; exact h a b ha (by rw [kids13 hi]; exact hb) hab
  | one b =>
    obtain ⟨rfl, hu⟩ := hf
    exact ⟨rfl, h b x (by simp [fkids]) (by simp [kidsOf]) hu⟩
  | any => exact hf
def kidsV (v : V) : List V := (v.keys.zip v.items).flatMap (fun p => kidsOf (shapeOf p.1) p.2)
theorem uT {v z : V} (h : z ∈ kidsV v) : SizeOf.sizeOf z < SizeOf.sizeOf v := by
 obtain ⟨p, hp, hz⟩ := List.mem_flatMap.1 h
 exact Nat.lt_of_le_of_lt (uX hz) (xA (List.of_mem_zip hp).2)
noncomputable def DeepV (p : V → Prop) : V → Prop := V.fix (α := Prop) (fun v f => p v ∧ ∀ z ∈ kidsV v, f z)
theorem rM (p : V → Prop) (v : V) : DeepV p v ↔ p v ∧ ∀ z ∈ kidsV v, DeepV p z := by
 have := V.fix_eq (α := Prop) (G := fun v f => p v ∧ ∀ z ∈ kidsV v, f z) (fun t g g' h => by
  have : (∀ z ∈ kidsV t, g z) ↔ ∀ z ∈ kidsV t, g' z := ⟨fun a z hz => by rw [← h z (uT hz)]; exact a z hz, fun a z hz => by rw [h z (uT hz)]; exact a z hz⟩
  simp only [this]) v
 show V.fix _ v ↔ _
 rw [this]
 rfl
theorem rF {v x z : V} {key : ByteArray} (hp : Pl v) (hk : v.kind = 5) (h : getV v key = some x) (hz : z ∈ kidsOf (shapeOf key) x) : z ∈ kidsV v :=
 List.mem_flatMap.2 ⟨(key, x), (vA hp hk).2 h, hz⟩
theorem kid_pl {v z : V} (hp : Pl v) (h : z ∈ kidsV v) : Pl z := by
 obtain ⟨p, hpm, hz⟩ := List.mem_flatMap.1 h
 exact pl_kid hp (List.of_mem_zip hpm).2 hz
theorem kid_shape {v z : V} (hp : Pl v) (hs : IsShape v) (h : z ∈ kidsV v) : IsShape z := by
 obtain ⟨p, hpm, hz⟩ := List.mem_flatMap.1 h
 exact (rE hs ((vA hp hs.kind).1 (show (p.1, p.2) ∈ _ from hpm))).2.1 z hz

def kidIdx : List Nat := [14, 15, 22, 23, 24, 28, 29, 30, 31, 32]
inductive Rch (σ : Sig) : Nat → Nat → Prop where
  | refl (b : Nat) : Rch σ b b
  | step {b c d i : Nat} {f : Flds} (h : σ b = some f) (hi : i ∈ kidIdx) (hc : c ∈ kidsAt f i) (r : Rch σ c d) : Rch σ b d
theorem kid_idx {U : Nat → V → Prop} {i : Nat} {x : V} {fv : FVal} {c : Nat} (h1 : 1 ≤ i) (h2 : i ≤ 36) (h : FvRel U (shIdx i) x fv) (hc : c ∈ fkids fv) : i ∈ kidIdx := by
  have key : shIdx i = 5 ∨ shIdx i = 6 ∨ shIdx i = 7 ∨ shIdx i = 9 ∨ shIdx i = 13 → i ∈ kidIdx := by
    have : ∀ i : Fin 37, shIdx i.1 = 5 ∨ shIdx i.1 = 6 ∨ shIdx i.1 = 7 ∨ shIdx i.1 = 9 ∨ shIdx i.1 = 13 → i.1 ∈ kidIdx := by decide
    exact this ⟨i, by omega⟩
  cases fv with
  | sbS b => exact key (.inr (.inl h.1))
  | itS b => exact key (.inr (.inr (.inl h.1)))
  | itL bs => exact key (.inr (.inr (.inl h.1)))
  | named l => exact key (.inr (.inr (.inr (.inl h.1))))
  | list bs => exact key (.inr (.inr (.inr (.inr h.1))))
  | one b => exact key (.inl h.1)
  | _ => simp [fkids] at hc
end Go.Jw

namespace Go.Jw
open Go Go.RowKit Go.Proofs
set_option maxRecDepth 8000
theorem kid_allG {g : V → V} {x : V} (h : ∀ y ∈ x.items, y.kind = 5) {p : V → Prop} (hs : ∀ y ∈ x.items, p (g y)) : ∀ z ∈ (turnAll g x).items, p z := by
 intro z hz
 unfold turnAll at hz
 simp only [V.items] at hz
 obtain ⟨y, hy, rfl⟩ := List.mem_map.1 hz
 rw [vR (h y hy)]
 exact hs y hy
theorem shape_turnG {g : V → V} {sh : Int} {x : V} (hf : FitLoc sh x) (h : ∀ y ∈ kidsOf sh x, IsShape (g y)) : FitLoc sh (turnV sh g x) ∧ ∀ y ∈ kidsOf sh (turnV sh g x), IsShape y := by
 unfold turnV
 split
 ·rename_i h5
  subst h5
  exact fits5.2 (h x (by simp [kidsOf]))
 split
 ·rename_i h6
  subst h6
  split
  ·rename_i hk
   exact fits6.2 (.inr (h x (by rw [kids6 hk]; simp)))
  ·rename_i hk
   have hf' : x.kind = 1 ∨ x.kind = 5 := by simpa [FitLoc] using hf
   exact fits6.2 (.inl (hf'.resolve_right hk))
 split
 ·rename_i h7
  subst h7
  split
  ·rename_i hk
   exact fits7.2 (.inl (h x (by rw [kids7 hk]; simp)))
  ·rename_i hk
   have hf' : x.kind = 5 ∨ (x.kind = 4 ∧ ∀ x' ∈ x.items, x'.kind = 5) := by simpa [FitLoc] using hf
   have h4 := hf'.resolve_left hk
   exact fits7.2 (.inr ⟨h4.1, kid_allG h4.2 fun y hy => h y (by rw [kids7l h4.1 h4.2]; exact hy)⟩)
 split
 ·rename_i h9
  rcases h9 with h9 | h9
  ·subst h9
   have hf' : x.kind = 5 ∧ ∀ x' ∈ x.items, x'.kind = 5 := by simpa [FitLoc] using hf
   exact fits9.2 ⟨hf'.1, kid_allG hf'.2 fun y hy => h y (by rw [kids9 hf'.2]; exact hy)⟩
  ·subst h9
   have hf' : x.kind = 4 ∧ ∀ x' ∈ x.items, x'.kind = 5 := by simpa [FitLoc] using hf
   exact fits13.2 ⟨hf'.1, kid_allG hf'.2 fun y hy => h y (by rw [kids13 hf'.2]; exact hy)⟩
 ·rename_i h5 h6 h7 h9
  refine ⟨hf, fun y hy => ?_⟩
  unfold kidsOf at hy
  rw [if_neg h5, if_neg h6, if_neg h7, if_neg h9] at hy
  cases hy
theorem kids_turn {g : V → V} (hg : ∀ z, (g z).kind = 5) {sh : Int} {x z : V} (hf : FitLoc sh x) (h : z ∈ kidsOf sh (turnV sh g x)) : ∃ y ∈ kidsOf sh x, z = g y := by
 have all : ∀ (hi : ∀ y ∈ x.items, y.kind = 5), z ∈ (turnAll g x).items → ∃ y ∈ x.items, z = g y := fun hi hz => by
  unfold turnAll at hz
  simp only [V.items] at hz
  obtain ⟨y, hy, rfl⟩ := List.mem_map.1 hz
  exact ⟨y, hy, by rw [vR (hi y hy)]⟩
 unfold turnV at h
 split at h
 ·rename_i h5
  subst h5
  simp [kidsOf] at h
  exact ⟨x, by simp [kidsOf], h⟩
 split at h
 ·rename_i h6
  subst h6
  split at h
  ·rename_i hk
   rw [kids6 (hg x)] at h
   exact ⟨x, by rw [kids6 hk]; simp, List.mem_singleton.1 h⟩
  ·rename_i hk
   exact ⟨z, h, by simp [kidsOf, hk] at h⟩
 split at h
 ·rename_i h7
  subst h7
  split at h
  ·rename_i hk
   rw [kids7 (hg x)] at h
   exact ⟨x, by rw [kids7 hk]; simp, List.mem_singleton.1 h⟩
  ·rename_i hk
   have hf' : x.kind = 5 ∨ (x.kind = 4 ∧ ∀ x' ∈ x.items, x'.kind = 5) := by simpa [FitLoc] using hf
   have h4 := hf'.resolve_left hk
   rw [kids7l h4.1 h4.2]
   refine all h4.2 ?_
   have hk' : ¬ (turnAll g x).kind = 5 := hk
   simp only [kidsOf, hk'] at h
   simp at h
   exact h.1
 split at h
 ·rename_i h9
  have hf' : ∀ x' ∈ x.items, x'.kind = 5 := by
   rcases h9 with h9 | h9
   ·subst h9
    have : x.kind = 5 ∧ ∀ x' ∈ x.items, x'.kind = 5 := by simpa [FitLoc] using hf
    exact this.2
   ·subst h9
    have : x.kind = 4 ∧ ∀ x' ∈ x.items, x'.kind = 5 := by simpa [FitLoc] using hf
    exact this.2
  have e : kidsOf sh x = x.items := by
   rcases h9 with h9 | h9
   ·subst h9; exact kids9 hf'
   ·subst h9; exact kids13 hf'
  rw [e]
  refine all hf' ?_
  rcases h9 with h9 | h9 <;> subst h9 <;> simp [kidsOf] at h <;> exact h.1
 ·rename_i h5 h6 h7 h9
  unfold kidsOf at h
  rw [if_neg h5, if_neg h6, if_neg h7, if_neg h9] at h
  cases h
theorem kw_of_sh {key : ByteArray} {i : Nat} (h : kwIdx key = i) (h0 : i ≠ 0) : shapeOf key = shIdx i := by rw [kw_sh (by rw [h]; exact h0), h]
theorem kw_isKw {key : ByteArray} (h : kwIdx key ≠ 0) : isKw key = true := by
  have hs : shapeOf key = shIdx (kwIdx key) := kw_sh h
  unfold isKw
  rw [hs]
  refine decide_eq_true ?_
  rcases kw_case (key := key) with ⟨_, hm⟩ | h0
  · have : ∀ q ∈ [35, 36, 32, 31, 30, 29, 28, 26, 20, 19, 18, 17, 16, 14, 13, 12, 11, 10, 9, 8, 7, 6, 3, 25, 23, 24, 22, 21, 34, 15, 27, 1, 2, 33], shIdx q ≠ 0 := by decide
    exact this _ hm
  · exact absurd h0 h
theorem shape_norm (v : V) : IsShape v → Pl v → IsShape (normalV v) := by
  refine V.indS (p := fun v => IsShape v → Pl v → IsShape (normalV v)) (fun v IH hs hp => ?_) v
  refine shape_get (sY hs hp) (uS v) fun key y hy => ?_
  rw [pP hs hp] at hy
  split at hy
  · cases hx : getV v key with
    | none => rw [hx] at hy; cases hy
    | some x =>
      rw [hx] at hy
      injection hy with hy
      subst hy
      obtain ⟨h1, h2, h3⟩ := rE hs hx
      obtain ⟨h4, h5⟩ := shape_turnG (g := normalV) h1 (fun z hz => IH z (uT (rF hp hs.kind hx hz)) (h2 z hz) (kid_pl hp (rF hp hs.kind hx hz)))
      refine ⟨h4, h5, fun he => ?_⟩
      obtain ⟨u, hu, hf⟩ := h3 he
      refine ⟨turnV (shapeOf kSchema) normalV u, ?_, ?_⟩
      · rw [pP hs hp, if_pos (by decide +kernel), hu]; rfl
      · rw [shape_schema]; exact hf
  · cases hy
theorem unf_normal {G : Gr} (v : V) : ∀ b, Pl v → IsShape v → Unf G v b → Unf G (normalV v) b := by
  refine V.indS (p := fun v => ∀ b, Pl v → IsShape v → Unf G v b → Unf G (normalV v) b) (fun v IH b hp hs hu => ?_) v
  obtain ⟨f, hat, hU⟩ := (uY G v b).1 hu
  refine (uY G _ b).2 ⟨f, hat, fun i hi hj => ?_⟩
  have := hU i hi hj
  cases hfi : f i with
  | none =>
    rw [hfi] at this
    intro key hkw
    rw [pP hs hp, this key hkw]
    split <;> rfl
  | some fv =>
    rw [hfi] at this
    obtain ⟨key, x, hkw, hx, hrel⟩ := this
    have hsh := kw_of_sh hkw (by omega)
    refine ⟨key, turnV (shapeOf key) normalV x, hkw, by rw [pP hs hp, if_pos (kw_isKw (by rw [hkw]; omega)), hx]; rfl, ?_⟩
    have hfit := rE hs hx
    rw [hsh] at hfit ⊢
    refine FvRel.turn uS hfit.1 (fun c z hc hz huc => ?_) hrel
    have hzk : z ∈ kidsV v := rF hp hs.kind hx (by rw [hsh]; exact hz)
    exact IH z (uT hzk) c (kid_pl hp hzk) (kid_shape hp hs hzk) huc
theorem kidsV_norm {v z : V} (hp : Pl v) (hs : IsShape v) (h : z ∈ kidsV (normalV v)) : ∃ y ∈ kidsV v, z = normalV y := by
  obtain ⟨p, hpm, hz⟩ := List.mem_flatMap.1 h
  have hg := (vA (sY hs hp) (uS v)).1 (show (p.1, p.2) ∈ _ from hpm)
  rw [pP hs hp] at hg
  split at hg
  · cases hx : getV v p.1 with
    | none => rw [hx] at hg; cases hg
    | some x =>
      rw [hx] at hg
      injection hg with hg
      rw [← hg] at hz
      obtain ⟨y, hy, rfl⟩ := kids_turn uS (rE hs hx).1 hz
      exact ⟨y, rF hp hs.kind hx hy, rfl⟩
  · cases hg
theorem deep_norm {p q : V → Prop} (hpq : ∀ v, Pl v → IsShape v → p v → q (normalV v)) (v : V) : Pl v → IsShape v → DeepV p v → DeepV q (normalV v) := by
 refine V.indS (p := fun v => Pl v → IsShape v → DeepV p v → DeepV q (normalV v)) (fun v IH hp hs hd => ?_) v
 obtain ⟨h1, h2⟩ := (rM _ _).1 hd
 refine (rM _ _).2 ⟨hpq v hp hs h1, fun z hz => ?_⟩
 obtain ⟨y, hy, rfl⟩ := kidsV_norm hp hs hz
 exact IH y (uT hy) (kid_pl hp hy) (kid_shape hp hs hy) (h2 y hy)
theorem deep_true {p : V → Prop} (h : ∀ v, p v) (v : V) : DeepV p v :=
 V.indS (p := fun v => DeepV p v) (fun v IH => (rM _ _).2 ⟨h v, fun z hz => IH z (uT hz)⟩) v
def Kw1 (v : V) : Prop := ∀ k ∈ v.keys, isKw k = true
theorem kw1_norm (v : V) : Kw1 (normalV v) := by
 intro k hk
 rw [tN] at hk
 obtain ⟨p, hp, rfl⟩ := List.mem_map.1 hk
 exact (List.mem_filter.1 hp).2
theorem turn_fix {g : V → V} {sh : Int} {x : V} (hp : Pl x) (hf : FitLoc sh x) (h : ∀ y ∈ kidsOf sh x, g y = y) : turnV sh g x = x := by
  have all : (x.kind = 4 ∨ x.kind = 5) → (∀ y ∈ x.items, y.kind = 5) → (∀ y ∈ x.items, g y = y) → turnAll g x = x := by
    intro hk hi hfix
    have e : x.items.map (mapKids g) = x.items := by
      conv => rhs; rw [← List.map_id x.items]
      exact List.map_congr_left fun y hy => by rw [vR (hi y hy), hfix y hy]; rfl
    unfold turnAll
    rw [e]
    obtain ⟨d, hd⟩ := hp
    obtain ⟨q, m, s, ks, ts⟩ := x
    simp only [V.kind, V.keys, V.items] at hk ⊢
    cases d with
    | zero => exact absurd hd (uP hk)
    | succ d =>
      obtain ⟨⟨h1, h2, _⟩, _⟩ := (wX hk).1 hd
      rw [h1, h2]
  unfold turnV
  split
  · rename_i h5; subst h5; exact h x (by simp [kidsOf])
  split
  · rename_i h6; subst h6
    split
    · rename_i hk; exact h x (by rw [kids6 hk]; simp)
    · rfl
  split
  · rename_i h7; subst h7
    split
    · rename_i hk; exact h x (by rw [kids7 hk]; simp)
    · rename_i hk
      have hf' : x.kind = 5 ∨ (x.kind = 4 ∧ ∀ x' ∈ x.items, x'.kind = 5) := by simpa [FitLoc] using hf
      have h4 := hf'.resolve_left hk
      exact all (.inl h4.1) h4.2 (fun y hy => h y (by rw [kids7l h4.1 h4.2]; exact hy))
  split
  · rename_i h9
    rcases h9 with h9 | h9
    · subst h9
      have hf' : x.kind = 5 ∧ ∀ x' ∈ x.items, x'.kind = 5 := by simpa [FitLoc] using hf
      exact all (.inr hf'.1) hf'.2 (fun y hy => h y (by rw [kids9 hf'.2]; exact hy))
    · subst h9
      have hf' : x.kind = 4 ∧ ∀ x' ∈ x.items, x'.kind = 5 := by simpa [FitLoc] using hf
      exact all (.inl hf'.1) hf'.2 (fun y hy => h y (by rw [kids13 hf'.2]; exact hy))
  · rfl
theorem normal_fix (w : V) : Pl w → IsShape w → DeepV Kw1 w → normalV w = w := by
 refine V.indS (p := fun w => Pl w → IsShape w → DeepV Kw1 w → normalV w = w) (fun w IH hp hs hd => ?_) w
 obtain ⟨h1, h2⟩ := (rM _ _).1 hd
 have hm := sX hp hs.kind
 rw [tN]
 unfold filterV
 have e : (w.keys.zip w.items).filter (fun p => isKw p.1) = w.keys.zip w.items := List.filter_eq_self.2 fun p hpm => h1 _ (List.of_mem_zip hpm).1
 have e2 : (w.keys.zip w.items).map (fun p => turnV (shapeOf p.1) normalV p.2) = (w.keys.zip w.items).map (fun p => p.2) := List.map_congr_left fun p hpm => by
  have hg := (vA hp hs.kind).1 (show (p.1, p.2) ∈ _ from hpm)
  refine turn_fix (hp.item _ (List.of_mem_zip hpm).2) (rE hs hg).1 fun y hy => ?_
  have hyk := rF hp hs.kind hg hy
  exact IH y (uT hyk) (kid_pl hp hyk) (kid_shape hp hs hyk) (h2 y hyk)
 rw [e, e2]
 have e3 : (w.keys.zip w.items).map (·.1) = w.keys := List.map_fst_zip (by rw [hm.2.1]; exact Nat.le_refl _)
 have e4 : (w.keys.zip w.items).map (fun p => p.2) = w.items := List.map_snd_zip (by rw [hm.2.1]; exact Nat.le_refl _)
 rw [e3, e4]
 exact hm.1.symm
end Go.Jw

namespace Go.Jw
open Go Go.RowKit Go.Proofs
set_option maxRecDepth 8000
end Go.Jw

namespace Go.Jw
open Go Go.RowKit Go.Proofs
set_option maxRecDepth 8000
noncomputable def USig (σ : Sig) : V → Nat → Prop := V.fix (α := Nat → Prop) (fun v r b => ∃ f, σ b = some f ∧ ∀ i, 1 ≤ i → i ≤ 36 → FldRel (fun b x => r x b) v i (f i))
theorem pQ (σ : Sig) (v : V) (b : Nat) : USig σ v b ↔ ∃ f, σ b = some f ∧ ∀ i, 1 ≤ i → i ≤ 36 → FldRel (fun b x => USig σ x b) v i (f i) := by
 have := V.fix_eq (α := Nat → Prop) (G := fun v r b => ∃ f, σ b = some f ∧ ∀ i, 1 ≤ i → i ≤ 36 → FldRel (fun b x => r x b) v i (f i)) (fun t g g' h => by
  funext b
  apply propext
  constructor
  ·rintro ⟨f, h1, h2⟩
   exact ⟨f, h1, fun i hi hj => (h2 i hi hj).mono fun b x hx hu => by rw [← h x hx]; exact hu⟩
  ·rintro ⟨f, h1, h2⟩
   exact ⟨f, h1, fun i hi hj => (h2 i hi hj).mono fun b x hx hu => by rw [h x hx]; exact hu⟩) v
 show V.fix (α := Nat → Prop) _ v b ↔ _
 rw [this]
 rfl
theorem unf_usig {G : Gr} {σ : Sig} (h : GOk G σ) (v : V) : ∀ b, Unf G v b ↔ USig σ v b := by
 refine V.indS (p := fun v => ∀ b, Unf G v b ↔ USig σ v b) (fun v IH b => ?_) v
 rw [uY, pQ]
 constructor
 ·rintro ⟨f, h1, h2⟩
  exact ⟨f, (h.2 b f).1 h1, fun i hi hj => (h2 i hi hj).mono fun c x hx hu => (IH x hx c).1 hu⟩
 ·rintro ⟨f, h1, h2⟩
  exact ⟨f, (h.2 b f).2 h1, fun i hi hj => (h2 i hi hj).mono fun c x hx hu => (IH x hx c).2 hu⟩
theorem FvRel.kid {U : Nat → V → Prop} {sh : Int} {x : V} {fv : FVal} {c : Nat} (hfit : FitLoc sh x) (h : FvRel U sh x fv) (hc : c ∈ fkids fv) : ∃ z ∈ kidsOf sh x, U c z := by
  have get : ∀ (bs : List Nat) (l : List V), All2 U bs l → c ∈ bs → ∃ z ∈ l, U c z := fun bs l h2 hm => by
    obtain ⟨i, hi, rfl⟩ := List.getElem_of_mem hm
    have hi' : i < l.length := by rw [← h2.1]; exact hi
    exact ⟨l[i], List.getElem_mem hi', h2.2 i _ _ (List.getElem?_eq_getElem hi) (List.getElem?_eq_getElem hi')⟩
  cases fv with
  | sbS b => obtain ⟨rfl, h5, hu⟩ := h; exact ⟨x, by simp [kidsOf, h5], by rw [List.mem_singleton.1 hc]; exact hu⟩
  | itS b => obtain ⟨rfl, h5, hu⟩ := h; exact ⟨x, by simp [kidsOf, h5], by rw [List.mem_singleton.1 hc]; exact hu⟩
  | itL bs =>
    obtain ⟨rfl, h4, hu⟩ := h
    have hi : ∀ y ∈ x.items, y.kind = 5 := by simpa [FitLoc, h4] using hfit
    rw [kids7l h4 hi]
    exact get bs _ hu hc
  | named l =>
    obtain ⟨rfl, ps, hp, hu⟩ := h
    have hi : ∀ y ∈ x.items, y.kind = 5 := by
      have : x.kind = 5 ∧ ∀ x' ∈ x.items, x'.kind = 5 := by simpa [FitLoc] using hfit
      exact this.2
    rw [kids9 hi]
    obtain ⟨q, hq, rfl⟩ := List.mem_map.1 hc
    obtain ⟨i, hi, rfl⟩ := List.getElem_of_mem hq
    have hi' : i < ps.length := by rw [← hu.1]; exact hi
    exact ⟨ps[i].2, (List.of_mem_zip (hp.mem_iff.1 (List.getElem_mem hi'))).2, (hu.2 i _ _ (List.getElem?_eq_getElem hi) (List.getElem?_eq_getElem hi')).2⟩
  | list bs =>
    obtain ⟨rfl, hu⟩ := h
    have hi : ∀ y ∈ x.items, y.kind = 5 := by
      have : x.kind = 4 ∧ ∀ x' ∈ x.items, x'.kind = 5 := by simpa [FitLoc] using hfit
      exact this.2
    rw [kids13 hi]
    exact get bs _ hu hc
  | one b => obtain ⟨rfl, hu⟩ := h; exact ⟨x, by simp [kidsOf], by rw [List.mem_singleton.1 hc]; exact hu⟩
  | _ => simp [fkids] at hc
def FvOk (sh : Int) : FVal → Prop
  | .text _ => sh = 1
  | .bool _ => sh = 2
  | .int _ => sh = 4
  | .numI _ => sh = 3
  | .numF _ => sh = 3
  | .sbS _ => sh = 6
  | .sbB _ => sh = 6
  | .itS _ => sh = 7
  | .itL _ => sh = 7
  | .texts _ => sh = 8
  | .named _ => sh = 9
  | .deps _ => sh = 10
  | .enums _ => sh = 11
  | .tyS _ => sh = 12
  | .tyL _ => sh = 12
  | .list _ => sh = 13
  | .one _ => sh = 5
  | .any => sh = 14
theorem FvRel.ok {U : Nat → V → Prop} {sh : Int} {x : V} {fv : FVal} (h : FvRel U sh x fv) : FvOk sh fv := by
 cases fv <;> first | exact h.1 | exact h
def FT (f : Flds) : Prop := ∀ i fv, 1 ≤ i → i ≤ 36 → f i = some fv → FvOk (shIdx i) fv
theorem usig_ft {σ : Sig} {v : V} {b : Nat} (h : USig σ v b) : ∃ f, σ b = some f ∧ FT f := by
 obtain ⟨f, h1, h2⟩ := (pQ σ v b).1 h
 refine ⟨f, h1, fun i fv hi hj hf => ?_⟩
 have := h2 i hi hj
 rw [hf] at this
 obtain ⟨key, x, _, _, hr⟩ := this
 exact hr.ok
theorem kidIdx_le : ∀ i ∈ kidIdx, 1 ≤ i ∧ i ≤ 36 := by decide
theorem usig_kid {σ : Sig} {v : V} {b c i : Nat} {f : Flds} (hp : Pl v) (hs : IsShape v) (h : USig σ v b) (hf : σ b = some f) (hi : i ∈ kidIdx) (hc : c ∈ kidsAt f i) : ∃ z ∈ kidsV v, USig σ z c := by
  obtain ⟨f', h1, h2⟩ := (pQ σ v b).1 h
  rw [hf] at h1
  injection h1 with h1
  subst h1
  have hle := kidIdx_le i hi
  have := h2 i hle.1 hle.2
  unfold kidsAt at hc
  cases hfi : f i with
  | none => rw [hfi] at hc; cases hc
  | some fv =>
    rw [hfi] at this hc
    obtain ⟨key, x, hkw, hx, hr⟩ := this
    have hsh := kw_of_sh hkw (by omega)
    have hfit := (rE hs hx).1
    rw [hsh] at hfit
    obtain ⟨z, hz, hu⟩ := hr.kid hfit hc
    exact ⟨z, rF hp hs.kind hx (by rw [hsh]; exact hz), hu⟩
theorem least_nat {p : Nat → Prop} (n : Nat) : p n → ∃ m, p m ∧ ∀ k, p k → m ≤ k := by
  induction n using Nat.strongRecOn with
  | _ n ih =>
    intro hn
    by_cases h : ∃ k, k < n ∧ p k
    · obtain ⟨k, hk, hp⟩ := h
      exact ih k hk hp
    · exact ⟨n, hn, fun k hk => Nat.le_of_not_lt fun hlt => h ⟨k, hlt, hk⟩⟩
structure GoodV (good : V → Prop) : Prop where
 pl : ∀ v, good v → Pl v
 shape : ∀ v, good v → IsShape v
 kid : ∀ v, good v → ∀ z ∈ kidsV v, good z
def SGood (good : V → Prop) (σ : Sig) (d : Nat) : Prop := ∃ v, good v ∧ USig σ v d
theorem tree_mu {good : V → Prop} (hg : GoodV good) (σ : Sig) : ∃ mu : Nat → Nat, ∀ d, SGood good σ d → ∃ f, σ d = some f ∧ FT f ∧ ∀ i ∈ kidIdx, ∀ c ∈ kidsAt f i, SGood good σ c ∧ mu c < mu d := by
 have hex : ∀ d, ∃ m : Nat, SGood good σ d → (∃ v, good v ∧ USig σ v d ∧ SizeOf.sizeOf v = m) ∧ ∀ v, good v → USig σ v d → m ≤ SizeOf.sizeOf v := fun d => by
  by_cases h : SGood good σ d
  ·obtain ⟨v, h1, h2⟩ := h
   obtain ⟨m, hm, hl⟩ := least_nat (p := fun m => ∃ v, good v ∧ USig σ v d ∧ SizeOf.sizeOf v = m) _ ⟨v, h1, h2, rfl⟩
   exact ⟨m, fun _ => ⟨hm, fun v h1 h2 => hl _ ⟨v, h1, h2, rfl⟩⟩⟩
  ·exact ⟨0, fun h' => absurd h' h⟩
 refine ⟨fun d => Classical.choose (hex d), fun d hd => ?_⟩
 obtain ⟨⟨v, h1, h2, h3⟩, _⟩ := Classical.choose_spec (hex d) hd
 obtain ⟨f, hf, hft⟩ := usig_ft h2
 refine ⟨f, hf, hft, fun i hi c hc => ?_⟩
 obtain ⟨z, hz, hu⟩ := usig_kid (hg.pl v h1) (hg.shape v h1) h2 hf hi hc
 have hc' : SGood good σ c := ⟨z, hg.kid v h1 z hz, hu⟩
 refine ⟨hc', ?_⟩
 have hle := (Classical.choose_spec (hex c) hc').2 z (hg.kid v h1 z hz) hu
 have hlt := uT hz
 show Classical.choose (hex c) < Classical.choose (hex d)
 omega
end Go.Jw

namespace Go.Jw
open Go Go.RowKit Go.Proofs
set_option maxRecDepth 8000
theorem All2.mono2 {α β : Type} {R R' : α → β → Prop} {l : List α} {l' : List β} (h : ∀ a b, a ∈ l → b ∈ l' → R a b → R' a b) (h2 : All2 R l l') : All2 R' l l' :=
 ⟨h2.1, fun i a b ha hb => h a b (List.mem_of_getElem? ha) (List.mem_of_getElem? hb) (h2.2 i a b ha hb)⟩
theorem FvRel.monoK {U U' : Nat → V → Prop} {sh : Int} {v : V} {fv : FVal} (h : ∀ c x, c ∈ fkids fv → SizeOf.sizeOf x ≤ SizeOf.sizeOf v → U c x → U' c x) (hf : FvRel U sh v fv) : FvRel U' sh v fv := by
  have hi : ∀ c x, c ∈ fkids fv → x ∈ v.items → U c x → U' c x := fun c x hc hx => h c x hc (Nat.le_of_lt (xA hx))
  cases fv with
  | sbS b => exact ⟨hf.1, hf.2.1, h b v (by simp [fkids]) (Nat.le_refl _) hf.2.2⟩
  | itS b => exact ⟨hf.1, hf.2.1, h b v (by simp [fkids]) (Nat.le_refl _) hf.2.2⟩
  | itL bs => exact ⟨hf.1, hf.2.1, hf.2.2.mono2 hi⟩
  | named l =>
    obtain ⟨h1, ps, h2, h3⟩ := hf
    exact ⟨h1, ps, h2, h3.mono2 fun q p hq hp hr => ⟨hr.1, hi _ _ (List.mem_map.2 ⟨q, hq, rfl⟩) (List.of_mem_zip (h2.mem_iff.1 hp)).2 hr.2⟩⟩
  | list bs => exact ⟨hf.1, hf.2.mono2 hi⟩
  | one b => exact ⟨hf.1, h b v (by simp [fkids]) (Nat.le_refl _) hf.2⟩
  | text s => exact hf
  | bool x => exact hf
  | int n => exact hf
  | numI n => exact hf
  | numF n => exact hf
  | sbB x => exact hf
  | texts l => exact hf
  | deps l => exact hf
  | enums l => exact hf
  | tyS s => exact hf
  | tyL l => exact hf
  | any => exact hf
theorem fldRel_monoK {U U' : Nat → V → Prop} {v : V} {i : Nat} {f : Flds} (h1 : 1 ≤ i) (h2 : i ≤ 36) (h : ∀ c x, i ∈ kidIdx → c ∈ kidsAt f i → SizeOf.sizeOf x < SizeOf.sizeOf v → U c x → U' c x) (hf : FldRel U v i (f i)) : FldRel U' v i (f i) := by
  cases hfi : f i with
  | none => rw [hfi] at hf; exact hf
  | some fv =>
    rw [hfi] at hf
    obtain ⟨key, x, a, b, hr⟩ := hf
    exact ⟨key, x, a, b, hr.monoK fun c y hc hy hu => h c y (kid_idx h1 h2 hr hc) (by unfold kidsAt; rw [hfi]; exact hc) (Nat.lt_of_le_of_lt hy (xA (getV_mem b))) hu⟩
theorem usig_agree {σ σ' : Sig} (v : V) : ∀ b, (∀ d, Rch σ b d → σ' d = σ d) → USig σ v b → USig σ' v b := by
 refine V.indS (p := fun v => ∀ b, (∀ d, Rch σ b d → σ' d = σ d) → USig σ v b → USig σ' v b) (fun v IH b hr hu => ?_) v
 obtain ⟨f, hf, hU⟩ := (pQ _ _ _).1 hu
 exact (pQ _ _ _).2 ⟨f, (hr b (.refl b)).trans hf, fun i hi hj => fldRel_monoK hi hj (fun c x hik hc hx huc => IH x hx c (fun d hd => hr d (.step hf hik hc hd)) huc) (hU i hi hj)⟩
theorem rch_mu {σ : Sig} {S : Nat → Prop} {mu : Nat → Nat} (hm : ∀ d, S d → ∃ f, σ d = some f ∧ ∀ i ∈ kidIdx, ∀ c ∈ kidsAt f i, S c ∧ mu c < mu d) {b d : Nat} (h : Rch σ b d) : S b → S d ∧ (d = b ∨ mu d < mu b) := by
  induction h with
  | refl b => exact fun hs => ⟨hs, .inl rfl⟩
  | step h hi hc r ih =>
    intro hs
    obtain ⟨f', h', hk⟩ := hm _ hs
    rw [h] at h'
    injection h' with h'
    subst h'
    obtain ⟨h1, h2⟩ := hk _ hi _ hc
    obtain ⟨h3, h4⟩ := ih h1
    refine ⟨h3, .inr ?_⟩
    rcases h4 with rfl | h4
    · exact h2
    · exact Nat.lt_trans h4 h2

def setL (l : Prs) (out : V) : V := l.foldl (fun o p => withV o p.1 p.2) out
def mergeV (own out : V) : V := setL (own.keys.zip own.items) out
theorem setL_le {l : Prs} {out : V} (h : out.keys.length ≤ out.items.length) : (setL l out).keys.length ≤ (setL l out).items.length := by
  induction l generalizing out with
  | nil => exact h
  | cons p l ih => exact ih (with_le _ _ _)
theorem setL_get {l : Prs} {out : V} (h : out.keys.length ≤ out.items.length) (hn : (l.map (·.1)).Nodup) (key : ByteArray) : getV (setL l out) key = (lk l key).or (getV out key) := by
  induction l generalizing out with
  | nil => simp [setL, lk_nil]
  | cons p l ih =>
    rw [List.map_cons, List.nodup_cons] at hn
    show getV (setL l (withV out p.1 p.2)) key = _
    rw [ih (with_le _ _ _) hn.2, get_with h, sL]
    by_cases hk : key = p.1
    · subst hk
      have : lk l p.1 = none := by
        cases hl : lk l p.1 with
        | none => rfl
        | some x => exact absurd (List.mem_map.2 ⟨_, lk_mem hl, rfl⟩) hn.1
      rw [if_pos rfl, if_pos rfl, this]
      rfl
    · rw [if_neg hk, if_neg (Ne.symm hk)]
theorem zip_fst_sub (ks : List ByteArray) (ts : List V) : List.Sublist ((ks.zip ts).map (·.1)) ks := by
  induction ks generalizing ts with
  | nil => exact List.Sublist.refl _
  | cons k ks ih => cases ts with
    | nil => exact List.nil_sublist _
    | cons t ts => exact (ih ts).cons_cons k
theorem map_fst_zip' {ks : List ByteArray} {ts : List V} (h : ks.Nodup) : ((ks.zip ts).map (·.1)).Nodup := h.sublist (zip_fst_sub ks ts)
theorem merge_get {own out : V} (ho : own.keys.Nodup) (hl : own.keys.length ≤ own.items.length) (h : out.keys.length ≤ out.items.length) (key : ByteArray) : getV (mergeV own out) key = (getV own key).or (getV out key) := by
 rw [mergeV, setL_get h (map_fst_zip' ho), ← getV_lk hl]
theorem pl_nodup {v : V} (hp : Pl v) (hk : v.kind = 5) : v.keys.Nodup := lt_nodup (sX hp hk).2.2
theorem setL_mem {l : Prs} {out : V} {q : ByteArray × V} (h : q ∈ (setL l out).keys.zip (setL l out).items) : q ∈ l ∨ q ∈ out.keys.zip out.items := by
  induction l generalizing out with
  | nil => exact .inr h
  | cons p l ih =>
    rcases ih (out := withV out p.1 p.2) h with e | e
    · exact .inl (List.mem_cons_of_mem _ e)
    · rw [withV, mkM_zip] at e
      rcases with_mem e with e | e
      · exact .inl (by rw [e]; exact List.mem_cons_self)
      · exact .inr e

noncomputable def copiedV (v o : V) : V := mergeV (normalV o) (normalV v)
def cpyL : List Nat := [1, 2, 6, 7, 8, 9, 10, 11, 12, 13, 14, 15, 16, 17, 18, 19, 20, 21, 22, 23, 24, 25, 26, 27, 28, 29, 30, 31, 32, 33, 34, 35, 36, 3]
def cpy (f s : Flds) : Flds := fun i => if i ∈ cpyL then (s i).or (f i) else f i
theorem cpyL_all : ∀ i : Fin 37, i.1 ∈ cpyL ∨ i.1 = 0 ∨ i.1 = 4 ∨ i.1 = 5 := by decide
theorem kw45 (key : ByteArray) : kwIdx key ≠ 4 ∧ kwIdx key ≠ 5 := by
 rcases kw_case (key := key) with ⟨_, hm⟩ | h0
 ·constructor <;> intro h <;> rw [h] at hm <;> revert hm <;> decide
 ·rw [h0]; decide
theorem fld45 {U : Nat → V → Prop} {v : V} {i : Nat} {o : Option FVal} (h : FldRel U v i o) (hi : i = 4 ∨ i = 5) : o = none := by
  cases o with
  | none => rfl
  | some fv =>
    obtain ⟨key, x, hk, _⟩ := h
    have := kw45 key
    rcases hi with rfl | rfl
    · exact absurd hk this.1
    · exact absurd hk this.2
theorem fld_merge {U : Nat → V → Prop} {own out : V} {i : Nat} {s f : Option FVal} (hget : ∀ key, getV (mergeV own out) key = (getV own key).or (getV out key)) (hs : FldRel U own i s) (hf : FldRel U out i f) : FldRel U (mergeV own out) i (s.or f) := by
  cases s with
  | some fv =>
    obtain ⟨key, x, h1, h2, h3⟩ := hs
    exact ⟨key, x, h1, by rw [hget, h2]; rfl, h3⟩
  | none =>
    cases f with
    | none => intro key hk; rw [hget, hs key hk, hf key hk]; rfl
    | some fv =>
      obtain ⟨key, x, h1, h2, h3⟩ := hf
      exact ⟨key, x, h1, by rw [hget, hs key h1, h2]; rfl, h3⟩
theorem fld_cpy {U : Nat → V → Prop} {own out : V} {i : Nat} {s f : Flds} (h1 : 1 ≤ i) (h2 : i ≤ 36) (hget : ∀ key, getV (mergeV own out) key = (getV own key).or (getV out key)) (hs : FldRel U own i (s i)) (hf : FldRel U out i (f i)) : FldRel U (mergeV own out) i (cpy f s i) := by
 unfold cpy
 split
 ·exact fld_merge hget hs hf
 ·rename_i hn
  have h45 : i = 4 ∨ i = 5 := by
   rcases cpyL_all ⟨i, by omega⟩ with h | h | h
   ·exact absurd h hn
   ·simp only at h; omega
   ·exact h
  rw [fld45 hf h45]
  have := fld_merge hget hs hf
  rw [fld45 hf h45, fld45 hs h45] at this
  exact this
theorem kw1_merge {own out : V} (h1 : Kw1 own) (h2 : Kw1 out) (hk : (mergeV own out).keys.length ≤ (mergeV own out).items.length) : Kw1 (mergeV own out) := by
  intro k hk'
  obtain ⟨i, hi, rfl⟩ := List.getElem_of_mem hk'
  have hm : ((mergeV own out).keys[i], (mergeV own out).items[i]'(by omega)) ∈ (mergeV own out).keys.zip (mergeV own out).items := by
    refine List.mem_of_getElem? (i := i) ?_
    rw [List.getElem?_zip_eq_some]
    exact ⟨List.getElem?_eq_getElem hi, List.getElem?_eq_getElem (by omega)⟩
  rcases setL_mem hm with e | e
  · exact h1 _ (List.of_mem_zip e).1
  · exact h2 _ (List.of_mem_zip e).1
theorem kids_merge {own out z : V} (h : z ∈ kidsV (mergeV own out)) : z ∈ kidsV own ∨ z ∈ kidsV out := by
 obtain ⟨p, hp, hz⟩ := List.mem_flatMap.1 h
 rcases setL_mem hp with e | e
 ·exact .inl (List.mem_flatMap.2 ⟨p, e, hz⟩)
 ·exact .inr (List.mem_flatMap.2 ⟨p, e, hz⟩)
end Go.Jw

namespace Go.Jw
open Go Go.RowKit Go.Proofs
set_option maxRecDepth 8000
theorem c74 (b s mb mb2 : Nat) (cs cs2 : List Value) (f f2 : Flds) : Ct Tryz.prog 74 #[ptr b, ptr s] [.blk b cs 124, .blk s cs2 124] [.flds mb cs f, .flds mb2 cs2 f2] (fun u M' D' => u = .tuple #[] ∧ ∃ cs', M' = [.blk b cs' 124, .blk s cs2 124] ∧ D' = [.flds mb cs' (cpy f f2)]) := by
 refine Ct.of_run (args := [ptr b, ptr s]) Tryz.func74 (by kernel_rfl) rfl Tryz.ntmps74 rfl (fun c => ?_)
 refine zD (xQ 4 1 111 (by decide) (by decide) (by decide) (by decide) sc111 fo124_1 pn111 si111 (fun cs41 => ?_))
 refine zD (xQ 16 2 111 (by decide) (by decide) (by decide) (by decide) sc111 rQ pn111 si111 (fun cs42 => ?_))
 refine zD (xQ 28 6 113 (by decide) (by decide) (by decide) (by decide) sc113 fo124_6 pn113 si113 (fun cs46 => ?_))
 refine zD (xQ 40 7 113 (by decide) (by decide) (by decide) (by decide) sc113 fo124_7 pn113 si113 (fun cs47 => ?_))
 refine zD (xQ 52 8 112 (by decide) (by decide) (by decide) (by decide) sc112 fo124_8 pn112 si112 (fun cs48 => ?_))
 refine zD (xQ 64 9 113 (by decide) (by decide) (by decide) (by decide) sc113 fo124_9 pn113 si113 (fun cs49 => ?_))
 refine zD (xQ 76 10 112 (by decide) (by decide) (by decide) (by decide) sc112 fo124_10 pn112 si112 (fun cs50 => ?_))
 refine zD (xQ 88 11 114 (by decide) (by decide) (by decide) (by decide) sc114 fo124_11 pn114 si114 (fun cs51 => ?_))
 refine zD (xQ 100 12 114 (by decide) (by decide) (by decide) (by decide) sc114 fo124_12 pn114 si114 (fun cs52 => ?_))
 refine zD (xQ 112 13 111 (by decide) (by decide) (by decide) (by decide) sc111 fo124_13 pn111 si111 (fun cs53 => ?_))
 refine zD (xQ 124 14 115 (by decide) (by decide) (by decide) (by decide) sc115 fo124_14 pn115 si115 (fun cs54 => ?_))
 refine zD (xQ 136 15 116 (by decide) (by decide) (by decide) (by decide) sc116 fo124_15 pn116 si116 (fun cs55 => ?_))
 refine zD (xQ 148 16 114 (by decide) (by decide) (by decide) (by decide) sc114 fo124_16 pn114 si114 (fun cs56 => ?_))
 refine zD (xQ 160 17 114 (by decide) (by decide) (by decide) (by decide) sc114 fo124_17 pn114 si114 (fun cs57 => ?_))
 refine zD (xQ 172 18 112 (by decide) (by decide) (by decide) (by decide) sc112 fo124_18 pn112 si112 (fun cs58 => ?_))
 refine zD (xQ 184 19 114 (by decide) (by decide) (by decide) (by decide) sc114 fo124_19 pn114 si114 (fun cs59 => ?_))
 refine zD (xQ 196 20 114 (by decide) (by decide) (by decide) (by decide) sc114 fo124_20 pn114 si114 (fun cs60 => ?_))
 refine zD (xQ 208 21 117 (by decide) (by decide) (by decide) (by decide) sc117 fo124_21 pn117 si117 (fun cs61 => ?_))
 refine zD (xQ 220 22 115 (by decide) (by decide) (by decide) (by decide) sc115 fo124_22 pn115 si115 (fun cs62 => ?_))
 refine zD (xQ 232 23 118 (by decide) (by decide) (by decide) (by decide) sc118 fo124_23 pn118 si118 (fun cs63 => ?_))
 refine zD (xQ 244 24 118 (by decide) (by decide) (by decide) (by decide) sc118 fo124_24 pn118 si118 (fun cs64 => ?_))
 refine zD (xQ 256 25 119 (by decide) (by decide) (by decide) (by decide) sc119 fo124_25 pn119 si119 (fun cs65 => ?_))
 refine zD (xQ 268 26 120 (by decide) (by decide) (by decide) (by decide) sc120 fo124_26 pn120 si120 (fun cs66 => ?_))
 refine zD (xQ 280 27 121 (by decide) (by decide) (by decide) (by decide) sc121 fo124_27 pn121 si121 (fun cs67 => ?_))
 refine zD (xQ 292 28 122 (by decide) (by decide) (by decide) (by decide) sc122 fo124_28 pn122 si122 (fun cs68 => ?_))
 refine zD (xQ 304 29 122 (by decide) (by decide) (by decide) (by decide) sc122 fo124_29 pn122 si122 (fun cs69 => ?_))
 refine zD (xQ 316 30 122 (by decide) (by decide) (by decide) (by decide) sc122 fo124_30 pn122 si122 (fun cs70 => ?_))
 refine zD (xQ 328 31 63 (by decide) (by decide) (by decide) (by decide) sc63 fo124_31 pn63 si63 (fun cs71 => ?_))
 refine zD (xQ 340 32 118 (by decide) (by decide) (by decide) (by decide) sc118 fo124_32 pn118 si118 (fun cs72 => ?_))
 refine zD (xQ 352 33 111 (by decide) (by decide) (by decide) (by decide) sc111 fo124_33 pn111 si111 (fun cs73 => ?_))
 refine zD (xQ 364 34 111 (by decide) (by decide) (by decide) (by decide) sc111 fo124_34 pn111 si111 (fun cs74 => ?_))
 refine zD (xQ 376 35 102 (by decide) (by decide) (by decide) (by decide) sc102 fo124_35 pn102 si102 (fun cs75 => ?_))
 refine zD (xQ 388 36 111 (by decide) (by decide) (by decide) (by decide) sc111 fo124_36 pn111 si111 (fun cs76 => ?_))
 refine xQ 400 3 111 (by decide) (by decide) (by decide) (by decide) sc111 fo124_3 pn111 si111 (fun cs43 => ?_)
 refine pO Tryz.results74 ⟨rfl, _, rfl, ?_⟩ (List.Sublist.refl _) (D' := [.flds mb _ (cpyL.foldl (fun g q => stepF q g f2) f)]) (fun d hd => by rw [List.mem_singleton.1 hd]; exact List.mem_cons_self)
 rw [steps_eq cpyL (by decide) f f2]
 rfl
end Go.Jw

namespace Go.Jw
open Go Go.RowKit Go.Proofs
set_option maxRecDepth 8000
def Sch (v : V) : Prop := Pl v ∧ IsShape v
theorem sch_good : GoodV Sch := ⟨fun v h => h.1, fun v h => h.2, fun v h z hz => ⟨kid_pl h.1 hz, kid_shape h.1 h.2 hz⟩⟩
theorem kw1_deep {v : V} (hp : Pl v) (hs : IsShape v) : DeepV Kw1 (normalV v) :=
 deep_norm (p := fun _ => True) (q := Kw1) (fun v _ _ _ => kw1_norm v) v hp hs (deep_true (fun _ => trivial) v)
theorem kids_apart {σ : Sig} {v x : V} {b c i : Nat} {f : Flds} (hv : Sch v) (hu : USig σ v b) (hf : σ b = some f) (hi : i ∈ kidIdx) (hc : c ∈ kidsAt f i) (o : Option Flds) (hx : USig σ x c) : USig (upd σ b o) x c := by
 obtain ⟨mu, hmu⟩ := tree_mu sch_good σ
 have hS : SGood Sch σ b := ⟨v, hv, hu⟩
 obtain ⟨f', h1, _, h2⟩ := hmu b hS
 rw [hf] at h1
 injection h1 with h1
 subst h1
 obtain ⟨h3, h4⟩ := h2 i hi c hc
 refine usig_agree x c (fun d hd => ?_) hx
 obtain ⟨_, h5⟩ := rch_mu (fun d hd => (hmu d hd).elim fun f h => ⟨f, h.1, h.2.2⟩) hd h3
 refine upd_ne (fun e => ?_) o
 subst e
 rcases h5 with h5 | h5
 ·subst h5; exact Nat.lt_irrefl _ h4
 ·exact absurd (Nat.lt_trans h5 h4) (Nat.lt_irrefl _)
theorem copied_get {v o : V} (hv : Sch v) (ho : Sch o) (key : ByteArray) : getV (copiedV v o) key = (getV (normalV o) key).or (getV (normalV v) key) :=
 merge_get (pl_nodup (sY ho.2 ho.1) (uS o)) (sY ho.2 ho.1).wf.le (sY hv.2 hv.1).wf.le key
theorem unf_copied {G1 R1 G2 : Gr} {σ1 : Sig} {v o : V} {b c : Nat} {f f' : Flds} (h1 : GOk G1 σ1) (hR : GOk R1 (upd σ1 b none)) (hv : Sch v) (ho : Sch o) (hu : Unf G1 v b) (hf : σ1 b = some f) (hu2 : Unf G2 o c) (hf' : ∀ f2, G2.at c f2 → f2 = f') (cs : List Value) :
  Unf ((b, cs, cpy f f') :: (R1 ++ G2)) (copiedV v o) b := by
 have hv2 : Sch (normalV v) := ⟨sY hv.2 hv.1, shape_norm v hv.2 hv.1⟩
 have hun := unf_normal v b hv.1 hv.2 hu
 have hun2 := unf_normal o c ho.1 ho.2 hu2
 obtain ⟨f1, ha, hU⟩ := (uY _ _ _).1 hun
 obtain rfl : f1 = f := by have := (h1.2 b f1).1 ha; rw [hf] at this; injection this with this; exact this.symm
 obtain ⟨f2, ha2, hU2⟩ := (uY _ _ _).1 hun2
 obtain rfl := hf' f2 ha2
 refine (uY _ _ _).2 ⟨cpy f1 f2, ⟨cs, List.mem_cons_self⟩, fun i hi hj => ?_⟩
 refine fld_cpy hi hj (copied_get hv ho) ?_ ?_
 ·exact (hU2 i hi hj).mono fun d x _ hx => Unf.mono (fun g hg => List.mem_cons_of_mem _ (List.mem_append_right _ hg)) x d hx
 ·refine fldRel_monoK hi hj (fun d x hik hd _ hx => ?_) (hU i hi hj)
  have := kids_apart hv2 ((unf_usig h1 _ _).1 hun) hf hik hd none ((unf_usig h1 _ _).1 hx)
  exact Unf.mono (fun g hg => List.mem_cons_of_mem _ (List.mem_append_left _ hg)) x d ((unf_usig hR _ _).2 this)
theorem copied_fix {v o : V} (hv : Sch v) (ho : Sch o) (hc : Sch (copiedV v o)) : normalV (copiedV v o) = copiedV v o := by
 refine normal_fix _ hc.1 hc.2 ((rM _ _).2 ⟨kw1_merge (kw1_norm o) (kw1_norm v) hc.1.wf.le, fun z hz => ?_⟩)
 rcases kids_merge hz with h | h
 ·exact ((rM _ _).1 (kw1_deep ho.1 ho.2)).2 z h
 ·exact ((rM _ _).1 (kw1_deep hv.1 hv.2)).2 z h
end Go.Jw

namespace Go.Jw
open Go Go.RowKit Go.Proofs
set_option maxRecDepth 8000
def R109 (k : ByteArray) (t : V) (bo nk n : Nat) (xk : List Value) (ts : List V) (u : Value) (M' : List HA) (D' : List DA) : Prop :=
 u = .tuple #[] ∧ ∃ Ak ck A ca xs, M' = [.row Ak (nk + 1) ck 9 1 (xk ++ [.string k]), .row A (n + 1) ca 25 5 xs, .blk bo [.int .i64 5, .int .i64 0, .string ⟨#[]⟩, .slice Ak (nk + 1) ck, .slice A (n + 1) ca] 25] ∧ D' = [.its xs (ts ++ [t])]
def restL (key : ByteArray) (own : V) (done : Bool) (l : Prs) : Prs := if done then l.filter (fun q => !decide (q.1 = key)) else withL key own l
def WAt (key : ByteArray) (own : V) (l : Prs) (i : Nat) (done : Bool) (nk : Nat) (xk : List Value) (ts : List V) : Prop :=
 i ≤ l.length ∧ ∃ acc : Prs, nk = acc.length ∧ xk = acc.map (fun p => Value.string p.1) ∧ ts = acc.map (fun p => p.2) ∧ acc ++ restL key own done (l.drop i) = withL key own l ∧ acc.length ≤ i + 1 ∧ (done = false → acc.length ≤ i)
section
variable {key k : ByteArray} {own x : V} {l : Prs} {i nk : Nat} {xk : List Value} {ts : List V}
theorem WAt.zero (key : ByteArray) (own : V) (l : Prs) : WAt key own l 0 false 0 [] [] := ⟨Nat.zero_le _, [], rfl, rfl, rfl, rfl, Nat.zero_le _, fun _ => Nat.le_refl _⟩
theorem drop_at {l : Prs} {i : Nat} {p : ByteArray × V} (h : l[i]? = some p) : l.drop i = p :: l.drop (i + 1) := by
 obtain ⟨hi, he⟩ := List.getElem?_eq_some_iff.1 h
 rw [← he, List.drop_eq_getElem_cons hi]
theorem at_lt {l : Prs} {i : Nat} {p : ByteArray × V} (h : l[i]? = some p) : i < l.length := (List.getElem?_eq_some_iff.1 h).1
theorem rest_t {p : ByteArray × V} {r : Prs} (h : p.1 ≠ key) : restL key own true (p :: r) = p :: restL key own true r := by
 simp [restL, h]
theorem rest_e {p : ByteArray × V} {r : Prs} (h : p.1 = key) : restL key own true (p :: r) = restL key own true r := by
 simp [restL, h]
theorem rest_g {p : ByteArray × V} {r : Prs} (h : Op.bytesLess p.1.toList key.toList = false) : restL key own false (p :: r) = (key, own) :: restL key own true (p :: r) := by
 show withL key own (p :: r) = _
 rw [withL, if_pos h]; rfl
theorem rest_l {p : ByteArray × V} {r : Prs} (h : ¬ Op.bytesLess p.1.toList key.toList = false) : restL key own false (p :: r) = p :: restL key own false r := by
 show withL key own (p :: r) = _
 rw [withL, if_neg h]; rfl
theorem WAt.s1 (h : WAt key own l i true nk xk ts) (hp : l[i]? = some (k, x)) (hk : k ≠ key) : WAt key own l (i + 1) true (nk + 1) (xk ++ [.string k]) (ts ++ [x]) := by
 obtain ⟨h0, acc, h1, h2, h3, h4, h5⟩ := h
 rw [drop_at hp, rest_t hk] at h4
 exact ⟨at_lt hp, acc ++ [(k, x)], by simp [h1], by simp [h2], by simp [h3], by rw [← h4]; simp, by simp; omega, fun h => by cases h⟩
theorem WAt.s2 (h : WAt key own l i true nk xk ts) (hp : l[i]? = some (k, x)) (hk : k = key) : WAt key own l (i + 1) true nk xk ts := by
 obtain ⟨h0, acc, h1, h2, h3, h4, h5⟩ := h
 rw [drop_at hp, rest_e hk] at h4
 exact ⟨at_lt hp, acc, h1, h2, h3, h4, by omega, fun h => by cases h⟩
theorem WAt.len {done : Bool} (h : WAt key own l i done nk xk ts) : nk ≤ i + 1 := by
 obtain ⟨h0, acc, h1, h2, h3, h4, h5⟩ := h
 omega
theorem WAt.s3 (h : WAt key own l i false nk xk ts) (hp : l[i]? = some (k, x)) (hl : Op.bytesLess k.toList key.toList = false) (hk : k ≠ key) : WAt key own l (i + 1) true (nk + 1 + 1) (xk ++ [.string key] ++ [.string k]) (ts ++ [own] ++ [x]) := by
 obtain ⟨h0, acc, h1, h2, h3, h4, h5, h6⟩ := h
 rw [drop_at hp, rest_g hl, rest_t hk] at h4
 have := h6 rfl
 exact ⟨at_lt hp, acc ++ [(key, own)] ++ [(k, x)], by simp [h1], by simp [h2], by simp [h3], by rw [← h4]; simp, by simp; omega, fun h => by cases h⟩
theorem WAt.s4 (h : WAt key own l i false nk xk ts) (hp : l[i]? = some (k, x)) (hl : Op.bytesLess k.toList key.toList = false) (hk : k = key) : WAt key own l (i + 1) true (nk + 1) (xk ++ [.string key]) (ts ++ [own]) := by
 obtain ⟨h0, acc, h1, h2, h3, h4, h5, h6⟩ := h
 rw [drop_at hp, rest_g hl, rest_e hk] at h4
 have := h6 rfl
 exact ⟨at_lt hp, acc ++ [(key, own)], by simp [h1], by simp [h2], by simp [h3], by rw [← h4]; simp, by simp; omega, fun h => by cases h⟩
theorem WAt.s5 (h : WAt key own l i false nk xk ts) (hp : l[i]? = some (k, x)) (hl : ¬ Op.bytesLess k.toList key.toList = false) : WAt key own l (i + 1) false (nk + 1) (xk ++ [.string k]) (ts ++ [x]) := by
 obtain ⟨h0, acc, h1, h2, h3, h4, h5, h6⟩ := h
 rw [drop_at hp, rest_l hl] at h4
 have := h6 rfl
 exact ⟨at_lt hp, acc ++ [(k, x)], by simp [h1], by simp [h2], by simp [h3], by rw [← h4]; simp, by simp; omega, fun _ => by simp; omega⟩
theorem WAt.endT (h : WAt key own l l.length true nk xk ts) : nk = ((withL key own l).map (fun p => p.2)).length ∧ xk = (withL key own l).map (fun p => Value.string p.1) ∧ ts = (withL key own l).map (fun p => p.2) := by
 obtain ⟨h0, acc, h1, h2, h3, h4, h5, h6⟩ := h
 rw [List.drop_length] at h4
 have e : acc = withL key own l := by rw [← h4]; exact (List.append_nil acc).symm
 subst e
 exact ⟨by rw [List.length_map]; exact h1, h2, h3⟩
theorem WAt.endF (h : WAt key own l l.length false nk xk ts) : nk + 1 = ((withL key own l).map (fun p => p.2)).length ∧ xk ++ [.string key] = (withL key own l).map (fun p => Value.string p.1) ∧ ts ++ [own] = (withL key own l).map (fun p => p.2) := by
 obtain ⟨h0, acc, h1, h2, h3, h4, h5, h6⟩ := h
 rw [List.drop_length] at h4
 have e : acc ++ [(key, own)] = withL key own l := h4
 rw [← e]
 exact ⟨by simp [h1], by simp [h2], by simp [h3]⟩
theorem with_sizes {own : V} (hk : key.size ≤ maxLen) (hl : ∀ p ∈ l, p.1.size ≤ maxLen) : ∀ s ∈ (withL key own l).map (fun p => p.1), s.size ≤ maxLen := by
 intro s hs
 obtain ⟨p, hp, rfl⟩ := List.mem_map.1 hs
 rcases with_mem hp with e | e
 ·rw [e]; exact hk
 ·exact hl p e
end

theorem c109 (k : ByteArray) (x : Value) (t : V) (bo : Nat) (Ak A : Option Addr) (nk ck n ca : Nat) (xk xs : List Value) (ts : List V) (h1 : nk ≤ 2000000) (h2 : n ≤ 2000000) : Ct Tryz.prog 109 #[.string k, x, ptr bo] [.row Ak nk ck 9 1 xk, .row A n ca 25 5 xs, .blk bo [.int .i64 5, .int .i64 0, .string ⟨#[]⟩, .slice Ak nk ck, .slice A n ca] 25] [.val x t, .its xs ts] (R109 k t bo nk n xk ts) := by
 refine Ct.of_run (args := [.string k, x, ptr bo]) Tryz.func109 (by kernel_rfl) rfl Tryz.ntmps109 rfl (fun c => ?_)
 refine wC 0 rfl (fun A1 c1 A2 c2 hx hsz hk1 hk2 hi1 hi2 => ?_)
 subst hx
 refine zD (zB ?_)
 refine zA (xL rfl rfl rfl (fun b4 => ?_))
 refine zC (zD ?_)
 refine zB (zA ?_)
 refine zH wL rfl rfl (zA ?_)
 refine zT 3 sc22 rfl rfl rfl rfl (zA ?_)
 refine zF rfl rfl (zA ?_)
 refine zZ sl22 rfl rfl rfl rfl rfl (fun b8 => ?_)
 refine zA ?_
 refine yL 2 0 sl22 rfl rfl rfl rfl rfl rfl rfl (by unfold maxLen; omega) (by omega) (fun A9 c9 => ?_)
 refine zA (zH wL rfl rfl ?_)
 refine zA (zR 4 (M' := [_, _, _, _, HA.blk _ [_, _, _, _, _] _]) rfl rfl rfl rfl si22 rfl rfl rfl ?_)
 refine zC (xX xE ?_)
 refine yJ (tP 0 rfl wanted0 (yN xV rfl) ?_)
 refine yZ (tM 1 rfl wanted0 (xW 4 sc23 rfl rfl rfl) ?_)
 refine tM 2 rfl wanted0 (uE 1 rfl ag25 rfl) (tM 3 rfl wanted0 (st_lenSl sl23 rfl) ?_)
 refine yA 4 (by decide +kernel) ?_
 refine yC (I2 := [[3, 2, 1], [0], []]) rfl wanted0 (by decide +kernel) (fun Kd hKd => ?_)
 refine zZ sl23 rfl rfl rfl rfl rfl (fun b15 => ?_)
 refine hKd _ _ _ (hC (hC (zL (yD)))) (yA 5 (by decide +kernel) ?_)
 refine yC (I2 := [[], [], []]) rfl wanted0 (by decide +kernel) (fun Kd hKd => ?_)
 refine yL 4 0 sl23 rfl rfl rfl rfl rfl rfl rfl (by unfold maxLen; omega) (by omega) (fun A16 c16 => ?_)
 refine hKd _ _ _ (zL (zL (zL (yD)))) (yJ ?_)
 refine tP 8 rfl wanted0 (yN xV rfl) (any_grpG (yB 4 rfl (wP _)) ?_)
 refine sB (yB 4 rfl (wP _)) 6 (wK _ _ _ _) rfl wanted0 (by decide +kernel) (by decide +kernel) (by decide +kernel) rfl (st_idxRowL 0 sl23 rfl rfl rfl (by omega)) (sH (rs := [7, 9]) (by decide +kernel) (by simp) ?_)
 intro j hj
 simp only [List.mem_cons, List.not_mem_nil, or_false] at hj
 rcases hj with rfl | rfl
 ·refine yC (I2 := [[], [8], [], [], []]) rfl wanted0 (by decide +kernel) (fun Kd hKd => ?_)
  refine op_storeRow 4 rfl rfl rfl rfl rfl rfl si25 rfl (hKd _ _ _ (zL (hC (zL (zL (zL (yD)))))) ?_)
  refine yA 9 (by decide +kernel) ?_
  refine yC (I2 := [[], [], [], [], []]) rfl wanted0 (by decide +kernel) (fun Kd hKd => ?_)
  refine zR 5 (M' := [_, _, _, _, _, HA.blk _ [_, _, _, _, _] _]) rfl rfl rfl rfl si23 rfl rfl rfl (hKd _ _ _ (zL (zL (zL (zL (zL (yD)))))) ?_)
  refine xF (by decide +kernel) (kE [] rfl ?_)
  refine vL 3 2 rfl rfl rfl ?_
  exact pO Tryz.results109 ⟨rfl, _, _, _, _, _, rfl, rfl⟩ (by repeat (first | exact List.Sublist.refl _ | apply List.Sublist.cons)) (sub1 0 rfl)
 refine yC (I2 := [[6], [], [], [], []]) rfl wanted0 (by decide +kernel) (fun Kd hKd => ?_)
 refine zR 5 (M' := [_, _, _, _, _, HA.blk _ [_, _, _, _, _] _]) rfl rfl rfl rfl si23 rfl rfl rfl ?_
 refine hKd _ _ _ (uN sK sQ (zL (zL (zL (zL (yD)))))) ?_
 refine yA 7 (by decide +kernel) ?_
 refine yC (I2 := [[], [], [], [], []]) rfl wanted0 (by decide +kernel) (fun Kd hKd => ?_)
 refine op_storeRow 4 rfl rfl rfl rfl rfl rfl si25 rfl (hKd _ _ _ (zL (zL (zL (zL (zL (yD)))))) ?_)
 refine xF (by decide +kernel) (kE [] rfl ?_)
 refine vL 3 2 rfl rfl rfl ?_
 exact pO Tryz.results109 ⟨rfl, _, _, _, _, _, rfl, rfl⟩ (by repeat (first | exact List.Sublist.refl _ | apply List.Sublist.cons)) (sub1 0 rfl)
theorem c64 (v own : V) (key : ByteArray) (x y : Value) (hkl : v.keys.length ≤ 1000000) (hl : v.keys.length ≤ v.items.length) (hks : key.size ≤ maxLen) : CtR Tryz.prog 64 #[x, .string key, y] [.val x v, .val y own] (RV (withV v key own)) := by
 refine Ct.of_run (args := [x, .string key, y]) Tryz.func64 (by kernel_rfl) rfl Tryz.ntmps64 rfl (fun c => ?_)
 refine wC 0 rfl (fun A1 c1 A2 c2 hx hsz1 hk1 hk2 hi1 hi2 => ?_)
 subst hx
 refine wC 3 rfl (fun A3 c3 A4 c4 hx hsz3 hk3 hk4 hi3 hi4 => ?_)
 subst hx
 refine tR 2 rfl (fun hksz => ?_)
 have hzl : (v.keys.zip v.items).length = v.keys.length := by rw [List.length_zip]; omega
 refine zD (zB ?_)
 refine zA (xL rfl rfl rfl (fun b3 => ?_))
 refine zA (xL rfl rfl rfl (fun b5 => ?_))
 refine zA (yM ze25 rfl (fun b6 => ?_))
 change RunOps _ _ _ _ _ _ _ _ (HA.blk _ [_, _, _, _, _] _ :: _) _
 refine zC (zD ?_)
 refine zB (zA ?_)
 refine xR rfl rfl (bu25_0 ..) (zA ?_)
 refine yM ze25 rfl (fun b7 => ?_)
 change RunOps _ _ _ _ _ _ _ _ (HA.blk _ [_, _, _, _, _] _ :: _) _
 refine zA (zR 0 (M' := [HA.blk _ [_, _, _, _, _] _, _, _, _]) rfl rfl rfl rfl si25 rfl rfl rfl ?_)
 refine zA (zE rfl rfl ?_)
 refine zC (zD ?_)
 refine zB (zA ?_)
 refine pD rfl rfl rfl (zA ?_)
 refine zE rfl rfl (zC ?_)
 refine zD (zD ?_)
 refine zB (zA ?_)
 refine zH wL rfl rfl (zA ?_)
 refine zT 3 sc22 rfl rfl rfl rfl (zA ?_)
 refine yU sl22 rfl rfl (zA ?_)
 refine zF rfl rfl (zC ?_)
 refine kE [(17, _), (16, _), (15, _), (9, _), (8, _), (7, _), (6, _), (5, _), (3, _), (1, _)] rfl (zN ?_)
 refine kE [(17, _), (8, _), (16, _), (15, _), (9, _), (7, _), (6, _), (5, _), (3, _), (1, _)] rfl (vE 25 5 ?_)
 refine vE 9 1 (qD ?_)
 refine xU 2 (fun (⟨i, done, nk, Ak, ck, xk, A, ca, xs, ts⟩ : Nat × Bool × Nat × Option Addr × Nat × List Value × Option Addr × Nat × List Value × List V) => WAt key own (v.keys.zip v.items) i done nk xk ts) (fun (⟨i, done, nk, Ak, ck, xk, A, ca, xs, ts⟩ : Nat × Bool × Nat × Option Addr × Nat × List Value × Option Addr × Nat × List Value × List V) => [(17, .int .i64 ((i : Nat) : Int)), (8, .bool done)]) (fun (⟨i, done, nk, Ak, ck, xk, A, ca, xs, ts⟩ : Nat × Bool × Nat × Option Addr × Nat × List Value × Option Addr × Nat × List Value × List V) => HA.row Ak nk ck 9 1 xk :: HA.row A nk ca 25 5 xs :: HA.blk b7 [.int .i64 5, .int .i64 0, .string ⟨#[]⟩, .slice Ak nk ck, .slice A nk ca] 25 :: HA.blk b6 [.int .i64 0, .int .i64 0, .string ⟨#[]⟩, .slice none 0 0, .slice none 0 0] 25 :: HA.blk b5 [.int .i64 own.kind, .int .i64 own.num, .string own.text, .slice A3 own.keys.length c3, .slice A4 own.items.length c4] 25 :: HA.blk b3 [.int .i64 v.kind, .int .i64 v.num, .string v.text, .slice A1 v.keys.length c1, .slice A2 v.items.length c2] 25 :: []) (fun (⟨i, done, nk, Ak, ck, xk, A, ca, xs, ts⟩ : Nat × Bool × Nat × Option Addr × Nat × List Value × Option Addr × Nat × List Value × List V) => .its xs ts :: .strs (.slice A3 own.keys.length c3) own.keys :: .vals (.slice A4 own.items.length c4) own.items :: .strs (.slice A1 v.keys.length c1) v.keys :: .vals (.slice A2 v.items.length c2) v.items :: .val (.agg #[.int .i64 v.kind, .int .i64 v.num, .string v.text, .slice A1 v.keys.length c1, .slice A2 v.items.length c2]) v :: .val (.agg #[.int .i64 own.kind, .int .i64 own.num, .string own.text, .slice A3 own.keys.length c3, .slice A4 own.items.length c4]) own :: []) (fun (⟨i, done, nk, Ak, ck, xk, A, ca, xs, ts⟩ : Nat × Bool × Nat × Option Addr × Nat × List Value × Option Addr × Nat × List Value × List V) => v.keys.length - i) (0, false, 0, none, 0, [], none, 0, [], []) (WAt.zero _ _ _) (eC rfl (eC rfl (eN _))) rfl rfl ?_ (eC rfl (eC rfl (eC rfl (eC rfl (eC rfl (eC rfl (eC rfl (eC rfl (eN _)))))))))
 intro ⟨i, done, nk, Ak, ck, xk, A, ca, xs, ts⟩ hI K hK
 replace hI : WAt key own (v.keys.zip v.items) i done nk xk ts := hI
 change Run _ _ _ _ _ [(17, .int .i64 ((i : Nat) : Int)), (8, .bool done), (16, _), (15, _), (9, _), (7, _), (6, _), (5, _), (3, _), (1, _)] (HA.row Ak nk ck 9 1 xk :: HA.row A nk ca 25 5 xs :: HA.blk b7 [.int .i64 5, .int .i64 0, .string ⟨#[]⟩, .slice Ak nk ck, .slice A nk ca] 25 :: HA.blk b6 [.int .i64 0, .int .i64 0, .string ⟨#[]⟩, .slice none 0 0, .slice none 0 0] 25 :: HA.blk b5 [.int .i64 own.kind, .int .i64 own.num, .string own.text, .slice A3 own.keys.length c3, .slice A4 own.items.length c4] 25 :: HA.blk b3 [.int .i64 v.kind, .int .i64 v.num, .string v.text, .slice A1 v.keys.length c1, .slice A2 v.items.length c2] 25 :: []) (.its xs ts :: .strs (.slice A3 own.keys.length c3) own.keys :: .vals (.slice A4 own.items.length c4) own.items :: .strs (.slice A1 v.keys.length c1) v.keys :: .vals (.slice A2 v.items.length c2) v.items :: .val (.agg #[.int .i64 v.kind, .int .i64 v.num, .string v.text, .slice A1 v.keys.length c1, .slice A2 v.items.length c2]) v :: .val (.agg #[.int .i64 own.kind, .int .i64 own.num, .string own.text, .slice A3 own.keys.length c3, .slice A4 own.items.length c4]) own :: [])
 replace hI : WAt key own (v.keys.zip v.items) i done nk xk ts := hI
 have hi : i ≤ v.keys.length := hzl ▸ hI.1
 refine zD (zB ?_)
 refine zA (xT rfl rfl rfl ?_)
 refine zC (zD ?_)
 refine zS rfl (fun h18 => ?_) (fun h18 => ?_)
 ·refine zJ (zD ?_)
  refine zN (zD ?_)
  refine zB (zA ?_)
  refine zF rfl rfl (zA ?_)
  refine vW 3 sl22 rfl rfl rfl rfl h18 ?_
  have hlt : i < v.items.length := by omega
  have hp : (v.keys.zip v.items)[i]? = some (v.keys[i], v.items[i]) := by rw [List.getElem?_zip_eq_some]; exact ⟨List.getElem?_eq_getElem h18, List.getElem?_eq_getElem hlt⟩
  have hlen := hI.len
  refine zA (xO sc9 rfl rfl (fun _ h => vD h (j := 3) rfl (List.getElem?_eq_getElem h18)) ?_)
  refine sT (zC ?_)
  refine kE [(11, _), (10, _), (17, _), (8, _), (16, _), (15, _), (9, _), (7, _), (6, _), (5, _), (3, _), (1, _)] rfl (zD ?_)
  refine zD (zB ?_)
  refine sT (yY (s := 24) rfl (fun h24 => ?_) (fun h24 => ?_))
  ·have hdf : done = false := by simpa using h24
   subst hdf
   refine zK rfl rfl (zF rfl rfl ?_)
   refine zK rfl rfl (zF rfl rfl ?_)
   refine zK rfl rfl (op_sgeq rfl rfl rfl ?_)
   refine zA (zO rfl rfl rfl ?_)
   refine zC (kE [(28, _), (11, _), (10, _), (17, _), (8, _), (16, _), (15, _), (9, _), (7, _), (6, _), (5, _), (3, _), (1, _)] rfl ?_)
   refine yI rfl (fun h28 => ?_) (fun h28 => ?_)
   ·refine zD (zB ?_)
    refine sT (zA ?_)
    refine yQ 4 rfl ag25 rfl rfl (zA ?_)
    refine tH (M1 := [_, _, _]) (M2 := _) rfl rfl rfl (c109 key _ own b7 _ _ _ _ _ _ _ _ _ (by omega) (by omega)) rfl (sub2 6 0 rfl rfl) (fun u32 M32 D32 hv32 => ?_)
    obtain ⟨rfl, Ak32, ck32, A32, ca32, xs32, rfl, rfl⟩ := hv32
    refine zC (kE [(11, _), (10, _), (17, _), (16, _), (15, _), (9, _), (7, _), (6, _), (5, _), (3, _), (1, _)] rfl ?_)
    refine zB (zA ?_)
    refine zE rfl rfl (zC ?_)
    refine zD (zB ?_)
    refine sT (zA ?_)
    refine op_sneq rfl rfl rfl (zC ?_)
    refine kE [(35, _), (8, _), (11, _), (10, _), (17, _), (16, _), (15, _), (9, _), (7, _), (6, _), (5, _), (3, _), (1, _)] rfl (zS rfl (fun h35 => ?_) (fun h35 => ?_))
    ·refine zB (sT ?_)
     refine zA (zH xV rfl rfl ?_)
     refine zA (zT 5 sc23 rfl rfl rfl rfl ?_)
     refine zA (zF rfl rfl ?_)
     refine zA (vF 5 sl23 rfl rfl rfl rfl hlt ?_)
     refine zA (vC 5 ag25 rfl rfl rfl (List.getElem?_eq_getElem hlt) (fun A42 c42 B42 d42 => ?_))
     refine zA ?_
     refine tH (M1 := [_, _, _]) (M2 := _) rfl rfl rfl (c109 _ _ (v.items[i]'hlt) b7 _ _ _ _ _ _ _ _ _ (by omega) (by omega)) rfl (sub2 0 1 rfl rfl) (fun u43 M43 D43 hv43 => ?_)
     obtain ⟨rfl, Ak43, ck43, A43, ca43, xs43, rfl, rfl⟩ := hv43
     refine zC (kE [(8, _), (17, _), (16, _), (15, _), (9, _), (7, _), (6, _), (5, _), (3, _), (1, _)] rfl ?_)
     refine zQ (zB ?_)
     refine zA (xH rfl rfl (by omega) ?_)
     refine zA (zF rfl rfl ?_)
     refine zC ?_
     exact kQ (hK (i + 1, true, _, _, _, _, _, _, _, _) (hI.s3 hp (by simpa using h28) (by simpa using h35)) (by show v.keys.length - (i + 1) < v.keys.length - i; omega)) (eC rfl (eC rfl (eC rfl (eC rfl (eC rfl (eC rfl (eC rfl (eC rfl (eC rfl (eC rfl (eN _))))))))))) (hD := (subc 0 rfl sQ))
    refine zJ (zQ ?_)
    refine zB (zA ?_)
    refine xH rfl rfl (by omega) (zA ?_)
    refine zF rfl rfl (zC ?_)
    exact kQ (hK (i + 1, true, _, _, _, _, _, _, _, _) (hI.s4 hp (by simpa using h28) (by simpa using h35)) (by show v.keys.length - (i + 1) < v.keys.length - i; omega)) (eC rfl (eC rfl (eC rfl (eC rfl (eC rfl (eC rfl (eC rfl (eC rfl (eC rfl (eC rfl (eN _))))))))))) (hD := (subc 0 rfl sQ))
   refine zJ (zD ?_)
   refine zB (sT ?_)
   refine zA (op_sneq rfl rfl rfl ?_)
   refine zC (kE [(35, _), (11, _), (10, _), (17, _), (8, _), (16, _), (15, _), (9, _), (7, _), (6, _), (5, _), (3, _), (1, _)] rfl ?_)
   refine zS rfl (fun h35 => ?_) (fun h35 => ?_)
   ·refine zB (sT ?_)
    refine zA (zH xV rfl rfl ?_)
    refine zA (zT 5 sc23 rfl rfl rfl rfl ?_)
    refine zA (zF rfl rfl ?_)
    refine zA (vF 4 sl23 rfl rfl rfl rfl hlt ?_)
    refine zA (vC 4 ag25 rfl rfl rfl (List.getElem?_eq_getElem hlt) (fun A42 c42 B42 d42 => ?_))
    refine zA ?_
    refine tH (M1 := [_, _, _]) (M2 := _) rfl rfl rfl (c109 _ _ (v.items[i]'hlt) b7 _ _ _ _ _ _ _ _ _ (by omega) (by omega)) rfl (sub2 0 1 rfl rfl) (fun u43 M43 D43 hv43 => ?_)
    obtain ⟨rfl, Ak43, ck43, A43, ca43, xs43, rfl, rfl⟩ := hv43
    refine zC (kE [(17, _), (8, _), (16, _), (15, _), (9, _), (7, _), (6, _), (5, _), (3, _), (1, _)] rfl ?_)
    refine zQ (zB ?_)
    refine zA (xH rfl rfl (by omega) ?_)
    refine zA (zF rfl rfl ?_)
    refine zC ?_
    exact kQ (hK (i + 1, false, _, _, _, _, _, _, _, _) (hI.s5 hp (by simpa using h28)) (by show v.keys.length - (i + 1) < v.keys.length - i; omega)) (eC rfl (eC rfl (eC rfl (eC rfl (eC rfl (eC rfl (eC rfl (eC rfl (eC rfl (eC rfl (eN _))))))))))) (hD := (subc 0 rfl sQ))
   refine zJ (zQ ?_)
   refine zB (zA ?_)
   refine xH rfl rfl (by omega) (zA ?_)
   refine zF rfl rfl (zC ?_)
   exact kQ (hK (i + 1, false, _, _, _, _, _, _, _, _) (absurd (by rw [show v.keys[i] = key from by simpa using h35]; exact bl_irr key) (by simpa using h28 : ¬ Op.bytesLess v.keys[i].toList key.toList = false)) (by show v.keys.length - (i + 1) < v.keys.length - i; omega)) (eC rfl (eC rfl (eC rfl (eC rfl (eC rfl (eC rfl (eC rfl (eC rfl (eC rfl (eC rfl (eN _))))))))))) (hD := (subc 0 rfl sQ))
  have hdf : done = true := by simpa using h24
  subst hdf
  refine zG rfl rfl rfl rfl (zG rfl rfl rfl rfl ?_)
  refine zG rfl rfl rfl rfl (zA ?_)
  refine zO rfl rfl rfl (zC ?_)
  refine kE [(28, _), (11, _), (10, _), (17, _), (8, _), (16, _), (15, _), (9, _), (7, _), (6, _), (5, _), (3, _), (1, _)] rfl (wY rfl ?_)
  refine zJ (zD ?_)
  refine zB (sT ?_)
  refine zA (op_sneq rfl rfl rfl ?_)
  refine zC (kE [(35, _), (11, _), (10, _), (17, _), (8, _), (16, _), (15, _), (9, _), (7, _), (6, _), (5, _), (3, _), (1, _)] rfl ?_)
  refine zS rfl (fun h35 => ?_) (fun h35 => ?_)
  ·refine zB (sT ?_)
   refine zA (zH xV rfl rfl ?_)
   refine zA (zT 5 sc23 rfl rfl rfl rfl ?_)
   refine zA (zF rfl rfl ?_)
   refine zA (vF 4 sl23 rfl rfl rfl rfl hlt ?_)
   refine zA (vC 4 ag25 rfl rfl rfl (List.getElem?_eq_getElem hlt) (fun A42 c42 B42 d42 => ?_))
   refine zA ?_
   refine tH (M1 := [_, _, _]) (M2 := _) rfl rfl rfl (c109 _ _ (v.items[i]'hlt) b7 _ _ _ _ _ _ _ _ _ (by omega) (by omega)) rfl (sub2 0 1 rfl rfl) (fun u43 M43 D43 hv43 => ?_)
   obtain ⟨rfl, Ak43, ck43, A43, ca43, xs43, rfl, rfl⟩ := hv43
   refine zC (kE [(17, _), (8, _), (16, _), (15, _), (9, _), (7, _), (6, _), (5, _), (3, _), (1, _)] rfl ?_)
   refine zQ (zB ?_)
   refine zA (xH rfl rfl (by omega) ?_)
   refine zA (zF rfl rfl ?_)
   refine zC ?_
   exact kQ (hK (i + 1, true, _, _, _, _, _, _, _, _) (hI.s1 hp (by simpa using h35)) (by show v.keys.length - (i + 1) < v.keys.length - i; omega)) (eC rfl (eC rfl (eC rfl (eC rfl (eC rfl (eC rfl (eC rfl (eC rfl (eC rfl (eC rfl (eN _))))))))))) (hD := (subc 0 rfl sQ))
  refine zJ (zQ ?_)
  refine zB (zA ?_)
  refine xH rfl rfl (by omega) (zA ?_)
  refine zF rfl rfl (zC ?_)
  exact kQ (hK (i + 1, true, _, _, _, _, _, _, _, _) (hI.s2 hp (by simpa using h35)) (by show v.keys.length - (i + 1) < v.keys.length - i; omega)) (eC rfl (eC rfl (eC rfl (eC rfl (eC rfl (eC rfl (eC rfl (eC rfl (eC rfl (eC rfl (eN _))))))))))) (hD := (subc 0 rfl sQ))
 obtain rfl : i = v.keys.length := by omega
 have hlen := hI.len
 refine yK rfl (zD ?_)
 refine zD (zB ?_)
 refine sT (zC ?_)
 refine yI rfl (fun h46 => ?_) (fun h46 => ?_)
 ·refine zB (sT ?_)
  refine zA (yQ 4 rfl ag25 rfl rfl ?_)
  refine zA ?_
  refine tH (M1 := [_, _, _]) (M2 := _) rfl rfl rfl (c109 key _ own b7 _ _ _ _ _ _ _ _ _ (by omega) (by omega)) rfl (sub2 6 0 rfl rfl) (fun u50 M50 D50 hv50 => ?_)
  obtain ⟨rfl, Ak50, ck50, A50, ca50, xs50, rfl, rfl⟩ := hv50
  refine zC (kE [(7, _), (6, _)] rfl ?_)
  refine zD (zB ?_)
  refine zA (yQ 2 rfl ag25 rfl rfl ?_)
  refine zA (zR 3 (M' := [_, _, _, HA.blk _ [_, _, _, _, _] _, _, _]) rfl rfl rfl rfl si25 rfl rfl rfl ?_)
  refine zC ?_
  have hdf : done = false := by simpa using h46
  subst hdf
  rw [← hzl] at hI
  obtain ⟨e1, e2, e3⟩ := hI.endF
  refine vM 0 ((withL key own (v.keys.zip v.items)).map (fun p => p.1)) rfl (by intro b h; cases h) (by rw [e2, List.map_map]; rfl) (with_sizes hks (fun p hp => hksz _ (List.of_mem_zip hp).1)) (tL 0 1 ((withL key own (v.keys.zip v.items)).map (fun p => p.2)) rfl (by rw [← e3]; rfl) (by intro b h; cases h) e1 ?_)
  refine vK (q := 5) (m := 0) (s := ⟨#[]⟩) 1 0 rfl rfl (by decide) ?_
  exact vH 1 Tryz.results64 rfl rfl ag25 ⟨rfl, _, _, _, _, by show _ = Value.agg #[.int .i64 5, .int .i64 0, .string ⟨#[]⟩, .slice _ ((withL key own (v.keys.zip v.items)).map (fun p => p.1)).length _, .slice _ ((withL key own (v.keys.zip v.items)).map (fun p => p.2)).length _]; rw [← e1, show ((withL key own (v.keys.zip v.items)).map (fun p => p.1)).length = ((withL key own (v.keys.zip v.items)).map (fun p => p.2)).length by simp, ← e1], rfl⟩ nS (sub1 0 rfl)
 refine zJ (zD ?_)
 refine zB (zA ?_)
 refine yQ 2 rfl ag25 rfl rfl (zA ?_)
 refine zR 3 (M' := [_, _, _, HA.blk _ [_, _, _, _, _] _, _, _]) rfl rfl rfl rfl si25 rfl rfl rfl (zC ?_)
 refine kE [(6, _)] rfl ?_
 have hdf : done = true := by simpa using h46
 subst hdf
 rw [← hzl] at hI
 obtain ⟨e1, e2, e3⟩ := hI.endT
 refine vM 0 ((withL key own (v.keys.zip v.items)).map (fun p => p.1)) rfl (by intro b h; cases h) (by rw [e2, List.map_map]; rfl) (with_sizes hks (fun p hp => hksz _ (List.of_mem_zip hp).1)) (tL 0 1 ((withL key own (v.keys.zip v.items)).map (fun p => p.2)) rfl (by rw [← e3]; rfl) (by intro b h; cases h) e1 ?_)
 refine vK (q := 5) (m := 0) (s := ⟨#[]⟩) 1 0 rfl rfl (by decide) ?_
 exact vH 1 Tryz.results64 rfl rfl ag25 ⟨rfl, _, _, _, _, by show _ = Value.agg #[.int .i64 5, .int .i64 0, .string ⟨#[]⟩, .slice _ ((withL key own (v.keys.zip v.items)).map (fun p => p.1)).length _, .slice _ ((withL key own (v.keys.zip v.items)).map (fun p => p.2)).length _]; rw [← e1, show ((withL key own (v.keys.zip v.items)).map (fun p => p.1)).length = ((withL key own (v.keys.zip v.items)).map (fun p => p.2)).length by simp, ← e1], rfl⟩ nS (sub1 0 rfl)
end Go.Jw

namespace Go.Jw
open Go Go.RowKit Go.Proofs
set_option maxRecDepth 8000
theorem setL_len {l : Prs} {out : V} (h : out.keys.length ≤ out.items.length) : (setL l out).keys.length ≤ out.keys.length + l.length := by
  induction l generalizing out with
  | nil => exact Nat.le_refl _
  | cons p l ih =>
    have h1 := ih (out := withV out p.1 p.2) (with_le _ _ _)
    have h2 : (withV out p.1 p.2).keys.length ≤ out.keys.length + 1 := by
      have h3 := with_len p.1 p.2 (out.keys.zip out.items)
      rw [List.length_zip] at h3
      have e : (withV out p.1 p.2).keys = (withL p.1 p.2 (out.keys.zip out.items)).map (·.1) := rfl
      rw [e, List.length_map]
      omega
    show (setL l (withV out p.1 p.2)).keys.length ≤ _
    simp only [List.length_cons]
    omega
theorem setL_step {l : Prs} {out : V} {i : Nat} {p : ByteArray × V} (h : l[i]? = some p) : withV (setL (l.take i) out) p.1 p.2 = setL (l.take (i + 1)) out := by
 unfold setL
 rw [List.take_add_one, h, List.foldl_append]
 rfl
section rules
variable {P : Program} {n : Nat} {F : List Nat} {c : Ctx F} {ops : Array Oper} {d : Nat} {T : TypeId} {l : List Oper} {k : List KI} {Q : Post} {e : Env} {M : List HA} {D : List DA}
theorem ops_frGr (i : Nat) {G : Gr} (mb : Nat) (hi : M[i]? = some (.many 124 (Gr.blks G))) (hG : ∀ (w : World) (ok : Nat → Prop), (∀ d ∈ D, d.p w ok) → ∀ g ∈ G, ∃ m, CellsP w ok m g.2.1 g.2.2) (hF : F = []) (next : RunOps P n c ops l k Q e (M.eraseIdx i) (.gr mb G :: D)) : RunOps P n c ops l k Q e M D :=
  ops_freeze (h := .many 124 (Gr.blks G)) [.gr mb G] (fun x _ h => by rw [hF] at h; cases h) (vV hi) (fun w ok h hok hD d hd => by
    rcases List.mem_singleton.1 hd with rfl
    intro g hg
    have hm : (g.1, g.2.1) ∈ Gr.blks G := List.mem_map.2 ⟨g, hg, rfl⟩
    refine ⟨⟨hok _ ?_, h _ hm⟩, hG w ok hD g hg⟩
    simp only [HA.foot, List.mem_map]
    exact ⟨_, hm, rfl⟩) next
end rules
theorem he_two {G1 G2 R1 R2 : Gr} {b1 b2 : Nat} {cs1 cs2 : List Value} {f1 f2 : Flds} {O1 O2 : HA} {X : List HA} (h1 : G1.Perm ((b1, cs1, f1) :: R1)) (h2 : G2.Perm ((b2, cs2, f2) :: R2)) :
  HE (.many 124 (Gr.blks G2) :: O2 :: .many 124 (Gr.blks G1) :: O1 :: X) ([.blk b1 cs1 124, .blk b2 cs2 124] ++ (.many 124 (Gr.blks R1) :: .many 124 (Gr.blks R2) :: O2 :: O1 :: X)) := by
 have e1 : HE (.many 124 (Gr.blks G2) :: O2 :: .many 124 (Gr.blks G1) :: O1 :: X) ([.many 124 (Gr.blks G1)] ++ ([.many 124 (Gr.blks G2)] ++ (O2 :: O1 :: X))) := HE.perm (by
  refine .trans ?_ (List.Perm.swap _ _ _)
  exact .cons _ (List.Perm.swap _ _ _))
 refine e1.trans ((HE.append (he_split h1) (HE.append (he_split h2) (HE.refl _))).trans (HE.perm ?_))
 exact .cons _ (List.Perm.swap _ _ _)
theorem he_join2 {R1 R2 : Gr} {b1 b2 : Nat} {cs1 cs2 : List Value} {f1 f2 : Flds} {X : List HA} :
  HE ([.blk b1 cs1 124, .blk b2 cs2 124] ++ (.many 124 (Gr.blks R1) :: .many 124 (Gr.blks R2) :: X)) (.many 124 (Gr.blks ((b1, cs1, f1) :: (R1 ++ (b2, cs2, f2) :: R2))) :: X) := by
 have ha : ∀ gs gs' : List (Nat × List Value), HE [.many 124 (gs ++ gs')] [.many 124 gs, .many 124 gs'] := fun gs gs' => ⟨fun w => by
  constructor
  ·intro a x hx
   have h1 : (HA.many 124 (gs ++ gs')).holds w := a _ List.mem_cons_self
   simp only [List.mem_cons, List.not_mem_nil, or_false] at hx
   rcases hx with rfl | rfl
   ·exact fun g hg => h1 g (List.mem_append_left _ hg)
   ·exact fun g hg => h1 g (List.mem_append_right _ hg)
  ·intro a x hx
   rcases List.mem_singleton.1 hx with rfl
   intro g hg
   rcases List.mem_append.1 hg with hg | hg
   ·exact (a _ List.mem_cons_self : (HA.many 124 gs).holds w) g hg
   ·exact (a _ (List.mem_cons_of_mem _ List.mem_cons_self) : (HA.many 124 gs').holds w) g hg, by simp [foots, HA.foot]⟩
 have e0 : Gr.blks ((b1, cs1, f1) :: (R1 ++ (b2, cs2, f2) :: R2)) = (b1, cs1) :: (Gr.blks R1 ++ ((b2, cs2) :: Gr.blks R2)) := by simp [Gr.blks]
 rw [e0]
 refine HE.symm ?_
 have h1 : HE ([.many 124 ((b1, cs1) :: (Gr.blks R1 ++ ((b2, cs2) :: Gr.blks R2)))] ++ X) (([.blk b1 cs1 124] ++ ([.many 124 (Gr.blks R1)] ++ ([.blk b2 cs2 124] ++ [.many 124 (Gr.blks R2)]))) ++ X) :=
  HE.append ((he_many1 124 b1 cs1 _).trans (HE.append (HE.refl [.blk b1 cs1 124]) ((ha _ _).trans (HE.append (HE.refl [.many 124 (Gr.blks R1)]) (he_many1 124 b2 cs2 _))))) (HE.refl X)
 exact h1.trans (HE.perm (.cons _ (List.Perm.swap _ _ _)))

theorem c37 (v o : V) (x y : Value) (hv : Sch v) (ho : Sch o) : CtR Tryz.prog 37 #[x, y] [.val x v, .val y o] (RV (copiedV v o)) := by
 refine Ct.of_run (args := [x, y]) Tryz.func37 (by kernel_rfl) rfl Tryz.ntmps37 rfl (fun c => ?_)
 refine wC 0 rfl (fun A1 c1 A2 c2 hx hsz1 hk1 hk2 hi1 hi2 => ?_)
 subst hx
 refine wC 3 rfl (fun A3 c3 A4 c4 hx hsz3 hk3 hk4 hi3 hi4 => ?_)
 subst hx
 obtain ⟨nv, hnv⟩ : ∃ nv, nv = normalV v := ⟨_, rfl⟩
 obtain ⟨no, hno⟩ : ∃ no, no = normalV o := ⟨_, rfl⟩
 have hpv : Pl nv := hnv ▸ sY hv.2 hv.1
 have hpo : Pl no := hno ▸ sY ho.2 ho.1
 have hkv := hpv.wf.kl
 have hko := hpo.wf.kl
 have h60v := hpv.len
 have h60o := hpo.len
 have hlv := hpv.wf.le
 have hlo := hpo.wf.le
 refine zD (zB ?_)
 refine zA (xL rfl rfl rfl (fun b2 => ?_))
 refine zA (xL rfl rfl rfl (fun b3 => ?_))
 refine zA (yM ze25 rfl (fun b4 => ?_))
 change RunOps _ _ _ _ _ _ _ _ (HA.blk _ [_, _, _, _, _] _ :: _) _
 refine zC (zD ?_)
 refine zB (zA ?_)
 refine yQ 2 rfl ag25 rfl rfl (zA ?_)
 refine zW rfl rfl rfl (c22 v hv.1.wf _) (by first | exact sub1 0 rfl | exact sub1 1 rfl | exact sub1 2 rfl | exact sub1 3 rfl | exact sub1 4 rfl | exact sub1 5 rfl | exact sub1 6 rfl | exact sub1 7 rfl) (fun u9 D9 hv9 => ?_)
 rw [← hnv] at hv9
 obtain ⟨A9, m9, B9, d9, rfl, rfl⟩ := hv9
 refine zA (yM ze25 rfl (fun b5 => ?_))
 change RunOps _ _ _ _ _ _ _ _ (HA.blk _ [_, _, _, _, _] _ :: _) _
 refine zA (zR 0 (M' := [HA.blk _ [_, _, _, _, _] _, _, _, _]) rfl rfl rfl rfl si25 rfl rfl rfl ?_)
 refine zC (zD ?_)
 refine zB (zA ?_)
 refine yQ 2 rfl ag25 rfl rfl (zA ?_)
 refine zW rfl rfl rfl (c22 o ho.1.wf _) (by first | exact sub1 0 rfl | exact sub1 1 rfl | exact sub1 2 rfl | exact sub1 3 rfl | exact sub1 4 rfl | exact sub1 5 rfl | exact sub1 6 rfl | exact sub1 7 rfl) (fun u11 D11 hv11 => ?_)
 rw [← hno] at hv11
 obtain ⟨A11, m11, B11, d11, rfl, rfl⟩ := hv11
 refine zA (zR 2 (M' := [_, _, HA.blk _ [_, _, _, _, _] _, _]) rfl rfl rfl rfl si25 rfl rfl rfl ?_)
 refine zC (zD ?_)
 refine zD (zB ?_)
 refine zA (zH wL rfl rfl ?_)
 refine zA (zT 2 sc22 rfl rfl rfl rfl ?_)
 refine zA (yU sl22 rfl rfl ?_)
 refine zA (zF rfl rfl ?_)
 refine zC (zN ?_)
 refine kE [(15, _), (14, _), (13, _), (5, _), (4, _), (3, _)] rfl (wC 0 rfl (fun A5 c5 A6 c6 hx hsz5 hk5 hk6 hi5 hi6 => ?_))
 cases hx
 refine tR 0 rfl (fun hksz => ?_)
 refine run_data (D' := .val (.agg #[.int .i64 nv.kind, .int .i64 nv.num, .string nv.text, .slice A9 nv.keys.length m9, .slice B9 nv.items.length d9]) nv :: .strs (.slice A11 no.keys.length m11) no.keys :: .vals (.slice B11 no.items.length d11) no.items :: .val (.agg #[.int .i64 no.kind, .int .i64 no.num, .string no.text, .slice A11 no.keys.length m11, .slice B11 no.items.length d11]) no :: []) (by intro d hd; simp only [List.mem_cons, List.not_mem_nil, or_false] at hd ⊢; rcases hd with rfl | rfl | rfl | rfl <;> simp) ?_
 refine xU 1 (fun (⟨i, Ew, ew, Fw, fw⟩ : Nat × Option Addr × Nat × Option Addr × Nat) => i ≤ no.keys.length) (fun (⟨i, Ew, ew, Fw, fw⟩ : Nat × Option Addr × Nat × Option Addr × Nat) => [(15, .int .i64 ((i : Nat) : Int))]) (fun (⟨i, Ew, ew, Fw, fw⟩ : Nat × Option Addr × Nat × Option Addr × Nat) => HA.blk b5 [.int .i64 (setL ((no.keys.zip no.items).take i) nv).kind, .int .i64 (setL ((no.keys.zip no.items).take i) nv).num, .string (setL ((no.keys.zip no.items).take i) nv).text, .slice Ew (setL ((no.keys.zip no.items).take i) nv).keys.length ew, .slice Fw (setL ((no.keys.zip no.items).take i) nv).items.length fw] 25 :: HA.blk b4 [.int .i64 0, .int .i64 0, .string ⟨#[]⟩, .slice none 0 0, .slice none 0 0] 25 :: HA.blk b3 [.int .i64 no.kind, .int .i64 no.num, .string no.text, .slice A11 no.keys.length m11, .slice B11 no.items.length d11] 25 :: HA.blk b2 [.int .i64 v.kind, .int .i64 v.num, .string v.text, .slice A1 v.keys.length c1, .slice A2 v.items.length c2] 25 :: []) (fun (⟨i, Ew, ew, Fw, fw⟩ : Nat × Option Addr × Nat × Option Addr × Nat) => .val (.agg #[.int .i64 (setL ((no.keys.zip no.items).take i) nv).kind, .int .i64 (setL ((no.keys.zip no.items).take i) nv).num, .string (setL ((no.keys.zip no.items).take i) nv).text, .slice Ew (setL ((no.keys.zip no.items).take i) nv).keys.length ew, .slice Fw (setL ((no.keys.zip no.items).take i) nv).items.length fw]) (setL ((no.keys.zip no.items).take i) nv) :: .strs (.slice A11 no.keys.length m11) no.keys :: .vals (.slice B11 no.items.length d11) no.items :: .val (.agg #[.int .i64 no.kind, .int .i64 no.num, .string no.text, .slice A11 no.keys.length m11, .slice B11 no.items.length d11]) no :: []) (fun (⟨i, Ew, ew, Fw, fw⟩ : Nat × Option Addr × Nat × Option Addr × Nat) => no.keys.length - i) (0, A9, m9, B9, d9) (by show 0 ≤ _; omega) (eC rfl (eN _)) rfl rfl ?_ (eC rfl (eC rfl (eC rfl (eC rfl (eC rfl (eN _))))))
 intro ⟨i, Ew, ew, Fw, fw⟩ hI K hK
 replace hI : i ≤ no.keys.length := hI
 change Run _ _ _ _ _ [(15, .int .i64 ((i : Nat) : Int)), (14, _), (13, _), (5, _), (4, _), (3, _)] (HA.blk b5 [.int .i64 (setL ((no.keys.zip no.items).take i) nv).kind, .int .i64 (setL ((no.keys.zip no.items).take i) nv).num, .string (setL ((no.keys.zip no.items).take i) nv).text, .slice Ew (setL ((no.keys.zip no.items).take i) nv).keys.length ew, .slice Fw (setL ((no.keys.zip no.items).take i) nv).items.length fw] 25 :: HA.blk b4 [.int .i64 0, .int .i64 0, .string ⟨#[]⟩, .slice none 0 0, .slice none 0 0] 25 :: HA.blk b3 [.int .i64 no.kind, .int .i64 no.num, .string no.text, .slice A11 no.keys.length m11, .slice B11 no.items.length d11] 25 :: HA.blk b2 [.int .i64 v.kind, .int .i64 v.num, .string v.text, .slice A1 v.keys.length c1, .slice A2 v.items.length c2] 25 :: []) (.val (.agg #[.int .i64 (setL ((no.keys.zip no.items).take i) nv).kind, .int .i64 (setL ((no.keys.zip no.items).take i) nv).num, .string (setL ((no.keys.zip no.items).take i) nv).text, .slice Ew (setL ((no.keys.zip no.items).take i) nv).keys.length ew, .slice Fw (setL ((no.keys.zip no.items).take i) nv).items.length fw]) (setL ((no.keys.zip no.items).take i) nv) :: .strs (.slice A11 no.keys.length m11) no.keys :: .vals (.slice B11 no.items.length d11) no.items :: .val (.agg #[.int .i64 no.kind, .int .i64 no.num, .string no.text, .slice A11 no.keys.length m11, .slice B11 no.items.length d11]) no :: [])
 have hi : i ≤ no.keys.length := hI
 have hwl := setL_len (l := (no.keys.zip no.items).take i) hlv
 have hwe := setL_le (l := (no.keys.zip no.items).take i) hlv
 have htl : ((no.keys.zip no.items).take i).length ≤ i := by rw [List.length_take]; omega
 refine zD (zB ?_)
 refine zA (xT rfl rfl rfl ?_)
 refine zC (zD ?_)
 refine zS rfl (fun h16 => ?_) (fun h16 => ?_)
 ·refine zJ (zD ?_)
  refine zN (zD ?_)
  refine zB (zA ?_)
  refine zF rfl rfl (zA ?_)
  refine vW 1 sl22 rfl rfl rfl rfl h16 ?_
  have hlt : i < no.items.length := by omega
  have hp : (no.keys.zip no.items)[i]? = some (no.keys[i], no.items[i]) := by rw [List.getElem?_zip_eq_some]; exact ⟨List.getElem?_eq_getElem h16, List.getElem?_eq_getElem hlt⟩
  refine zA (xO sc9 rfl rfl (fun _ h => vD h (j := 1) rfl (List.getElem?_eq_getElem h16)) ?_)
  refine sT (zC ?_)
  refine xX xE (yJ ?_)
  refine tP 1 rfl wanted0 (yO rfl) (tP 2 rfl wanted0 (yN xV rfl) ?_)
  refine tP 4 rfl wanted0 (yO rfl) (yZ ?_)
  refine tM 0 rfl wanted0 (uE 0 rfl ag25 rfl) (tM 3 rfl wanted0 (xW 2 sc23 rfl rfl rfl) ?_)
  refine tM 5 rfl wanted0 (sC 2 sl23 rfl rfl rfl hlt) (qB 2 rfl (List.getElem?_eq_getElem hlt) (fun vs26 hl26 => ?_))
  refine yZ (tM 6 rfl wanted0 (qC 0 hl26 ag25 rfl rfl) ?_)
  refine yA 7 (by decide +kernel) ?_
  refine yC (I2 := [[], [], [], []]) rfl wanted0 (by decide +kernel) (fun Kd hKd => ?_)
  refine zW rfl rfl rfl (c64 (setL ((no.keys.zip no.items).take i) nv) (no.items[i]'hlt) (no.keys[i]'h16) _ _ (by omega) hwe (hksz _ (List.getElem_mem h16))) (by first | exact sub2 0 1 rfl rfl | exact sub2 0 2 rfl rfl | exact sub2 0 3 rfl rfl | exact sub2 0 4 rfl rfl | exact sub2 0 5 rfl rfl | exact sub2 0 6 rfl rfl | exact sub2 0 7 rfl rfl | exact sub2 1 0 rfl rfl | exact sub2 1 2 rfl rfl | exact sub2 1 3 rfl rfl | exact sub2 1 4 rfl rfl | exact sub2 1 5 rfl rfl | exact sub2 1 6 rfl rfl | exact sub2 1 7 rfl rfl | exact sub2 2 0 rfl rfl | exact sub2 2 1 rfl rfl | exact sub2 2 3 rfl rfl | exact sub2 2 4 rfl rfl | exact sub2 2 5 rfl rfl | exact sub2 2 6 rfl rfl | exact sub2 2 7 rfl rfl | exact sub2 3 0 rfl rfl | exact sub2 3 1 rfl rfl | exact sub2 3 2 rfl rfl | exact sub2 3 4 rfl rfl | exact sub2 3 5 rfl rfl | exact sub2 3 6 rfl rfl | exact sub2 3 7 rfl rfl | exact sub2 4 0 rfl rfl | exact sub2 4 1 rfl rfl | exact sub2 4 2 rfl rfl | exact sub2 4 3 rfl rfl | exact sub2 4 5 rfl rfl | exact sub2 4 6 rfl rfl | exact sub2 4 7 rfl rfl | exact sub2 5 0 rfl rfl | exact sub2 5 1 rfl rfl | exact sub2 5 2 rfl rfl | exact sub2 5 3 rfl rfl | exact sub2 5 4 rfl rfl | exact sub2 5 6 rfl rfl | exact sub2 5 7 rfl rfl | exact sub2 6 0 rfl rfl | exact sub2 6 1 rfl rfl | exact sub2 6 2 rfl rfl | exact sub2 6 3 rfl rfl | exact sub2 6 4 rfl rfl | exact sub2 6 5 rfl rfl | exact sub2 6 7 rfl rfl | exact sub2 7 0 rfl rfl | exact sub2 7 1 rfl rfl | exact sub2 7 2 rfl rfl | exact sub2 7 3 rfl rfl | exact sub2 7 4 rfl rfl | exact sub2 7 5 rfl rfl | exact sub2 7 6 rfl rfl) (fun u27 D27 hv27 => ?_)
  rw [setL_step hp] at hv27
  obtain ⟨A27, m27, B27, d27, rfl, rfl⟩ := hv27
  refine hKd _ _ _ (zL (zL (zL (zL (yD))))) (yA 8 (by decide +kernel) ?_)
  refine yC (I2 := [[], [], [], []]) rfl wanted0 (by decide +kernel) (fun Kd hKd => ?_)
  refine zR 0 (M' := [HA.blk _ [_, _, _, _, _] _, _, _, _]) rfl rfl rfl rfl si25 rfl rfl rfl (hKd _ _ _ (zL (zL (zL (zL (yD))))) ?_)
  refine xF (by decide +kernel) (kE [(15, _), (14, _), (13, _), (5, _), (4, _), (3, _)] rfl ?_)
  refine zQ (zB ?_)
  refine zA (xH rfl rfl (by omega) ?_)
  refine zA (zF rfl rfl ?_)
  refine zC ?_
  exact kQ (hK (i + 1, _, _, _, _) (by show i + 1 ≤ _; omega) (by show no.keys.length - (i + 1) < no.keys.length - i; omega)) (eC rfl (eC rfl (eC rfl (eC rfl (eC rfl (eC rfl (eN _))))))) (hD := (subc 0 rfl sQ))
 obtain rfl : i = no.keys.length := by omega
 have hfin : setL ((no.keys.zip no.items).take no.keys.length) nv = copiedV v o := by
  rw [List.take_of_length_le (by rw [List.length_zip]; omega), hnv, hno]
  rfl
 refine yK rfl (zD ?_)
 refine zB (zA ?_)
 refine yQ 0 rfl ag25 rfl rfl (zA ?_)
 refine zR 1 (M' := [_, HA.blk _ [_, _, _, _, _] _, _, _]) rfl rfl rfl rfl si25 rfl rfl rfl (zC ?_)
 exact vH 1 Tryz.results37 rfl rfl ag25 ⟨rfl, Ew, ew, Fw, fw, by rw [← hfin], by rw [← hfin]⟩ nS (sub1 0 rfl)
theorem c38 (fb : Addr) (v o : V) (x y : Value) (hv : Sch v) (ho : Sch o) (hc : Sch (copiedV v o)) : CtR Tryz.prog 38 #[x, y] [.val x v, .val y o, .tab, ftA fb] (RTV (wr (copiedV v o))) := by
 refine Ct.of_run (args := [x, y]) Tryz.func38 (by kernel_rfl) rfl Tryz.ntmps38 rfl (fun c => ?_)
 refine wC 0 rfl (fun A1 c1 A2 c2 hx hsz1 hk1 hk2 hi1 hi2 => ?_)
 subst hx
 refine wC 3 rfl (fun A3 c3 A4 c4 hx hsz3 hk3 hk4 hi3 hi4 => ?_)
 subst hx
 refine zD (zB ?_)
 refine zA (xL rfl rfl rfl (fun b2 => ?_))
 refine zA (xL rfl rfl rfl (fun b3 => ?_))
 refine zA (yM ze34 rfl (fun b4 => ?_))
 change RunOps _ _ _ _ _ _ _ _ (HA.blk _ [_, _, _, _, _, _] _ :: _) _
 refine zC (zD ?_)
 refine xX xE (tM 0 rfl wanted0 (uE 2 rfl ag25 rfl) ?_)
 refine tM 2 rfl wanted0 (uE 1 rfl ag25 rfl) (yA 1 (by decide +kernel) ?_)
 refine yC (I2 := [[2]]) rfl wanted0 (by decide +kernel) (fun Kd hKd => ?_)
 refine tH (M1 := []) rfl rfl rfl (c57 (ftA fb) false v _ (.inl (numC fb)) hv.1 hv.2) rfl (by intro d hd; simp only [List.mem_cons, List.not_mem_nil, or_false] at hd ⊢; rcases hd with rfl | rfl | rfl <;> simp) (fun u8 M8 D8 hv8 => ?_)
 obtain ⟨b8, G8, mb8, es8, ck8, rfl, rfl, rfl, hU8, hO8, hN8⟩ := hv8
 refine hKd _ _ _ (hC (yD)) (yA 3 (by decide +kernel) ?_)
 refine yC (I2 := [[]]) rfl wanted0 (by decide +kernel) (fun Kd hKd => ?_)
 refine tH (M1 := []) rfl rfl rfl (c57 (ftA fb) false o _ (.inl (numC fb)) ho.1 ho.2) rfl (by intro d hd; simp only [List.mem_cons, List.not_mem_nil, or_false] at hd ⊢; rcases hd with rfl | rfl | rfl <;> simp) (fun u10 M10 D10 hv10 => ?_)
 obtain ⟨b10, G10, mb10, es10, ck10, rfl, rfl, rfl, hU10, hO10, hN10⟩ := hv10
 refine hKd _ _ _ (zL (yD)) (yJ ?_)
 refine tP 4 rfl wanted0 (xZ rfl) (tP 5 rfl wanted0 (xZ rfl) ?_)
 refine xF (by decide +kernel) (zD ?_)
 refine zD (zB ?_)
 refine zA (zF rfl rfl ?_)
 refine zA (rB pn63 rfl rfl ?_)
 refine zA (zF rfl rfl ?_)
 refine vB (s := 13) rfl (rfl) (zK rfl rfl ?_)
 refine zF rfl rfl (zK rfl rfl ?_)
 refine rB pn63 rfl rfl (zA ?_)
 refine zO rfl rfl rfl (zC ?_)
 refine kE [(16, _), (6, _), (5, _), (4, _)] rfl (yE rfl (rfl) ?_)
 refine zJ (zD ?_)
 refine zB (sT ?_)
 refine ops_nd (fun hnd => ?_)
 have hg10 := graph_nodup hnd
 have hg8 := graph_nodup (List.nodup_append.1 (List.nodup_append.1 hnd).2.1).2.1
 obtain ⟨σ8, hσ8⟩ := GOk.ex hg8
 obtain ⟨σ10, hσ10⟩ := GOk.ex hg10
 obtain ⟨f8, ⟨cs0, hat8⟩, _⟩ := (uY G8 v b8).1 hU8
 obtain ⟨f10, ⟨cs1, hat10⟩, _⟩ := (uY G10 o b10).1 hU10
 have hf8 := (hσ8.2 b8 f8).1 ⟨cs0, hat8⟩
 have hf10 := (hσ10.2 b10 f10).1 ⟨cs1, hat10⟩
 obtain ⟨cs8, R8, hp8, hR8⟩ := hσ8.split hf8
 obtain ⟨cs10, R10, hp10, hR10⟩ := hσ10.split hf10
 refine ops_he (he_two hp8 hp10) (ops_more (.flds mb10 cs10 f10) (fun w ok h => (dget h 0 rfl : (DA.graph mb10 G10).p w ok) _ (hp10.mem_iff.2 List.mem_cons_self)) ?_)
 refine ops_more (.flds mb8 cs8 f8) (fun w ok h => (dget h 2 rfl : (DA.graph mb8 G8).p w ok) _ (hp8.mem_iff.2 List.mem_cons_self)) (zA ?_)
 refine tH (M1 := [_, _]) rfl rfl rfl (c74 b8 b10 mb8 mb10 cs8 cs10 f8 f10) rfl (sub2 0 1 rfl rfl) (fun u20 M20 D20 hv20 => ?_)
 obtain ⟨rfl, cs20, rfl, rfl⟩ := hv20
 have hunf := unf_copied hσ8 hR8 hv ho hU8 hf8 hU10 (fun f2 hf2 => Option.some.inj (((hσ10.2 b10 f2).1 hf2).symm.trans hf10)) cs20
 have hunf2 : Unf ((b8, cs20, cpy f8 f10) :: (R8 ++ (b10, cs10, f10) :: R10)) (copiedV v o) b8 := Unf.mono (fun g hg => by
  rcases List.mem_cons.1 hg with e | e
  ·exact List.mem_cons.2 (.inl e)
  ·refine List.mem_cons.2 (.inr ?_)
   rcases List.mem_append.1 e with e | e
   ·exact List.mem_append_left _ e
   ·exact List.mem_append_right _ (hp10.mem_iff.1 e)) _ _ hunf
 refine ops_he (he_join2 (f1 := cpy f8 f10) (f2 := f10)) (ops_frGr 0 0 rfl (fun w ok h g hg => ?_) rfl ?_)
 ·have h8 : (DA.graph mb8 G8).p w ok := dget h 4 rfl
  have h10 : (DA.graph mb10 G10).p w ok := dget h 3 rfl
  rcases List.mem_cons.1 hg with e | e
  ·rw [e]; exact ⟨mb8, (dget h 0 rfl : (DA.flds mb8 cs20 (cpy f8 f10)).p w ok)⟩
  ·rcases List.mem_append.1 e with e | e
   ·exact ⟨mb8, h8 g (hp8.mem_iff.2 (List.mem_cons_of_mem _ e))⟩
   ·exact ⟨mb10, h10 g (hp10.mem_iff.2 e)⟩
 refine zC (zD ?_)
 refine zB (zA ?_)
 refine zF rfl rfl (zA ?_)
 refine zW rfl rfl rfl (c60 fb 0 _ (copiedV v o) b8 hunf2 hc.1 hc.2) (by intro d hd; simp only [List.mem_cons, List.not_mem_nil, or_false] at hd ⊢; rcases hd with rfl | rfl | rfl <;> simp) (fun u22 D22 hv22 => ?_)
 obtain ⟨A22, m22, B22, d22, rfl, rfl⟩ := hv22
 refine zA (zR 2 (M' := [_, _, HA.blk _ [_, _, _, _, _, _] _, _, _]) rfl rfl rfl rfl si34 rfl rfl rfl ?_)
 refine zC ?_
 refine rI (M' := [HA.blk b4 [_, _, _, _, _, _] 34]) (by repeat (first | exact wP _ | refine yB 0 rfl ?_ | refine yB 1 rfl ?_ | refine yB 2 rfl ?_ | refine yB 3 rfl ?_ | refine yB 4 rfl ?_ | refine yB 5 rfl ?_)) ?_
 exact vH 0 Tryz.results38 rfl rfl ag34 ⟨rfl, _, _, _, _, rfl, rfl⟩ nS (sub1 0 rfl)
theorem l9 (fb : Addr) (v : V) (x : Value) (o : V) (y : Value) : CtV Tryz.prog 9 #[x, y] [.val x v, .val y o, .tab, ftA fb] (.bool true) := by
 refine Ct.of_run (args := [x, y]) Tryz.func9 (by kernel_rfl) rfl Tryz.ntmps9 rfl (fun c => ?_)
 refine wC 0 rfl (fun A1 c1 A2 c2 hx hsz1 hk1 hk2 hi1 hi2 => ?_)
 subst hx
 refine wC 3 rfl (fun A3 c3 A4 c4 hx hsz3 hk3 hk4 hi3 hi4 => ?_)
 subst hx
 refine zD (zB ?_)
 refine zA (xL rfl rfl rfl (fun b2 => ?_))
 refine zA (xL rfl rfl rfl (fun b3 => ?_))
 refine zA (zE rfl rfl ?_)
 refine zC (zD ?_)
 refine zD (zB ?_)
 refine zA (yQ 1 rfl ag25 rfl rfl ?_)
 refine zA (zV rfl rfl rfl (c19 _ v) (by first | exact sub1 0 rfl | exact sub1 1 rfl | exact sub1 2 rfl | exact sub1 3 rfl | exact sub1 4 rfl | exact sub1 5 rfl | exact sub1 6 rfl | exact sub1 7 rfl) ?_)
 refine sT (yY (s := 8) rfl (fun h8 => ?_) (fun h8 => ?_))
 ·refine zG rfl rfl rfl rfl (zG rfl rfl rfl rfl ?_)
  refine zG rfl rfl rfl rfl (zA ?_)
  refine zO rfl rfl rfl (zC ?_)
  refine kE [(12, _), (3, _), (2, _)] rfl (xJ rfl ?_)
  refine zD (zB ?_)
  refine zA (zE rfl rfl ?_)
  refine zC ?_
  exact zI Tryz.results9 rfl ⟨rfl, rfl, rfl⟩ nS (fun _ h => by cases h)
 refine zK rfl rfl (yQ 0 rfl ag25 rfl rfl ?_)
 refine zK rfl rfl (zV rfl rfl rfl (c19 _ o) (by first | exact sub1 0 rfl | exact sub1 1 rfl | exact sub1 2 rfl | exact sub1 3 rfl | exact sub1 4 rfl | exact sub1 5 rfl | exact sub1 6 rfl | exact sub1 7 rfl) ?_)
 refine zK rfl rfl (sP rfl rfl ?_)
 refine zA (zO rfl rfl rfl ?_)
 refine zC (kE [(12, _), (3, _), (2, _)] rfl ?_)
 refine yI rfl (fun h12 => ?_) (fun h12 => ?_)
 ·refine zD (zB ?_)
  refine zA (zE rfl rfl ?_)
  refine zC ?_
  exact zI Tryz.results9 rfl ⟨rfl, rfl, rfl⟩ nS (fun _ h => by cases h)
 refine zJ (zD ?_)
 refine zD (zB ?_)
 refine zA (yQ 1 rfl ag25 rfl rfl ?_)
 refine zA (zV rfl rfl rfl (c20 v _) (by first | exact sub1 0 rfl | exact sub1 1 rfl | exact sub1 2 rfl | exact sub1 3 rfl | exact sub1 4 rfl | exact sub1 5 rfl | exact sub1 6 rfl | exact sub1 7 rfl) ?_)
 refine sT (yY (s := 16) rfl (fun h16 => ?_) (fun h16 => ?_))
 ·refine zG rfl rfl rfl rfl (zG rfl rfl rfl rfl ?_)
  refine zG rfl rfl rfl rfl (zA ?_)
  refine zO rfl rfl rfl (zA ?_)
  refine zF rfl rfl (zG rfl rfl rfl rfl ?_)
  refine zG rfl rfl rfl rfl (zG rfl rfl rfl rfl ?_)
  refine zG rfl rfl rfl rfl (zG rfl rfl rfl rfl ?_)
  refine zA (zO rfl rfl rfl ?_)
  refine zC (kE [(27, _), (3, _), (2, _)] rfl ?_)
  refine xJ rfl (zD ?_)
  refine zB (zA ?_)
  refine zE rfl rfl (zC ?_)
  exact zI Tryz.results9 rfl ⟨rfl, rfl, rfl⟩ nS (fun _ h => by cases h)
 have hsv0 := xG.1 (by simpa using h16)
 have hv : Sch v := ⟨⟨12, hsv0.1.1⟩, hsv0.2⟩
 refine zK rfl rfl (yQ 0 rfl ag25 rfl rfl ?_)
 refine zK rfl rfl (zV rfl rfl rfl (c20 o _) (by first | exact sub1 0 rfl | exact sub1 1 rfl | exact sub1 2 rfl | exact sub1 3 rfl | exact sub1 4 rfl | exact sub1 5 rfl | exact sub1 6 rfl | exact sub1 7 rfl) ?_)
 refine zK rfl rfl (sP rfl rfl ?_)
 refine zA (zO rfl rfl rfl ?_)
 refine zA (zF rfl rfl ?_)
 refine yY (s := 21) rfl (fun h21 => ?_) (fun h21 => ?_)
 ·refine zG rfl rfl rfl rfl (zG rfl rfl rfl rfl ?_)
  refine zG rfl rfl rfl rfl (zG rfl rfl rfl rfl ?_)
  refine zG rfl rfl rfl rfl (zA ?_)
  refine zO rfl rfl rfl (zC ?_)
  refine kE [(27, _), (3, _), (2, _)] rfl (xJ rfl ?_)
  refine zD (zB ?_)
  refine zA (zE rfl rfl ?_)
  refine zC ?_
  exact zI Tryz.results9 rfl ⟨rfl, rfl, rfl⟩ nS (fun _ h => by cases h)
 have hso0 := xG.1 (by simpa using h21)
 have ho : Sch o := ⟨⟨12, hso0.1.1⟩, hso0.2⟩
 refine zK rfl rfl (yQ 1 rfl ag25 rfl rfl ?_)
 refine zK rfl rfl (yQ 0 rfl ag25 rfl rfl ?_)
 refine zK rfl rfl ?_
 refine zW rfl rfl rfl (c37 v o _ _ hv ho) (by first | exact sub2 0 1 rfl rfl | exact sub2 0 2 rfl rfl | exact sub2 0 3 rfl rfl | exact sub2 0 4 rfl rfl | exact sub2 0 5 rfl rfl | exact sub2 0 6 rfl rfl | exact sub2 0 7 rfl rfl | exact sub2 1 0 rfl rfl | exact sub2 1 2 rfl rfl | exact sub2 1 3 rfl rfl | exact sub2 1 4 rfl rfl | exact sub2 1 5 rfl rfl | exact sub2 1 6 rfl rfl | exact sub2 1 7 rfl rfl | exact sub2 2 0 rfl rfl | exact sub2 2 1 rfl rfl | exact sub2 2 3 rfl rfl | exact sub2 2 4 rfl rfl | exact sub2 2 5 rfl rfl | exact sub2 2 6 rfl rfl | exact sub2 2 7 rfl rfl | exact sub2 3 0 rfl rfl | exact sub2 3 1 rfl rfl | exact sub2 3 2 rfl rfl | exact sub2 3 4 rfl rfl | exact sub2 3 5 rfl rfl | exact sub2 3 6 rfl rfl | exact sub2 3 7 rfl rfl | exact sub2 4 0 rfl rfl | exact sub2 4 1 rfl rfl | exact sub2 4 2 rfl rfl | exact sub2 4 3 rfl rfl | exact sub2 4 5 rfl rfl | exact sub2 4 6 rfl rfl | exact sub2 4 7 rfl rfl | exact sub2 5 0 rfl rfl | exact sub2 5 1 rfl rfl | exact sub2 5 2 rfl rfl | exact sub2 5 3 rfl rfl | exact sub2 5 4 rfl rfl | exact sub2 5 6 rfl rfl | exact sub2 5 7 rfl rfl | exact sub2 6 0 rfl rfl | exact sub2 6 1 rfl rfl | exact sub2 6 2 rfl rfl | exact sub2 6 3 rfl rfl | exact sub2 6 4 rfl rfl | exact sub2 6 5 rfl rfl | exact sub2 6 7 rfl rfl | exact sub2 7 0 rfl rfl | exact sub2 7 1 rfl rfl | exact sub2 7 2 rfl rfl | exact sub2 7 3 rfl rfl | exact sub2 7 4 rfl rfl | exact sub2 7 5 rfl rfl | exact sub2 7 6 rfl rfl) (fun u24 D24 hv24 => ?_)
 obtain ⟨A24, m24, B24, d24, rfl, rfl⟩ := hv24
 refine zK rfl rfl (zV rfl rfl rfl (c20 (copiedV v o) _) (by first | exact sub1 0 rfl | exact sub1 1 rfl | exact sub1 2 rfl | exact sub1 3 rfl | exact sub1 4 rfl | exact sub1 5 rfl | exact sub1 6 rfl | exact sub1 7 rfl) ?_)
 refine zK rfl rfl (sP rfl rfl ?_)
 refine zA (zO rfl rfl rfl ?_)
 refine zC (kE [(27, _), (3, _), (2, _)] rfl ?_)
 refine yI rfl (fun h27 => ?_) (fun h27 => ?_)
 ·refine zD (zB ?_)
  refine zA (zE rfl rfl ?_)
  refine zC ?_
  exact zI Tryz.results9 rfl ⟨rfl, rfl, rfl⟩ nS (fun _ h => by cases h)
 have hsc0 := xG.1 (by simpa using h27)
 have hc : Sch (copiedV v o) := ⟨⟨12, hsc0.1.1⟩, hsc0.2⟩
 have hpw := pl_wr hc.2 hc.1
 refine zJ (zD ?_)
 refine xX xE (tM 0 rfl wanted0 (uE 1 rfl ag25 rfl) ?_)
 refine tM 1 rfl wanted0 (uE 0 rfl ag25 rfl) (tM 3 rfl wanted0 (uE 1 rfl ag25 rfl) ?_)
 refine tM 4 rfl wanted0 (uE 0 rfl ag25 rfl) (yA 2 (by decide +kernel) ?_)
 refine yC (I2 := [[4, 3]]) rfl wanted0 (by decide +kernel) (fun Kd hKd => ?_)
 refine zW rfl rfl rfl (c38 fb v o _ _ hv ho hc) (by intro d hd; simp only [List.mem_cons, List.not_mem_nil, or_false] at hd ⊢; rcases hd with rfl | rfl | rfl | rfl <;> simp) (fun u30 D30 hv30 => ?_)
 obtain ⟨A30, m30, B30, d30, rfl, rfl⟩ := hv30
 refine hKd _ _ _ (hC (yD)) (yA 5 (by decide +kernel) ?_)
 refine yC (I2 := [[]]) rfl wanted0 (by decide +kernel) (fun Kd hKd => ?_)
 refine zW rfl rfl rfl (c37 v o _ _ hv ho) (by first | exact sub2 0 1 rfl rfl | exact sub2 0 2 rfl rfl | exact sub2 0 3 rfl rfl | exact sub2 0 4 rfl rfl | exact sub2 0 5 rfl rfl | exact sub2 0 6 rfl rfl | exact sub2 0 7 rfl rfl | exact sub2 1 0 rfl rfl | exact sub2 1 2 rfl rfl | exact sub2 1 3 rfl rfl | exact sub2 1 4 rfl rfl | exact sub2 1 5 rfl rfl | exact sub2 1 6 rfl rfl | exact sub2 1 7 rfl rfl | exact sub2 2 0 rfl rfl | exact sub2 2 1 rfl rfl | exact sub2 2 3 rfl rfl | exact sub2 2 4 rfl rfl | exact sub2 2 5 rfl rfl | exact sub2 2 6 rfl rfl | exact sub2 2 7 rfl rfl | exact sub2 3 0 rfl rfl | exact sub2 3 1 rfl rfl | exact sub2 3 2 rfl rfl | exact sub2 3 4 rfl rfl | exact sub2 3 5 rfl rfl | exact sub2 3 6 rfl rfl | exact sub2 3 7 rfl rfl | exact sub2 4 0 rfl rfl | exact sub2 4 1 rfl rfl | exact sub2 4 2 rfl rfl | exact sub2 4 3 rfl rfl | exact sub2 4 5 rfl rfl | exact sub2 4 6 rfl rfl | exact sub2 4 7 rfl rfl | exact sub2 5 0 rfl rfl | exact sub2 5 1 rfl rfl | exact sub2 5 2 rfl rfl | exact sub2 5 3 rfl rfl | exact sub2 5 4 rfl rfl | exact sub2 5 6 rfl rfl | exact sub2 5 7 rfl rfl | exact sub2 6 0 rfl rfl | exact sub2 6 1 rfl rfl | exact sub2 6 2 rfl rfl | exact sub2 6 3 rfl rfl | exact sub2 6 4 rfl rfl | exact sub2 6 5 rfl rfl | exact sub2 6 7 rfl rfl | exact sub2 7 0 rfl rfl | exact sub2 7 1 rfl rfl | exact sub2 7 2 rfl rfl | exact sub2 7 3 rfl rfl | exact sub2 7 4 rfl rfl | exact sub2 7 5 rfl rfl | exact sub2 7 6 rfl rfl) (fun u33 D33 hv33 => ?_)
 obtain ⟨A33, m33, B33, d33, rfl, rfl⟩ := hv33
 refine hKd _ _ _ (zL (yD)) (yA 6 (by decide +kernel) ?_)
 refine yC (I2 := [[]]) rfl wanted0 (by decide +kernel) (fun Kd hKd => ?_)
 refine zV rfl rfl rfl (c27 (wr (copiedV v o)) (copiedV v o) hpw.wf hc.1.wf _ _ _ _ _) (by first | exact sub2 0 1 rfl rfl | exact sub2 0 2 rfl rfl | exact sub2 0 3 rfl rfl | exact sub2 0 4 rfl rfl | exact sub2 0 5 rfl rfl | exact sub2 0 6 rfl rfl | exact sub2 0 7 rfl rfl | exact sub2 1 0 rfl rfl | exact sub2 1 2 rfl rfl | exact sub2 1 3 rfl rfl | exact sub2 1 4 rfl rfl | exact sub2 1 5 rfl rfl | exact sub2 1 6 rfl rfl | exact sub2 1 7 rfl rfl | exact sub2 2 0 rfl rfl | exact sub2 2 1 rfl rfl | exact sub2 2 3 rfl rfl | exact sub2 2 4 rfl rfl | exact sub2 2 5 rfl rfl | exact sub2 2 6 rfl rfl | exact sub2 2 7 rfl rfl | exact sub2 3 0 rfl rfl | exact sub2 3 1 rfl rfl | exact sub2 3 2 rfl rfl | exact sub2 3 4 rfl rfl | exact sub2 3 5 rfl rfl | exact sub2 3 6 rfl rfl | exact sub2 3 7 rfl rfl | exact sub2 4 0 rfl rfl | exact sub2 4 1 rfl rfl | exact sub2 4 2 rfl rfl | exact sub2 4 3 rfl rfl | exact sub2 4 5 rfl rfl | exact sub2 4 6 rfl rfl | exact sub2 4 7 rfl rfl | exact sub2 5 0 rfl rfl | exact sub2 5 1 rfl rfl | exact sub2 5 2 rfl rfl | exact sub2 5 3 rfl rfl | exact sub2 5 4 rfl rfl | exact sub2 5 6 rfl rfl | exact sub2 5 7 rfl rfl | exact sub2 6 0 rfl rfl | exact sub2 6 1 rfl rfl | exact sub2 6 2 rfl rfl | exact sub2 6 3 rfl rfl | exact sub2 6 4 rfl rfl | exact sub2 6 5 rfl rfl | exact sub2 6 7 rfl rfl | exact sub2 7 0 rfl rfl | exact sub2 7 1 rfl rfl | exact sub2 7 2 rfl rfl | exact sub2 7 3 rfl rfl | exact sub2 7 4 rfl rfl | exact sub2 7 5 rfl rfl | exact sub2 7 6 rfl rfl) (hKd _ _ _ (zL (yD)) ?_)
 refine yJ (tP 7 rfl wanted0 (xZ rfl) ?_)
 refine xF (by decide +kernel) (kE [(4, _)] rfl ?_)
 exact zI Tryz.results9 rfl ⟨congrArg Value.bool (tb_t ((bare_wr _).trans (congrArg bareV (copied_fix hv ho hc)))), rfl, rfl⟩ nS (fun _ h => by cases h)
end Go.Jw

namespace Go.Jw
open Go Go.RowKit Go.Proofs Go.ChangeShapes Go.WideShapes Go.Proofs.YtlcfillobkdnmaaGreatDoor
set_option maxRecDepth 8000
theorem lt_of_cell {w : World} {a : Addr} {v : Value} (h : w.cell? a = some v) : a.block < w.heap.size := by
 rcases Nat.lt_or_ge a.block w.heap.size with hlt | hge
 ·exact hlt
 ·unfold World.cell? at h
  rw [Array.getElem?_eq_none hge] at h
  simp at h
theorem ce9 : Tryz.prog.cellsOf 9 = 1 := by kernel_rfl
theorem ce25 : Tryz.prog.cellsOf 25 = 5 := by kernel_rfl
theorem ce2 : Tryz.prog.cellsOf 2 = 1 := by kernel_rfl
theorem ce22 : Tryz.prog.cellsOf 22 = 1 := by kernel_rfl
theorem ce23 : Tryz.prog.cellsOf 23 = 1 := by kernel_rfl
section
variable {H : Type} {enc : TypeId × Value → H} {W : World} {held : Bool}
theorem strs_of_trod {n : Nat} {kv : Value} {x : DataW H × List MemPlace} (h : DataW.trod enc Tryz.prog W 0 (fun _ => true) held n 22 [kv] = some x) : ∃ ks, StrsP W (· < W.heap.size) kv ks := by
 rcases open_strings Tryz.underlying22 Tryz.underlying9 ce9 h with ⟨h1, _⟩ | ⟨a, len, cap, ss, h1, _, hl, hc, hs, _, hg, hsz⟩
 ·injection h1 with h1
  exact ⟨[], none, 0, h1, Nat.le_refl _, Nat.zero_le _, (fun s hs => by cases hs), fun i s hi => by simp at hi⟩
 ·injection h1 with h1
  simp only [if_true] at hs
  have hlen : (ss.take len).length = len := by rw [List.length_take]; omega
  refine ⟨ss.take len, some a, cap, by rw [hlen]; exact h1, by omega, hc, fun s hm => hsz s (List.mem_of_mem_take hm), fun i s hi => ?_⟩
  have hil : i < len := by
   have := (List.getElem?_eq_some_iff.1 hi).1
   omega
  have hi' : ss[i]? = some s := by rw [← hi, List.getElem?_take]; simp [hil]
  have hcell := hg i (by omega)
  have hd : ss.getD i ByteArray.empty = s := by rw [List.getD_eq_getElem?_getD, hi']; rfl
  rw [hd] at hcell
  exact ⟨a, rfl, by have := lt_of_cell hcell; rwa [uU] at this, by rw [Nat.mul_one]; exact hcell⟩
theorem bulk_sum : ∀ (l : List V) (l' : List (DataW H)), l.length = l'.length → (∀ (i : Nat) t d, l[i]? = some t → l'[i]? = some d → 2 * nodes t ≤ Rows.uptoBulk d) → 2 * (l.map nodes).sum ≤ Rows.uptoBulkAll l'
  | [], _, _, _ => Nat.zero_le _
  | t :: l, [], h, _ => by simp at h
  | t :: l, d :: l', h, hi => by
    have h1 := hi 0 t d rfl rfl
    have h2 := bulk_sum l l' (by simpa using h) (fun i t d a b => hi (i + 1) t d (by simpa using a) (by simpa using b))
    simp only [List.map_cons, List.sum_cons, Rows.uptoBulkAll]
    omega
theorem val_of_trod (n : Nat) : ∀ (cs : List Value) (x : DataW H × List MemPlace), DataW.trod enc Tryz.prog W 0 (fun _ => true) held n 25 cs = some x → ∃ t, ValP W (· < W.heap.size) t (.agg cs.toArray) ∧ 2 * nodes t ≤ Rows.uptoBulk x.1 := by
  induction n using Nat.strongRecOn with
  | _ n IH =>
    intro cs x h
    obtain ⟨xs, m, hm, rfl, hl, hlen, hf⟩ := DataW.trod_struct Tryz.underlying25 h
    rw [ce25] at hl
    match cs, hl with
    | [c0, c1, c2, c3, c4], _ =>
    match xs, hlen with
    | [y0, y1, y2, y3, y4], _ =>
    have h0 : DataW.trod enc Tryz.prog W 0 (fun _ => true) held m 2 [c0] = some y0 := by simpa [ce2] using hf 0 _ rfl
    have h1 : DataW.trod enc Tryz.prog W 0 (fun _ => true) held m 2 [c1] = some y1 := by simpa [ce2] using hf 1 _ rfl
    have h2 : DataW.trod enc Tryz.prog W 0 (fun _ => true) held m 9 [c2] = some y2 := by simpa [ce9] using hf 2 _ rfl
    have h3 : DataW.trod enc Tryz.prog W 0 (fun _ => true) held m 22 [c3] = some y3 := by simpa [ce22] using hf 3 _ rfl
    have h4 : DataW.trod enc Tryz.prog W 0 (fun _ => true) held m 23 [c4] = some y4 := by simpa [ce23] using hf 4 _ rfl
    obtain ⟨k, e0, g0⟩ := DataW.trod_int Tryz.underlying2 h0
    obtain ⟨q, e1, _⟩ := DataW.trod_int Tryz.underlying2 h1
    obtain ⟨s, e2, _, hs⟩ := DataW.trod_string Tryz.underlying9 h2
    obtain ⟨ks, hks⟩ := strs_of_trod h3
    injection e0 with e0; injection e1 with e1; injection e2 with e2
    subst e0; subst e1; subst e2
    have hy0 : Rows.uptoBulk y0.1 = 1 := by rw [g0.1]; simp [Rows.uptoBulk]
    have hbulk : Rows.uptoBulk y4.1 + 2 ≤ Rows.uptoBulk (DataW.agg [y0.1, y1.1, y2.1, y3.1, y4.1]) := by
      simp only [Rows.uptoBulk, Rows.uptoBulkAll]
      omega
    show ∃ t, _ ∧ 2 * nodes t ≤ Rows.uptoBulk (DataW.agg [y0.1, y1.1, y2.1, y3.1, y4.1])
    rcases DataW.trod_slice Tryz.underlying23 h4 with ⟨h5, _⟩ | ⟨a, len, cap, elems, rest, m', hm', h5, h6, hb, hle, hc, hln, hel, hsp, _⟩
    · injection h5 with h5
      refine ⟨.mk k q s ks [], ?_, ?_⟩
      · simp only [ValP]
        exact ⟨_, _, rfl, hs, hks, none, 0, h5, Nat.le_refl _, Nat.zero_le _, by simp [ItemsP]⟩
      · rw [nodes_eq]; simp only [imk, List.map_nil, List.sum_nil]; omega
    · injection h5 with h5
      have hall : ∀ i, ∃ t, i < len → ∃ csi, ∃ y, elems[i]? = some y ∧ W.cells? 0 (a.add (i * 5)) 5 = some csi ∧ ValP W (· < W.heap.size) t (.agg csi.toArray) ∧ 2 * nodes t ≤ Rows.uptoBulk y.1 := by
        intro i
        by_cases hi : i < len
        · have he := hel i hi
          rw [ce25, List.getElem?_eq_getElem (by omega)] at he
          obtain ⟨csi, hcs, htr⟩ := Option.bind_eq_some_iff.1 he
          obtain ⟨t, ht, hnt⟩ := IH m' (by omega) csi _ htr
          exact ⟨t, fun _ => ⟨csi, _, List.getElem?_eq_getElem (by omega), hcs, ht, hnt⟩⟩
        · exact ⟨zV0, fun h => absurd h hi⟩
      obtain ⟨f, hfa⟩ := Classical.axiomOfChoice hall
      have hget : ∀ j t, ((List.range len).map f)[j]? = some t → j < len ∧ t = f j := by
        intro j t hj
        rw [List.getElem?_map] at hj
        obtain ⟨z, hz, rfl⟩ := Option.map_eq_some_iff.1 hj
        obtain ⟨h1, h2⟩ := List.getElem?_eq_some_iff.1 hz
        rw [List.getElem_range] at h2
        rw [List.length_range] at h1
        exact ⟨h1, by rw [h2]⟩
      refine ⟨.mk k q s ks ((List.range len).map f), ?_, ?_⟩
      · simp only [ValP]
        refine ⟨_, _, rfl, hs, hks, some a, cap, by rw [List.length_map, List.length_range]; exact h5, by rw [List.length_map, List.length_range]; exact hle, hc, ItemsP.of_get fun j t hj => ?_⟩
        obtain ⟨hjl, rfl⟩ := hget j t hj
        obtain ⟨csi, y, _, hcs, hv, _⟩ := hfa j hjl
        obtain ⟨_, hcl, hcc⟩ := World.cells?_some hcs
        have hadd : ∀ q, (a.add (j * 5)).add q = a.add ((0 + j) * 5 + q) := fun q => by rw [Nat.zero_add]; exact add_add' a _ _
        refine ⟨a, .agg csi.toArray, rfl, ?_, fun q u hq => ?_, hv⟩
        · have := hcc 0 (by omega)
          rw [List.getElem?_eq_getElem (by omega)] at this
          have := lt_of_cell this
          rwa [uU, uU] at this
        · have hq' : csi[q]? = some u := by simpa [Value.cells] using hq
          have hql := (List.getElem?_eq_some_iff.1 hq').1
          rw [← hadd, hcc q (by omega)]
          exact hq'
      · have hsum := bulk_sum ((List.range len).map f) (elems.map (·.1)) (by simp; omega) (fun i t d ht hd => by
          obtain ⟨hil, rfl⟩ := hget i t ht
          obtain ⟨csi, y, hy, _, _, hn⟩ := hfa i hil
          rw [List.getElem?_map, hy] at hd
          injection hd with hd
          rw [← hd]; exact hn)
        rw [nodes_eq]
        simp only [imk]
        have : Rows.uptoBulkAll (elems.map (·.1)) ≤ Rows.uptoBulk y4.1 := by
          rw [h6]
          simp only [Rows.uptoBulk]
          omega
        omega
end
end Go.Jw

namespace Go.Jw
open Go Go.RowKit Go.Proofs Go.ChangeShapes Go.WideShapes Go.Proofs.YtlcfillobkdnmaaGreatDoor
set_option maxRecDepth 8000
theorem qY {P : Program} {w : World} {n : String} {d : DataW Unit} : ∀ {l : List (String × DataW Unit)} {ps : List MemPlace}, DataW.LaidVars P w l ps → (n, d) ∈ l →
    ∃ g t cs fuel p, P.globalNamed n = some g ∧ (P.globals[g]?).map (·.type) = some t ∧ w.var? P n = some cs ∧ DataW.trod (fun _ => ()) P w 0 (fun _ => true) false fuel t cs.toList = some (d, p)
  | [], _, _, h => by cases h
  | (n', d') :: l, ps, ⟨g, t, cs, fuel, p, q, h1, h2, h3, h4, h5, _⟩, h => by
    rcases List.mem_cons.1 h with h | h
    · injection h with h h'
      subst h; subst h'
      exact ⟨g, t, cs, fuel, p, h1, h2, h3, h4⟩
    · exact qY h5 h
theorem gU : Tryz.prog.globalNamed "internal/strconv.uint64pow10" = some 0 := by kernel_rfl
theorem gUt : (Tryz.prog.globals[0]?).map (·.type) = some 270 := by kernel_rfl
theorem ce235 : Tryz.prog.cellsOf 235 = 1 := by kernel_rfl
theorem ce270 : Tryz.prog.cellsOf 270 = 20 := by kernel_rfl
theorem tab_of {W : World} {l : List (String × DataW Unit)} (h : laidMet Tryz.prog l W) (hm : ("internal/strconv.uint64pow10", Rows.laid_internal_strconv_uint64pow10) ∈ l) : DA.tab.p W (· < W.heap.size) := by
  obtain ⟨ps, hv, _⟩ := h
  obtain ⟨g, t, cs, fuel, p, h1, h2, h3, h4⟩ := qY hv hm
  obtain rfl := Option.some.inj (gU.symm.trans h1)
  obtain rfl := Option.some.inj (gUt.symm.trans h2)
  have hc := Lib.cells_of_tab (zs := Lib.pow10Tab) Tryz.underlying270 Tryz.underlying235 ce235 ce270 h4
  unfold World.var? at h3
  rw [h1] at h3
  simp only [Option.bind_some] at h3
  cases hh : W.heap[0]? with
  | none => rw [hh] at h3; cases h3
  | some o =>
    rw [hh] at h3
    cases o with
    | cells c T fz =>
      simp at h3
      subst h3
      refine ⟨0, T, fz, gU, (Array.getElem?_eq_some_iff.1 hh).1, ?_⟩
      rw [hh, ← hc]
    | _ => simp at h3
def DA.any : DA := ⟨fun _ _ => True, fun _ _ _ => trivial⟩
theorem calls_of {f : FuncId} {args : Array Value} {D : List DA} {v : Value} {W : World} (h : CtV Tryz.prog f args D v) (hD : ∀ d ∈ D, d.p W (· < W.heap.size)) : Calls Tryz.prog f args W fun e W' => e = .returned v ∧ Below W.heap.size W W' :=
 (h.2 W (· < W.heap.size) (fun k hk => ⟨hk, by simp [foots]⟩) (by simp) (by simp [foots]) hD).mono fun e W' ⟨u, M', D', he, ⟨hu, hM, hd⟩, hc, _⟩ => ⟨by rw [he, hu], hc.below⟩
theorem laidOut : laidOutB Tryz.prog = true := by kernel_rfl
end Go.Jw

namespace Go.Jw
open Go Go.RowKit Go.Proofs Go.ChangeShapes Go.WideShapes Go.Proofs.YtlcfillobkdnmaaGreatDoor
set_option maxRecDepth 20000
section
variable {W : World}
noncomputable abbrev trodU (W : World) (fuel : Nat) (t : TypeId) (cs : List Value) := DataW.trod (fun _ => ()) Tryz.prog W 0 (fun _ => true) false fuel t cs
theorem var_of {l : List (String × DataW Unit)} (h : laidMet Tryz.prog l W) {n : String} {d : DataW Unit} (hm : (n, d) ∈ l) {g t : Nat} (hg : Tryz.prog.globalNamed n = some g) (ht : (Tryz.prog.globals[g]?).map (·.type) = some t) :
    ∃ (c : Array Value) (fuel : Nat) (p : List MemPlace), (∀ (i : Nat) v, c.toList[i]? = some v → W.cell? ⟨g, i, none⟩ = some v) ∧ trodU W fuel t c.toList = some (d, p) := by
  obtain ⟨ps, hv, _⟩ := h
  obtain ⟨g', t', cs, fuel, p, h1, h2, h3, h4⟩ := qY hv hm
  obtain rfl := Option.some.inj (hg.symm.trans h1)
  obtain rfl := Option.some.inj (ht.symm.trans h2)
  refine ⟨cs, fuel, p, fun i v hi => ?_, h4⟩
  unfold World.var? at h3
  rw [h1] at h3
  simp only [Option.bind_some] at h3
  unfold World.cell?
  cases hh : W.heap[g]? with
  | none => rw [hh] at h3; cases h3
  | some o =>
    rw [hh] at h3
    cases o with
    | cells c T fz =>
      simp at h3
      subst h3
      simpa using hi
    | _ => simp at h3
theorem trod_fl {fuel : Nat} {t : TypeId} {cs : List Value} {x : DataW Unit × List MemPlace} (ht : Tryz.prog.underlying t = some (.float .f64)) (h : trodU W fuel t cs = some x) : ∃ b, cs = [.float .f64 b] ∧ x = (.lit (.float .f64 b), []) := by
  cases fuel with
  | zero => simp [trodU, DataW.trod] at h
  | succ n =>
    unfold trodU DataW.trod at h
    rw [ht] at h
    split at h <;> simp_all
theorem ce359 : Tryz.prog.cellsOf 359 = 2 := by kernel_rfl
theorem ce360 : Tryz.prog.cellsOf 360 = 1392 := by kernel_rfl
theorem ce214 : Tryz.prog.cellsOf 214 = 1 := by kernel_rfl
theorem get1 {cs : List Value} {o : Nat} {v : Value} (h : (cs.drop o).take 1 = [v]) : cs[o]? = some v := by
 have := congrArg (·[0]?) h
 simpa [List.getElem?_take, List.getElem?_drop] using this
theorem pair_of {fuel : Nat} {cs : List Value} {x : DataW Unit × List MemPlace} {a b : Int} (h : trodU W fuel 359 cs = some x) (hx : x.1 = .agg [.lit (.int .u64 a), .lit (.int .u64 b)]) : cs[0]? = some (.int .u64 a) ∧ cs[1]? = some (.int .u64 b) := by
  obtain ⟨xs, n, _, rfl, _, hl, hf⟩ := DataW.trod_struct Tryz.underlying359 h
  have h0 := hf 0 _ rfl
  have h1 := hf 1 _ rfl
  have hxs : xs.map (·.1) = [.lit (.int .u64 a), .lit (.int .u64 b)] := by
    have := hx
    simpa using this
  match xs, hxs with
  | [y0, y1], hxs =>
    simp only [List.map_cons, List.map_nil, List.cons.injEq, and_true] at hxs
    obtain ⟨m0, e0, f0, _⟩ := DataW.trod_int Tryz.underlying235 h0
    obtain ⟨m1, e1, f1, _⟩ := DataW.trod_int Tryz.underlying235 h1
    subst f0; subst f1
    simp only [DataW.lit.injEq, Lit.int.injEq, true_and] at hxs
    obtain ⟨rfl, rfl⟩ := hxs
    exact ⟨get1 (o := 0) e0, get1 (o := 1) e1⟩
theorem row_of {fuel : Nat} {cs : List Value} {p : List MemPlace} (h : trodU W fuel 360 cs = some (Go.Pinned.pow10Tab, p)) (i : Nat) (hi : i < 696) {a b : Nat} (hr : Go.Pinned.pow10Rows[i]? = some (a, b)) : cs[2 * i]? = some (.int .u64 a) ∧ cs[2 * i + 1]? = some (.int .u64 b) := by
  cases fuel with
  | zero => simp [trodU, DataW.trod] at h
  | succ fuel =>
    simp only [trodU, DataW.trod, Tryz.underlying360, ce359, ce360] at h
    split at h
    · obtain ⟨xs, hm, hx⟩ := Option.map_eq_some_iff.1 h
      obtain ⟨y, hy, hf⟩ := Lib.mapM_at hm i i (by simp [hi])
      have hxs : xs.map (·.1) = Go.Pinned.pow10Rows.map fun x => .agg [.lit (.int .u64 x.1), .lit (.int .u64 x.2)] := by
        have := congrArg Prod.fst hx
        simpa [Go.Pinned.pow10Tab] using this
      have hy1 : y.1 = .agg [.lit (.int .u64 (a : Int)), .lit (.int .u64 (b : Int))] := by
        have := congrArg (·[i]?) hxs
        simp only [List.getElem?_map, hy, hr, Option.map_some, Option.some.injEq] at this
        exact this
      obtain ⟨h0, h1⟩ := pair_of hf hy1
      rw [List.getElem?_take, if_pos (by omega), List.getElem?_drop] at h0 h1
      rw [Nat.mul_comm 2 i]
      exact ⟨h0, h1⟩
    · cases h
theorem p10Tab (i : Nat) (h : i < 20) : Lib.pow10Tab[i]? = some ((10 ^ i : Nat) : Int) := (show ∀ i, i < 20 → Lib.pow10Tab[i]? = some ((10 ^ i : Nat) : Int) by decide) i h
theorem g4 : Tryz.prog.globalNamed "internal/strconv.optimize" = some 4 := by kernel_rfl
theorem g4t : (Tryz.prog.globals[4]?).map (·.type) = some 4 := by kernel_rfl
theorem g5 : Tryz.prog.globalNamed "internal/strconv.float64info" = some 5 := by kernel_rfl
theorem g5t : (Tryz.prog.globals[5]?).map (·.type) = some 305 := by kernel_rfl
theorem g10 : Tryz.prog.globalNamed "internal/strconv.float64pow10" = some 10 := by kernel_rfl
theorem g10t : (Tryz.prog.globals[10]?).map (·.type) = some 349 := by kernel_rfl
theorem g11 : Tryz.prog.globalNamed "internal/strconv.pow10Tab" = some 11 := by kernel_rfl
theorem g11t : (Tryz.prog.globals[11]?).map (·.type) = some 360 := by kernel_rfl
theorem r354 : Go.Pinned.pow10Rows[354]? = some (17592186044416000000, 0) := by kernel_rfl
theorem r355 : Go.Pinned.pow10Rows[355]? = some (10995116277760000000, 0) := by kernel_rfl
theorem ft_of {l : List (String × DataW Unit)} (h : laidMet Tryz.prog l W) (m0 : ("internal/strconv.uint64pow10", Rows.laid_internal_strconv_uint64pow10) ∈ l) (m4 : ("internal/strconv.optimize", Rows.laid_internal_strconv_optimize) ∈ l)
  (m5 : ("internal/strconv.float64info", Rows.laid_internal_strconv_float64info) ∈ l) (m10 : ("internal/strconv.float64pow10", Rows.laid_internal_strconv_float64pow10) ∈ l) (m11 : ("internal/strconv.pow10Tab", Rows.laid_internal_strconv_pow10Tab) ∈ l) :
  ∃ fb, (ftA fb).p W (· < W.heap.size) := by
 obtain ⟨c0, fu0, p0, k0, t0⟩ := var_of h m0 gU gUt
 obtain ⟨c4, fu4, p4, k4, t4⟩ := var_of h m4 g4 g4t
 obtain ⟨c5, fu5, p5, k5, t5⟩ := var_of h m5 g5 g5t
 obtain ⟨c10, fu10, p10, k10, t10⟩ := var_of h m10 g10 g10t
 obtain ⟨c11, fu11, p11, k11, t11⟩ := var_of h m11 g11 g11t
 have e0 := Lib.cells_of_tab (zs := Lib.pow10Tab) Tryz.underlying270 Tryz.underlying235 ce235 ce270 t0
 obtain ⟨b4, e4, f4⟩ := DataW.trod_bool Tryz.underlying4 t4
 have hb4 : b4 = true := by
  have := congrArg Prod.fst f4
  simp only [Rows.laid_internal_strconv_optimize, DataW.lit.injEq, Lit.bool.injEq] at this
  exact this.symm
 obtain ⟨xs5, n5, _, f5, _, _, hf5⟩ := DataW.trod_struct Tryz.underlying305 t5
 have h50 := hf5 0 _ rfl
 have hx5 : (xs5.map (·.1))[0]? = some (.lit (.int .u64 52)) := by
  have := congrArg Prod.fst f5
  simp only [Rows.laid_internal_strconv_float64info, DataW.agg.injEq] at this
  rw [← this]; rfl
 rw [List.getElem?_map] at hx5
 obtain ⟨y5, hy5, hy51⟩ := Option.map_eq_some_iff.1 hx5
 rw [hy5] at h50
 obtain ⟨m5v, e5, fy5, _⟩ := DataW.trod_int Tryz.underlying206 h50
 have hm5 : m5v = 52 := by
  rw [fy5] at hy51
  simp only [DataW.lit.injEq, Lit.int.injEq, true_and] at hy51
  exact hy51
 obtain ⟨h708, h709⟩ := row_of t11 354 (by decide) r354
 obtain ⟨h710, h711⟩ := row_of t11 355 (by decide) r355
 rcases DataW.trod_slice Tryz.underlying349 t10 with ⟨_, hx⟩ | ⟨a, len, cap, elems, rest, n10, _, e10, f10, _, hlc, _, hel, hell, hrest, _⟩
 ·have := congrArg Prod.fst hx
  simp [Rows.laid_internal_strconv_float64pow10] at this
 have hd := congrArg Prod.fst f10
 simp only [Rows.laid_internal_strconv_float64pow10, DataW.slice.injEq] at hd
 obtain ⟨hd1, hd2⟩ := hd
 have hlen : len = 23 := by
  rw [← hel]
  have := congrArg List.length hd1
  simpa using this.symm
 have hcap : cap = 23 := by
  have h1 := (hrest rfl).1
  have h2 : rest = [] := List.map_eq_nil_iff.1 hd2.symm
  rw [h2] at h1
  simp only [List.length_nil] at h1
  omega
 have hfl : ∀ i m, i < 23 → (elems.map (·.1))[i]? = some (.lit (.float .f64 m)) → W.cell? (a.add i) = some (.float .f64 m) := fun i m hi hm => by
  rw [List.getElem?_map] at hm
  obtain ⟨y, hy, hy1⟩ := Option.map_eq_some_iff.1 hm
  have h1 := hell i (by omega)
  rw [hy, ce214, Nat.mul_one] at h1
  obtain ⟨cs, hcs, ht⟩ := Option.bind_eq_some_iff.1 h1
  obtain ⟨q, rfl, fq⟩ := trod_fl Tryz.underlying214 ht
  rw [fq] at hy1
  simp only [DataW.lit.injEq, Lit.float.injEq, true_and] at hy1
  subst hy1
  unfold World.cells? at hcs
  split at hcs
  ·obtain ⟨v, hv, hv2⟩ := Lib.mapM_at hcs 0 0 rfl
   simp only [List.getElem?_cons_zero, Option.some.injEq] at hv
   rw [hv]
   simpa [Addr.add] using hv2
  ·cases hcs
 rw [← hd1] at hfl
 refine ⟨a, tab_of h m0, fun q hq => ?_⟩
 suffices hc : W.cell? q.1 = some q.2 from ⟨lt_of_cell hc, hc⟩
 simp only [ftL, List.cons_append, List.nil_append, List.mem_cons, List.mem_map, List.mem_range] at hq
 rcases hq with rfl | rfl | rfl | rfl | rfl | rfl | rfl | rfl | rfl | rfl | ⟨i, hi, rfl⟩
 ·exact k4 0 _ (by rw [e4, hb4]; rfl)
 ·exact k5 0 _ (by rw [← hm5]; exact get1 (o := 0) e5)
 ·exact k10 0 _ (by rw [e10, hlen, hcap]; rfl)
 ·exact hfl 1 _ (by decide) rfl
 ·exact hfl 2 _ (by decide) rfl
 ·exact hfl 6 _ (by decide) rfl
 ·exact k11 708 _ h708
 ·exact k11 709 _ h709
 ·exact k11 710 _ h710
 ·exact k11 711 _ h711
 ·exact k0 i _ (by rw [e0, List.getElem?_map, p10Tab i hi]; rfl)
end
end Go.Jw

namespace Go.Jw
open Go Go.Proofs Go.Proofs.YtlcfillobkdnmaaGreatDoor
set_option maxRecDepth 100000
theorem ty_later : Tryz.prog.laidByTextLater (Rows.fnTextedRow.laid.take 11) [.data, .data, .widerDeep, .widerDeep, .data, .data, .data, .data, .data, .sentinel, .sentinel] true :=
 Program.laidByTextLater_by_one 91 8 65 (by kernel_rfl) (by kernel_rfl) (by kernel_rfl) (by kernel_rfl) (by kernel_rfl) (by kernel_rfl) (fun _ _ => by kernel_rfl)
theorem ty_pin1 : Tryz.pinned.checked.prog.pinnedFits "internal/strconv.leftcheats" = true := by kernel_rfl
theorem ty_pin2 : Tryz.pinned.checked.prog.pinnedFits "internal/strconv.pow10Tab" = true := by kernel_rfl
theorem ty_own : Tryz.pinned.checked.prog.headLifts.contains "ownunsafe" = false := by kernel_rfl
theorem ty_fits : Tryz.pinned.checked.prog.listedFits Rows.fnTextedRow.laid = true := by
 unfold Program.listedFits
 rw [ty_own]
 kernel_rfl
theorem ty_row (c : OpenClaim) (hl : c.laid = Rows.fnTextedRow.laid) (hs : c.start = .entering) :
    c.laidByTextAt .later Tryz.pinned [.data, .data, .widerDeep, .widerDeep, .data, .data, .data, .data, .data, .sentinel, .sentinel, .pinned, .pinned] true :=
  OpenClaim.laidByTextAt_pinned (by rw [hl]; rfl) hs ty_later rfl (by rw [hl]; rfl) (by rw [hl]; rfl) rfl (fun y hy _e => by
    rw [hl] at hy
    simp only [Rows.fnTextedRow, List.zip_cons_cons, List.zip_nil_right, List.mem_cons, List.mem_nil_iff, or_false] at hy
    rcases hy with rfl | rfl | rfl | rfl | rfl | rfl | rfl | rfl | rfl | rfl | rfl | rfl | rfl
    iterate 11 exact nomatch _e
    exact ⟨ty_pin1, by kernel_rfl⟩
    exact ⟨ty_pin2, by kernel_rfl⟩) (by rw [hl]; exact ty_fits)
end Go.Jw

namespace Go.Jw
open Go Go.RowKit Go.Proofs Go.ChangeShapes Go.WideShapes Go.ChangeAt Go.Proofs.YtlcfillobkdnmaaGreatDoor
set_option maxRecDepth 8000
theorem post_of_below {H : Type} {enc : TypeId × Value → H} {P : Program} {f : Func} {s : ChangeSpec} {apart fresh handsOn again : Bool} {W W' : World} {args : Array Value} {v : Value} {ds gs : List (DataW H)} {before pa pv : List MemPlace}
  (hW : DataW.Whole enc P f.params.toList s.vars apart W args.toList ds gs before)
  (hres : ∀ (b : Nat) (sp : Nat → Bool) (hd : Bool), DataW.TrodAll enc P W' b sp hd f.resultTypes.toList (v.resultList f.resultTypes.size) (s.fn H (ds ++ gs)).results [])
  (hargs : ∀ sp : Nat → Bool, (∀ p ∈ before, sp p.block = true) → DataW.TrodAll enc P W' 0 sp true f.params.toList args.toList (s.fn H (ds ++ gs)).args pa)
  (hvars : ∀ sp : Nat → Bool, (∀ p ∈ before, sp p.block = true) → DataW.TrodVars enc P W' sp s.vars (s.fn H (ds ++ gs)).vars pv)
  (hps : before = pa ++ pv) (hb : Below W.heap.size W W')
  (hok : ∀ (j : Nat) (t : TypeId) (r : Value), f.resultTypes[j]? = some t → (v.resultList f.resultTypes.size)[j]? = some r → Value.okWide P W' .any 0 t r) :
  s.post enc P f apart fresh handsOn again W args v W' := by
 have hlt := hW.lt
 have hold : ∀ p ∈ before, (fun b => decide (b < W.heap.size)) p.block = true := fun p hp => by simpa using hlt p hp
 refine ⟨ds, gs, before, [], pa, pv, hW, hres _ _ _, hargs _ hold, hvars _ hold, hb.frame _, fun _ => ?_⟩
 obtain ⟨_, _, _, _, _, hz, hn⟩ := hW
 refine ⟨hok, _, _, ([] ++ pa) ++ pv, ⟨[] ++ pa, pv, trodAll_append (hargs _ (fun _ _ => rfl)) (hres _ _ _), hvars _ (fun _ _ => rfl), rfl, ?_, ?_⟩, ?_⟩
 ·intro b off hp
  have hp' : MemPlace.cell b off ∈ before := by rw [hps]; simpa using hp
  rw [hb.frozen (p := ⟨b, off, none⟩) (hlt _ hp')]
  exact hz b off hp'
 ·intro ha
  have := hn ha
  rw [hps] at this
  simpa using this
 ·intro p hp _
  rw [hps]
  simpa using hp
theorem own : ownKnob Tryz.prog.godebug = none := by kernel_rfl
theorem rd25 : Tryz.prog.readableRec 25 = true := by kernel_rfl
theorem lt25 : 25 < Tryz.prog.types.size := of_decide_eq_true (by kernel_rfl)
theorem met_eq (W : World) : laidMetH Tryz.prog Rows.fnTextedUptoRow.laid W = laidMet Tryz.prog Rows.fnTextedUptoRow.laid W := by kernel_rfl
end Go.Jw

namespace Go.Jw
open Go Go.RowKit Go.Proofs Go.ChangeShapes Go.WideShapes Go.Proofs.YtlcfillobkdnmaaGreatDoor
set_option maxRecDepth 100000
def setG (h : Array Obj) (g : Nat) (cs : List Value) : Array Obj := h.modify g fun
  | .cells _ t fr => .cells cs.toArray t fr
  | o => o
def wBlocks : Array Obj := #[.cells #[.string ⟨#[105, 110, 118, 97, 108, 105, 100, 32, 115, 121, 110, 116, 97, 120]⟩] 228 (0, 0), .cells #[.string ⟨#[118, 97, 108, 117, 101, 32, 111, 117, 116, 32, 111, 102, 32, 114, 97, 110, 103, 101]⟩] 228 (0, 0),
 .cells ([.float .f32 1065353216, .float .f32 1092616192, .float .f32 1120403456, .float .f32 1148846080, .float .f32 1176256512, .float .f32 1203982336, .float .f32 1232348160, .float .f32 1259902592, .float .f32 1287568416, .float .f32 1315859240, .float .f32 1343554297] : List Value).toArray 288 (0, 0), .cells ([.int .i64 1, .int .i64 3, .int .i64 6, .int .i64 9, .int .i64 13, .int .i64 16, .int .i64 19, .int .i64 23, .int .i64 26] : List Value).toArray 3 (0, 0), .cells ([.float .f64 4607182418800017408, .float .f64 4621819117588971520, .float .f64 4636737291354636288, .float .f64 4652007308841189376, .float .f64 4666723172467343360, .float .f64 4681608360884174848, .float .f64 4696837146684686336, .float .f64 4711630319722168320, .float .f64 4726483295884279808, .float .f64 4741671816366391296, .float .f64 4756540486875873280, .float .f64 4771362005757984768, .float .f64 4786511204640096256, .float .f64 4801453603149578240, .float .f64 4816244402031689728, .float .f64 4831355200913801216, .float .f64 4846369599423283200, .float .f64 4861130398305394688, .float .f64 4876203697187506176, .float .f64 4891288408196988160, .float .f64 4906019910204099648, .float .f64 4921056587992461136, .float .f64 4936209963552724370] : List Value).toArray 214 (0, 0),
 .cells (Pinned.cheatRows.flatMap fun x => [Value.int .i64 x.1, Value.string ⟨x.2.toArray⟩]).toArray 365 (0, 0)]
noncomputable def laidWorld (os : Os) : World := { World.holding Tryz.prog os ⟨wBlocks, #[], []⟩ with heap := (setG (setG (setG (setG (setG (setG (setG (setG (setG (setG (setG (setG (setG (World.holding Tryz.prog os ⟨wBlocks, #[], []⟩).heap 0 [.int .u64 1, .int .u64 10, .int .u64 100, .int .u64 1000, .int .u64 10000, .int .u64 100000, .int .u64 1000000, .int .u64 10000000, .int .u64 100000000, .int .u64 1000000000, .int .u64 10000000000, .int .u64 100000000000, .int .u64 1000000000000, .int .u64 10000000000000, .int .u64 100000000000000, .int .u64 1000000000000000, .int .u64 10000000000000000, .int .u64 100000000000000000, .int .u64 1000000000000000000, .int .u64 10000000000000000000]) 1 [.iface 226 (.pointer (some ⟨18, 0, none⟩))]) 2 [.iface 226 (.pointer (some ⟨19, 0, none⟩))]) 3 [.int .u64 23, .int .u64 8, .int .i64 (-127)]) 4 [.bool true]) 5 [.int .u64 52, .int .u64 11, .int .i64 (-1023)]) 6 [.int .u8 0, .int .u8 1, .int .u8 28, .int .u8 2, .int .u8 29, .int .u8 14, .int .u8 24, .int .u8 3, .int .u8 30, .int .u8 22, .int .u8 20, .int .u8 15, .int .u8 25, .int .u8 17, .int .u8 4, .int .u8 8, .int .u8 31, .int .u8 27, .int .u8 13, .int .u8 23, .int .u8 21, .int .u8 19, .int .u8 16, .int .u8 7, .int .u8 26, .int .u8 12, .int .u8 18, .int .u8 6, .int .u8 11, .int .u8 5, .int .u8 10, .int .u8 9]) 7 [.int .u8 0, .int .u8 1, .int .u8 56, .int .u8 2, .int .u8 57, .int .u8 49, .int .u8 28, .int .u8 3, .int .u8 61, .int .u8 58, .int .u8 42, .int .u8 50, .int .u8 38, .int .u8 29, .int .u8 17, .int .u8 4, .int .u8 62, .int .u8 47, .int .u8 59, .int .u8 36, .int .u8 45, .int .u8 43, .int .u8 51, .int .u8 22, .int .u8 53, .int .u8 39, .int .u8 33, .int .u8 30, .int .u8 24, .int .u8 18, .int .u8 12, .int .u8 5, .int .u8 63, .int .u8 55, .int .u8 48, .int .u8 27, .int .u8 60, .int .u8 41, .int .u8 37, .int .u8 16, .int .u8 46, .int .u8 35, .int .u8 44, .int .u8 21, .int .u8 52, .int .u8 32, .int .u8 23, .int .u8 11, .int .u8 54, .int .u8 26, .int .u8 40, .int .u8 15, .int .u8 34, .int .u8 20, .int .u8 31, .int .u8 10, .int .u8 25, .int .u8 14, .int .u8 19, .int .u8 9, .int .u8 13, .int .u8 8, .int .u8 7, .int .u8 6]) 8 [.slice (some ⟨20, 0, none⟩) 11 11]) 9 [.slice (some ⟨21, 0, none⟩) 9 9]) 10 [.slice (some ⟨22, 0, none⟩) 23 23]) 11 (Pinned.pow10Rows.flatMap fun x => [Value.int .u64 x.1, Value.int .u64 x.2])) 12 [.slice (some ⟨23, 0, none⟩) Pinned.cheatRows.length Pinned.cheatRows.length]) }
def inB (bs : List Nat) (ps : List MemPlace) : Bool := ps.all fun
  | .cell b _ => bs.contains b
  | .map _ => true
end Go.Jw

namespace Go.Jw
open Go Go.RowKit Go.Proofs Go.Proofs.YtlcfillobkdnmaaGreatDoor
set_option maxRecDepth 100000
theorem okRow_of {P : Program} {w : World} {t u : TypeId} {cs : List Value} {n : Nat} (ht : P.cellTypes P.depth t = some (List.replicate n u)) (hn : cs.length = n) (h0 : 0 < n) (h : cs.all (Cell.okRefB P w u) = true) : Row.okRefB P w t cs.toArray = true := by
 unfold Row.okRefB
 rw [ht]
 simp only [List.length_replicate, List.size_toArray, Bool.and_eq_true, List.all_eq_true, List.mem_range]
 refine ⟨by rw [hn]; simp, fun i hi => ?_⟩
 have hm : i % n < n := Nat.mod_lt _ h0
 rw [List.getElem?_toArray, List.getElem?_eq_getElem hi, List.getElem?_replicate, if_pos hm]
 exact List.all_eq_true.1 h _ (List.getElem_mem hi)
end Go.Jw

namespace Go.Jw
open Go Go.RowKit Go.Proofs Go.Proofs.YtlcfillobkdnmaaGreatDoor
set_option maxRecDepth 100000
def oneB (P : Program) (w₀ w : World) (g : Nat) : Bool := match (w₀.heap[g]?).bind Obj.row? with
  | none => true
  | some (zero, t) => match w.heap[g]? with
    | some (.cells cs t' frozen) => decide (t' = t) && decide (frozen = (0, 0)) && cs.size == zero.size && (!P.buildable t || Row.okRefB P w t cs)
    | _ => false
theorem vars_of {P : Program} {w : World} (h : ∀ g, g < P.globals.size → oneB P (begin P (fun _ _ => 0) default).world w g = true) : w.variablesRefB P = true := by
 unfold World.variablesRefB
 exact List.all_eq_true.2 fun g hg => h g (List.mem_range.1 hg)
theorem oneB_of {P : Program} {w₀ w : World} {g : Nat} {zero : Array Value} {t : TypeId} {cs : List Value} (h0 : (w₀.heap[g]?).bind Obj.row? = some (zero, t)) (h1 : w.heap[g]? = some (.cells cs.toArray t (0, 0))) (hz : cs.length = zero.size) (h2 : Row.okRefB P w t cs.toArray = true) : oneB P w₀ w g = true := by
 unfold oneB
 rw [h0, h1]
 simp [hz, h2]
end Go.Jw

namespace Go.Jw
open Go Go.RowKit Go.Proofs Go.Proofs.YtlcfillobkdnmaaGreatDoor
set_option maxRecDepth 100000
theorem vg0 (os : Os) (args : Array Value) : oneB Tryz.prog (begin Tryz.prog (fun _ _ => 0) default).world ((laidWorld os).forCall (fun _ _ => 0) ⟨#[], args, []⟩) 0 = true := by kernel_rfl
theorem vg1 (os : Os) (args : Array Value) : oneB Tryz.prog (begin Tryz.prog (fun _ _ => 0) default).world ((laidWorld os).forCall (fun _ _ => 0) ⟨#[], args, []⟩) 1 = true := by kernel_rfl
theorem vg2 (os : Os) (args : Array Value) : oneB Tryz.prog (begin Tryz.prog (fun _ _ => 0) default).world ((laidWorld os).forCall (fun _ _ => 0) ⟨#[], args, []⟩) 2 = true := by kernel_rfl
theorem vg3 (os : Os) (args : Array Value) : oneB Tryz.prog (begin Tryz.prog (fun _ _ => 0) default).world ((laidWorld os).forCall (fun _ _ => 0) ⟨#[], args, []⟩) 3 = true := by kernel_rfl
theorem vg4 (os : Os) (args : Array Value) : oneB Tryz.prog (begin Tryz.prog (fun _ _ => 0) default).world ((laidWorld os).forCall (fun _ _ => 0) ⟨#[], args, []⟩) 4 = true := by kernel_rfl
theorem vg5 (os : Os) (args : Array Value) : oneB Tryz.prog (begin Tryz.prog (fun _ _ => 0) default).world ((laidWorld os).forCall (fun _ _ => 0) ⟨#[], args, []⟩) 5 = true := by kernel_rfl
theorem vg6 (os : Os) (args : Array Value) : oneB Tryz.prog (begin Tryz.prog (fun _ _ => 0) default).world ((laidWorld os).forCall (fun _ _ => 0) ⟨#[], args, []⟩) 6 = true := by kernel_rfl
theorem vg7 (os : Os) (args : Array Value) : oneB Tryz.prog (begin Tryz.prog (fun _ _ => 0) default).world ((laidWorld os).forCall (fun _ _ => 0) ⟨#[], args, []⟩) 7 = true := by kernel_rfl
theorem vg8 (os : Os) (args : Array Value) : oneB Tryz.prog (begin Tryz.prog (fun _ _ => 0) default).world ((laidWorld os).forCall (fun _ _ => 0) ⟨#[], args, []⟩) 8 = true := by kernel_rfl
theorem vg9 (os : Os) (args : Array Value) : oneB Tryz.prog (begin Tryz.prog (fun _ _ => 0) default).world ((laidWorld os).forCall (fun _ _ => 0) ⟨#[], args, []⟩) 9 = true := by kernel_rfl
theorem vg10 (os : Os) (args : Array Value) : oneB Tryz.prog (begin Tryz.prog (fun _ _ => 0) default).world ((laidWorld os).forCall (fun _ _ => 0) ⟨#[], args, []⟩) 10 = true := by kernel_rfl
theorem vg12 (os : Os) (args : Array Value) : oneB Tryz.prog (begin Tryz.prog (fun _ _ => 0) default).world ((laidWorld os).forCall (fun _ _ => 0) ⟨#[], args, []⟩) 12 = true := by kernel_rfl
def pw : List Value := Pinned.pow10Rows.flatMap fun x => [Value.int .u64 x.1, Value.int .u64 x.2]
theorem v11z : ∃ zero, ((begin Tryz.prog (fun _ _ => 0) default).world.heap[11]?).bind Obj.row? = some (zero, 360) ∧ zero.size = 1392 := ⟨(Array.replicate 1392 (.int .u64 0)), by kernel_rfl, by kernel_rfl⟩
theorem v11h (os : Os) (args : Array Value) : ((laidWorld os).forCall (fun _ _ => 0) ⟨#[], args, []⟩).heap[11]? = some (.cells pw.toArray 360 (0, 0)) := by kernel_rfl
theorem v11t : Tryz.prog.cellTypes Tryz.prog.depth 360 = some (List.replicate 1392 235) := by kernel_rfl
theorem v11l : pw.length = 1392 := by kernel_rfl
theorem v11a (w : World) : pw.all (Cell.okRefB Tryz.prog w 235) = true := by kernel_rfl
theorem vg11 (os : Os) (args : Array Value) : oneB Tryz.prog (begin Tryz.prog (fun _ _ => 0) default).world ((laidWorld os).forCall (fun _ _ => 0) ⟨#[], args, []⟩) 11 = true := by
 obtain ⟨z, h0, hz⟩ := v11z
 exact oneB_of h0 (v11h os args) (by rw [hz]; exact v11l) (okRow_of v11t v11l (by decide) (v11a _))
theorem vars_ref (os : Os) (args : Array Value) : World.variablesRefB Tryz.prog ((laidWorld os).forCall (fun _ _ => 0) ⟨#[], args, []⟩) = true := vars_of fun g hg => by
  have h13 : Tryz.prog.globals.size = 13 := by kernel_rfl
  rw [h13] at hg
  match g, hg with
  | 0, _ => exact vg0 os args
  | 1, _ => exact vg1 os args
  | 2, _ => exact vg2 os args
  | 3, _ => exact vg3 os args
  | 4, _ => exact vg4 os args
  | 5, _ => exact vg5 os args
  | 6, _ => exact vg6 os args
  | 7, _ => exact vg7 os args
  | 8, _ => exact vg8 os args
  | 9, _ => exact vg9 os args
  | 10, _ => exact vg10 os args
  | 11, _ => exact vg11 os args
  | 12, _ => exact vg12 os args
end Go.Jw

namespace Go.Jw
open Go Go.RowKit Go.Proofs Go.ChangeShapes Go.WideShapes Go.Proofs.YtlcfillobkdnmaaGreatDoor
set_option maxRecDepth 100000
section
variable {P : Program} {w : World}
theorem qZ {α β : Type} {f : α → Option β} {h : α → β} : ∀ (l : List α), (∀ x ∈ l, f x = some (h x)) → l.mapM f = some (l.map h)
  | [], _ => rfl
  | a :: l, H => by
    rw [List.mapM_cons, H a List.mem_cons_self, qZ l (fun x hx => H x (List.mem_cons_of_mem _ hx))]
    rfl
theorem wcell_lit {b off : Nat} {T : TypeId} {cs : List Value} (h : w.heap[b]? = some (.cells cs.toArray T (0, 0))) : w.cell? ⟨b, off, none⟩ = cs[off]? := by
 unfold World.cell?
 simp [h]
theorem wcells_lit {b off n : Nat} {T : TypeId} {cs : List Value} (h : w.heap[b]? = some (.cells cs.toArray T (0, 0))) (hn : off + n ≤ cs.length) : w.cells? 0 ⟨b, off, none⟩ n = some ((cs.drop off).take n) := by
  unfold World.cells?
  rw [if_pos (Nat.zero_le _), qZ (h := fun i => cs.getD (off + i) (.bool false)) (List.range n) (fun i hi => ?_)]
  · congr 1
    apply List.ext_getElem?
    intro j
    rw [List.getElem?_map, List.getElem?_take, List.getElem?_drop]
    by_cases hj : j < n
    · rw [if_pos hj, List.getElem?_range hj]
      simp [List.getD_eq_getElem?_getD, List.getElem?_eq_getElem (show off + j < cs.length by omega)]
    · rw [if_neg hj, List.getElem?_eq_none (by simpa using hj)]
      rfl
  · have hi' := List.mem_range.1 hi
    have : (⟨b, off, none⟩ : Addr).add i = ⟨b, off + i, none⟩ := by
      unfold Addr.add
      by_cases h0 : i = 0
      · subst h0; rfl
      · rw [if_neg h0]
    rw [this, wcell_lit h, List.getD_eq_getElem?_getD, List.getElem?_eq_getElem (show off + i < cs.length by omega)]
    rfl
variable {H : Type} {enc : TypeId × Value → H} {sp : Nat → Bool} {held : Bool}
theorem trod_sliceL {fuel : Nat} {t e : TypeId} {b n k : Nat} {T : TypeId} {cs : List Value} {g : Nat → DataW H} (ht : P.underlying t = some (.slice e)) (hk : P.cellsOf e = k) (hb : w.heap[b]? = some (.cells cs.toArray T (0, 0))) (hl : cs.length = n * k) (hn : n ≤ maxLen)
  (he : ∀ i, i < n → DataW.trod enc P w 0 sp held fuel e ((cs.drop (i * k)).take k) = some (g i, [])) : DataW.trod enc P w 0 sp held (fuel + 1) t [.slice (some ⟨b, 0, none⟩) n n] = some (.slice ((List.range n).map g) [], MemPlace.row ⟨b, 0, none⟩ (n * k)) := by
 subst hk
 have hel : ∀ i ∈ List.range n, (w.cells? 0 ((⟨b, 0, none⟩ : Addr).add (i * P.cellsOf e)) (P.cellsOf e)).bind (DataW.trod enc P w 0 sp held fuel e) = some ((g i, []) : DataW H × List MemPlace) := by
  intro i hi
  have hi' := List.mem_range.1 hi
  have : (⟨b, 0, none⟩ : Addr).add (i * P.cellsOf e) = ⟨b, i * P.cellsOf e, none⟩ := by
   unfold Addr.add
   by_cases h0 : i * P.cellsOf e = 0
   ·rw [if_pos h0, h0]
   ·rw [if_neg h0, Nat.zero_add]
  have hle : i * P.cellsOf e + P.cellsOf e ≤ cs.length := by
   rw [hl]
   have := Nat.mul_le_mul_right (P.cellsOf e) (show i + 1 ≤ n by omega)
   rw [Nat.succ_mul] at this
   exact this
  rw [this, wcells_lit hb hle, Option.bind_some, he i hi']
 unfold DataW.trod
 simp only [ht]
 rw [if_pos ⟨Nat.zero_le _, Nat.le_refl _, hn⟩, qZ _ hel]
 simp [Nat.sub_self]
theorem trod_arrayL {fuel : Nat} {t e : TypeId} {n k : Nat} {cs : List Value} {g : Nat → DataW H} (ht : P.underlying t = some (.array n e)) (hk : P.cellsOf e = k) (hl : cs.length = P.cellsOf t)
  (he : ∀ i, i < n → DataW.trod enc P w 0 sp held fuel e ((cs.drop (i * k)).take k) = some (g i, [])) : DataW.trod enc P w 0 sp held (fuel + 1) t cs = some (.agg ((List.range n).map g), []) := by
 subst hk
 have hel : ∀ i ∈ List.range n, DataW.trod enc P w 0 sp held fuel e ((cs.drop (i * P.cellsOf e)).take (P.cellsOf e)) = some ((g i, []) : DataW H × List MemPlace) := fun i hi => he i (List.mem_range.1 hi)
 unfold DataW.trod
 simp only [ht]
 rw [if_pos hl, qZ _ hel]
 simp
theorem uA {n : String} {d : DataW Unit} {r : List (String × DataW Unit)} {p q : List MemPlace} {g t T : Nat} {cs : List Value} (fuel : Nat) (hg : P.globalNamed n = some g) (ht : (P.globals[g]?).map (·.type) = some t) (hh : w.heap[g]? = some (.cells cs.toArray T (0, 0)))
  (hd : DataW.trod (fun _ => ()) P w 0 (fun _ => true) false fuel t cs = some (d, p)) (hr : DataW.LaidVars P w r q) : DataW.LaidVars P w ((n, d) :: r) (MemPlace.row ⟨g, 0, none⟩ cs.length ++ p ++ q) :=
 ⟨g, t, cs.toArray, fuel, p, q, hg, ht, by unfold World.var?; rw [hg]; simp [hh], by simpa using hd, hr, by simp⟩
def wplainB : Value → Bool
  | .iface .. => false
  | _ => true
theorem wT {b off : Nat} {T : TypeId} {cs : List Value} (h : w.heap[b]? = some (.cells cs.toArray T (0, 0))) (hn : cs.all wplainB = true) :
  (∃ c t, w.heap[b]? = some (.cells c t (0, 0))) ∧ ∀ u v, w.cell? ⟨b, off, none⟩ = some (.iface u v) → Value.okWide P w .any 0 u v := by
 refine ⟨⟨_, _, h⟩, fun u v hc => ?_⟩
 rw [wcell_lit h] at hc
 have := List.all_eq_true.1 hn _ (List.mem_of_getElem? hc)
 cases this
theorem wgood_one {b off : Nat} {T u : TypeId} {v : Value} (h : w.heap[b]? = some (.cells [.iface u v].toArray T (0, 0))) (hn : Value.okWideB P w u v = true) :
  (∃ c t, w.heap[b]? = some (.cells c t (0, 0))) ∧ ∀ u' v', w.cell? ⟨b, off, none⟩ = some (.iface u' v') → Value.okWide P w .any 0 u' v' := by
 refine ⟨⟨_, _, h⟩, fun u' v' hc => ?_⟩
 rw [wcell_lit h] at hc
 have := List.mem_of_getElem? hc
 simp only [List.mem_singleton, Value.iface.injEq] at this
 obtain ⟨rfl, rfl⟩ := this
 exact Value.okWide_of_okWideB hn
end
theorem wflat_at {α : Type} (f : α → List Value) (k : Nat) (hf : ∀ x, (f x).length = k) : ∀ (l : List α) (i : Nat) (h : i < l.length), ((l.flatMap f).drop (i * k)).take k = f l[i]
  | [], i, h => by simp at h
  | x :: l, 0, _ => by simp [List.flatMap_cons, ← hf x]
  | x :: l, i + 1, h => by
    rw [List.flatMap_cons, Nat.succ_mul, Nat.add_comm, ← List.drop_drop, List.drop_append_of_le_length (by rw [hf x]; exact Nat.le_refl _), ← hf x, List.drop_length, List.nil_append, hf x]
    exact wflat_at f k hf l i (by simpa using h)
theorem wflat_len {α : Type} (f : α → List Value) (k : Nat) (hf : ∀ x, (f x).length = k) (l : List α) : (l.flatMap f).length = l.length * k := by
  induction l with
  | nil => simp
  | cons x l ih => rw [List.flatMap_cons, List.length_append, hf, ih, List.length_cons, Nat.succ_mul, Nat.add_comm]
theorem wrange_get {α β : Type} [Inhabited α] (f : α → β) (l : List α) : (List.range l.length).map (fun i => f (l.getD i default)) = l.map f := by
  apply List.ext_getElem?
  intro j
  rw [List.getElem?_map, List.getElem?_map]
  by_cases h : j < l.length
  · rw [List.getElem?_range h, List.getElem?_eq_getElem h]
    simp [List.getD_eq_getElem?_getD, h]
  · rw [List.getElem?_eq_none (by simpa using h), List.getElem?_eq_none (by simpa using h)]
    rfl
def wlitOf : Value → DataW Unit
  | .int k n => .lit (.int k n)
  | .float k b => .lit (.float k b)
  | _ => .nil
def wlitB (d : TypeDesc) : Value → Bool
  | .int k n => (match d with | .int k' => decide (k = k') | _ => false) && (Lit.int k n).wf
  | .float k n => (match d with | .float k' => decide (k = k') | _ => false) && (Lit.float k n).wf
  | _ => false
theorem wtrod_lit {P : Program} {w : World} {sp : Nat → Bool} {held : Bool} {fuel : Nat} {e : TypeId} {d : TypeDesc} {v : Value} (he : P.underlying e = some d) (h : wlitB d v = true) : DataW.trod (fun _ => ()) P w 0 sp held (fuel + 1) e [v] = some (wlitOf v, []) := by
 unfold DataW.trod
 cases v <;> simp [wlitB] at h <;> cases d <;> simp at h <;> (obtain ⟨rfl, h2⟩ := h; simp [he, wlitOf, h2])
theorem pR {P : Program} {w : World} {fuel : Nat} {t e : TypeId} {d : TypeDesc} {b n : Nat} {T : TypeId} {cs : List Value} (ht : P.underlying t = some (.slice e)) (he : P.underlying e = some d) (hk : P.cellsOf e = 1) (hb : w.heap[b]? = some (.cells cs.toArray T (0, 0))) (hl : cs.length = n) (hn : n ≤ maxLen) (hs : cs.all (wlitB d) = true) :
    DataW.trod (fun _ => ()) P w 0 (fun _ => true) false (fuel + 2) t [.slice (some ⟨b, 0, none⟩) n n] = some (.slice (cs.map wlitOf) [], MemPlace.row ⟨b, 0, none⟩ n) := by
  subst hl
  have := trod_sliceL (P := P) (w := w) (enc := fun _ => ()) (sp := fun _ => true) (held := false) (fuel := fuel + 1) (k := 1) (n := cs.length) (g := fun i => wlitOf (cs.getD i (.bool false))) ht hk hb (by omega) hn (fun i hi => by
    have h1 : (cs.drop (i * 1)).take 1 = [cs[i]] := by rw [Nat.mul_one, List.drop_eq_getElem_cons hi]; rfl
    rw [h1, wtrod_lit he (List.all_eq_true.1 hs _ (List.getElem_mem hi)), List.getD_eq_getElem?_getD, List.getElem?_eq_getElem hi]
    rfl)
  rw [this, Nat.mul_one]
  congr 2
  have h2 : (List.range cs.length).map (fun i => wlitOf (cs.getD i (.bool false))) = cs.map wlitOf := @wrange_get _ _ ⟨.bool false⟩ wlitOf cs
  rw [h2]
def pwF (x : Nat × Nat) : List Value := [Value.int .u64 x.1, Value.int .u64 x.2]
def chF (x : Nat × List UInt8) : List Value := [Value.int .i64 x.1, Value.string ⟨x.2.toArray⟩]
def wc0 : List Value := [.int .u64 1, .int .u64 10, .int .u64 100, .int .u64 1000, .int .u64 10000, .int .u64 100000, .int .u64 1000000, .int .u64 10000000, .int .u64 100000000, .int .u64 1000000000, .int .u64 10000000000, .int .u64 100000000000, .int .u64 1000000000000, .int .u64 10000000000000, .int .u64 100000000000000, .int .u64 1000000000000000, .int .u64 10000000000000000, .int .u64 100000000000000000, .int .u64 1000000000000000000, .int .u64 10000000000000000000]
def wc1 : List Value := [.iface 226 (.pointer (some ⟨18, 0, none⟩))]
def wc2 : List Value := [.iface 226 (.pointer (some ⟨19, 0, none⟩))]
def wc3 : List Value := [.int .u64 23, .int .u64 8, .int .i64 (-127)]
def wc4 : List Value := [.bool true]
def wc5 : List Value := [.int .u64 52, .int .u64 11, .int .i64 (-1023)]
def wc6 : List Value := [.int .u8 0, .int .u8 1, .int .u8 28, .int .u8 2, .int .u8 29, .int .u8 14, .int .u8 24, .int .u8 3, .int .u8 30, .int .u8 22, .int .u8 20, .int .u8 15, .int .u8 25, .int .u8 17, .int .u8 4, .int .u8 8, .int .u8 31, .int .u8 27, .int .u8 13, .int .u8 23, .int .u8 21, .int .u8 19, .int .u8 16, .int .u8 7, .int .u8 26, .int .u8 12, .int .u8 18, .int .u8 6, .int .u8 11, .int .u8 5, .int .u8 10, .int .u8 9]
def wc7 : List Value := [.int .u8 0, .int .u8 1, .int .u8 56, .int .u8 2, .int .u8 57, .int .u8 49, .int .u8 28, .int .u8 3, .int .u8 61, .int .u8 58, .int .u8 42, .int .u8 50, .int .u8 38, .int .u8 29, .int .u8 17, .int .u8 4, .int .u8 62, .int .u8 47, .int .u8 59, .int .u8 36, .int .u8 45, .int .u8 43, .int .u8 51, .int .u8 22, .int .u8 53, .int .u8 39, .int .u8 33, .int .u8 30, .int .u8 24, .int .u8 18, .int .u8 12, .int .u8 5, .int .u8 63, .int .u8 55, .int .u8 48, .int .u8 27, .int .u8 60, .int .u8 41, .int .u8 37, .int .u8 16, .int .u8 46, .int .u8 35, .int .u8 44, .int .u8 21, .int .u8 52, .int .u8 32, .int .u8 23, .int .u8 11, .int .u8 54, .int .u8 26, .int .u8 40, .int .u8 15, .int .u8 34, .int .u8 20, .int .u8 31, .int .u8 10, .int .u8 25, .int .u8 14, .int .u8 19, .int .u8 9, .int .u8 13, .int .u8 8, .int .u8 7, .int .u8 6]
def wc8 : List Value := [.slice (some ⟨20, 0, none⟩) 11 11]
def wc9 : List Value := [.slice (some ⟨21, 0, none⟩) 9 9]
def wc10 : List Value := [.slice (some ⟨22, 0, none⟩) 23 23]
def wc11 : List Value := Pinned.pow10Rows.flatMap pwF
def wc12 : List Value := [.slice (some ⟨23, 0, none⟩) Pinned.cheatRows.length Pinned.cheatRows.length]
def wc18 : List Value := [.string ⟨#[105, 110, 118, 97, 108, 105, 100, 32, 115, 121, 110, 116, 97, 120]⟩]
def wc19 : List Value := [.string ⟨#[118, 97, 108, 117, 101, 32, 111, 117, 116, 32, 111, 102, 32, 114, 97, 110, 103, 101]⟩]
def wc20 : List Value := [.float .f32 1065353216, .float .f32 1092616192, .float .f32 1120403456, .float .f32 1148846080, .float .f32 1176256512, .float .f32 1203982336, .float .f32 1232348160, .float .f32 1259902592, .float .f32 1287568416, .float .f32 1315859240, .float .f32 1343554297]
def wc21 : List Value := [.int .i64 1, .int .i64 3, .int .i64 6, .int .i64 9, .int .i64 13, .int .i64 16, .int .i64 19, .int .i64 23, .int .i64 26]
def wc22 : List Value := [.float .f64 4607182418800017408, .float .f64 4621819117588971520, .float .f64 4636737291354636288, .float .f64 4652007308841189376, .float .f64 4666723172467343360, .float .f64 4681608360884174848, .float .f64 4696837146684686336, .float .f64 4711630319722168320, .float .f64 4726483295884279808, .float .f64 4741671816366391296, .float .f64 4756540486875873280, .float .f64 4771362005757984768, .float .f64 4786511204640096256, .float .f64 4801453603149578240, .float .f64 4816244402031689728, .float .f64 4831355200913801216, .float .f64 4846369599423283200, .float .f64 4861130398305394688, .float .f64 4876203697187506176, .float .f64 4891288408196988160, .float .f64 4906019910204099648, .float .f64 4921056587992461136, .float .f64 4936209963552724370]
def wc23 : List Value := Pinned.cheatRows.flatMap chF
noncomputable def wW (os : Os) (args : Array Value) : World := ((laidWorld os).forCall (fun _ _ => 0) ⟨#[], args, []⟩).memory
theorem wh0 (os : Os) (args : Array Value) : (wW os args).heap[0]? = some (.cells wc0.toArray 270 (0, 0)) := by kernel_rfl
theorem wh1 (os : Os) (args : Array Value) : (wW os args).heap[1]? = some (.cells wc1.toArray 77 (0, 0)) := by kernel_rfl
theorem wh2 (os : Os) (args : Array Value) : (wW os args).heap[2]? = some (.cells wc2.toArray 77 (0, 0)) := by kernel_rfl
theorem wh3 (os : Os) (args : Array Value) : (wW os args).heap[3]? = some (.cells wc3.toArray 305 (0, 0)) := by kernel_rfl
theorem wh4 (os : Os) (args : Array Value) : (wW os args).heap[4]? = some (.cells wc4.toArray 4 (0, 0)) := by kernel_rfl
theorem wh5 (os : Os) (args : Array Value) : (wW os args).heap[5]? = some (.cells wc5.toArray 305 (0, 0)) := by kernel_rfl
theorem wh6 (os : Os) (args : Array Value) : (wW os args).heap[6]? = some (.cells wc6.toArray 323 (0, 0)) := by kernel_rfl
theorem wh7 (os : Os) (args : Array Value) : (wW os args).heap[7]? = some (.cells wc7.toArray 324 (0, 0)) := by kernel_rfl
theorem wh8 (os : Os) (args : Array Value) : (wW os args).heap[8]? = some (.cells wc8.toArray 340 (0, 0)) := by kernel_rfl
theorem wh9 (os : Os) (args : Array Value) : (wW os args).heap[9]? = some (.cells wc9.toArray 139 (0, 0)) := by kernel_rfl
theorem wh10 (os : Os) (args : Array Value) : (wW os args).heap[10]? = some (.cells wc10.toArray 349 (0, 0)) := by kernel_rfl
theorem wh11 (os : Os) (args : Array Value) : (wW os args).heap[11]? = some (.cells wc11.toArray 360 (0, 0)) := by kernel_rfl
theorem wh12 (os : Os) (args : Array Value) : (wW os args).heap[12]? = some (.cells wc12.toArray 366 (0, 0)) := by kernel_rfl
theorem wh18 (os : Os) (args : Array Value) : (wW os args).heap[18]? = some (.cells wc18.toArray 228 (0, 0)) := by kernel_rfl
theorem wh19 (os : Os) (args : Array Value) : (wW os args).heap[19]? = some (.cells wc19.toArray 228 (0, 0)) := by kernel_rfl
theorem wh20 (os : Os) (args : Array Value) : (wW os args).heap[20]? = some (.cells wc20.toArray 288 (0, 0)) := by kernel_rfl
theorem wh21 (os : Os) (args : Array Value) : (wW os args).heap[21]? = some (.cells wc21.toArray 3 (0, 0)) := by kernel_rfl
theorem wh22 (os : Os) (args : Array Value) : (wW os args).heap[22]? = some (.cells wc22.toArray 214 (0, 0)) := by kernel_rfl
theorem wh23 (os : Os) (args : Array Value) : (wW os args).heap[23]? = some (.cells wc23.toArray 365 (0, 0)) := by kernel_rfl
theorem wt0 (w : World) : DataW.trod (fun _ => ()) Tryz.prog w 0 (fun _ => true) false 8 270 wc0 = some (Rows.laid_internal_strconv_uint64pow10, []) := by kernel_rfl
theorem wt3 (w : World) : DataW.trod (fun _ => ()) Tryz.prog w 0 (fun _ => true) false 8 305 wc3 = some (Rows.laid_internal_strconv_float32info, []) := by kernel_rfl
theorem wt4 (w : World) : DataW.trod (fun _ => ()) Tryz.prog w 0 (fun _ => true) false 8 4 wc4 = some (Rows.laid_internal_strconv_optimize, []) := by kernel_rfl
theorem wt5 (w : World) : DataW.trod (fun _ => ()) Tryz.prog w 0 (fun _ => true) false 8 305 wc5 = some (Rows.laid_internal_strconv_float64info, []) := by kernel_rfl
theorem wt6 (w : World) : DataW.trod (fun _ => ()) Tryz.prog w 0 (fun _ => true) false 8 323 wc6 = some (Rows.laid_math_bits_deBruijn32tab, []) := by kernel_rfl
theorem wt7 (w : World) : DataW.trod (fun _ => ()) Tryz.prog w 0 (fun _ => true) false 8 324 wc7 = some (Rows.laid_math_bits_deBruijn64tab, []) := by kernel_rfl
theorem wt8 (os : Os) (args : Array Value) : DataW.trod (fun _ => ()) Tryz.prog (wW os args) 0 (fun _ => true) false 8 340 wc8 = some (Rows.laid_internal_strconv_float32pow10, MemPlace.row ⟨20, 0, none⟩ 11) :=
 (pR (fuel := 6) (e := 288) (d := .float .f32) (cs := wc20) (n := 11) (by kernel_rfl) (by kernel_rfl) (by kernel_rfl) (wh20 os args) rfl (by unfold maxLen; omega) (by kernel_rfl)).trans (by kernel_rfl)
theorem wt9 (os : Os) (args : Array Value) : DataW.trod (fun _ => ()) Tryz.prog (wW os args) 0 (fun _ => true) false 8 139 wc9 = some (Rows.laid_internal_strconv_powtab, MemPlace.row ⟨21, 0, none⟩ 9) :=
 (pR (fuel := 6) (e := 3) (d := .int .i64) (cs := wc21) (n := 9) (by kernel_rfl) (by kernel_rfl) (by kernel_rfl) (wh21 os args) rfl (by unfold maxLen; omega) (by kernel_rfl)).trans (by kernel_rfl)
theorem wt10 (os : Os) (args : Array Value) : DataW.trod (fun _ => ()) Tryz.prog (wW os args) 0 (fun _ => true) false 8 349 wc10 = some (Rows.laid_internal_strconv_float64pow10, MemPlace.row ⟨22, 0, none⟩ 23) :=
 (pR (fuel := 6) (e := 214) (d := .float .f64) (cs := wc22) (n := 23) (by kernel_rfl) (by kernel_rfl) (by kernel_rfl) (wh22 os args) rfl (by unfold maxLen; omega) (by kernel_rfl)).trans (by kernel_rfl)
theorem wt1 (os : Os) (args : Array Value) : DataW.trod (fun _ => ()) Tryz.prog (wW os args) 0 (fun _ => true) false 8 77 wc1 = some (Rows.laid_strconv_ErrSyntax, MemPlace.row ⟨18, 0, none⟩ 1) := by kernel_rfl
theorem wo1 (os : Os) (args : Array Value) : Value.okWideB Tryz.prog (wW os args) 226 (.pointer (some ⟨18, 0, none⟩)) = true := by kernel_rfl
theorem wt2 (os : Os) (args : Array Value) : DataW.trod (fun _ => ()) Tryz.prog (wW os args) 0 (fun _ => true) false 8 77 wc2 = some (Rows.laid_strconv_ErrRange, MemPlace.row ⟨19, 0, none⟩ 1) := by kernel_rfl
theorem wo2 (os : Os) (args : Array Value) : Value.okWideB Tryz.prog (wW os args) 226 (.pointer (some ⟨19, 0, none⟩)) = true := by kernel_rfl
theorem wpw_one (w : World) (x : Nat × Nat) (h1 : (Lit.int .u64 (x.1 : Int)).wf = true) (h2 : (Lit.int .u64 (x.2 : Int)).wf = true) : DataW.trod (fun _ => ()) Tryz.prog w 0 (fun _ => true) false 7 359 (pwF x) = some (.agg [.lit (.int .u64 x.1), .lit (.int .u64 x.2)], []) := by
 have e1 : Tryz.prog.underlying 359 = some (.struct #[⟨ "hi", 235, 0, false, "", "internal/strconv", 0⟩, ⟨ "lo", 235, 1, false, "", "internal/strconv", 8⟩]) := by kernel_rfl
 have e2 : Tryz.prog.cellsOf 359 = 2 := by kernel_rfl
 have e3 : Tryz.prog.cellsOf 235 = 1 := by kernel_rfl
 have e4 : Tryz.prog.underlying 235 = some (.int .u64) := by kernel_rfl
 unfold DataW.trod
 simp only [e1, pwF, e2]
 rw [if_pos (show ([Value.int .u64 (x.1 : Int), Value.int .u64 (x.2 : Int)] : List Value).length = 2 from rfl)]
 simp only [List.mapM_cons, List.mapM_nil, e3]
 have t1 : DataW.trod (fun _ => ()) Tryz.prog w 0 (fun _ => true) false 6 235 [Value.int .u64 x.1] = some (.lit (.int .u64 x.1), []) := wtrod_lit (fuel := 5) e4 (by simp [wlitB, h1])
 have t2 : DataW.trod (fun _ => ()) Tryz.prog w 0 (fun _ => true) false 6 235 [Value.int .u64 x.2] = some (.lit (.int .u64 x.2), []) := wtrod_lit (fuel := 5) e4 (by simp [wlitB, h2])
 simp [t1, t2]
theorem wt11 (w : World) : DataW.trod (fun _ => ()) Tryz.prog w 0 (fun _ => true) false 8 360 wc11 = some (Rows.laid_internal_strconv_pow10Tab, []) := by
  have hl : wc11.length = Pinned.pow10Rows.length * 2 := wflat_len pwF 2 (fun _ => rfl) _
  have hr : Pinned.pow10Rows.length = 696 := by kernel_rfl
  have hwf : Pinned.pow10Rows.all (fun x => (Lit.int .u64 x.1).wf && (Lit.int .u64 x.2).wf) = true := by kernel_rfl
  have := trod_arrayL (P := Tryz.prog) (w := w) (enc := fun _ => ()) (sp := fun _ => true) (held := false) (fuel := 7) (t := 360) (e := 359) (n := 696) (k := 2) (cs := wc11) (g := fun i => (fun x : Nat × Nat => (.agg [.lit (.int .u64 x.1), .lit (.int .u64 x.2)] : DataW Unit)) (Pinned.pow10Rows.getD i default)) (by kernel_rfl) (by kernel_rfl) (by rw [hl, hr]; kernel_rfl) (fun i hi => by
    have hi' : i < Pinned.pow10Rows.length := by rw [hr]; exact hi
    have h1 : (wc11.drop (i * 2)).take 2 = pwF Pinned.pow10Rows[i] := wflat_at pwF 2 (fun _ => rfl) _ i hi'
    have h2 := List.all_eq_true.1 hwf _ (List.getElem_mem hi')
    simp only [Bool.and_eq_true] at h2
    rw [h1, List.getD_eq_getElem?_getD, List.getElem?_eq_getElem hi', Option.getD_some]
    exact wpw_one w _ h2.1 h2.2)
  rw [this]
  have h3 := wrange_get (fun x : Nat × Nat => (.agg [.lit (.int .u64 x.1), .lit (.int .u64 x.2)] : DataW Unit)) Pinned.pow10Rows
  rw [hr] at h3
  rw [h3]
  rfl
theorem wch_one (w : World) (x : Nat × List UInt8) (h1 : (Lit.int .i64 (x.1 : Int)).wf = true) (h2 : x.2.length ≤ maxLen) : DataW.trod (fun _ => ()) Tryz.prog w 0 (fun _ => true) false 7 365 (chF x) = some (.agg [.lit (.int .i64 x.1), .lit (.string x.2)], []) := by
 have e1 : Tryz.prog.underlying 365 = some (.struct #[⟨ "delta", 3, 0, false, "", "internal/strconv", 0⟩, ⟨ "cutoff", 9, 1, false, "", "internal/strconv", 8⟩]) := by kernel_rfl
 have e2 : Tryz.prog.cellsOf 365 = 2 := by kernel_rfl
 have e3 : Tryz.prog.cellsOf 3 = 1 := by kernel_rfl
 have e4 : Tryz.prog.cellsOf 9 = 1 := by kernel_rfl
 have e5 : Tryz.prog.underlying 3 = some (.int .i64) := by kernel_rfl
 have e6 : Tryz.prog.underlying 9 = some .string := by kernel_rfl
 have t1 : DataW.trod (fun _ => ()) Tryz.prog w 0 (fun _ => true) false 6 3 [Value.int .i64 x.1] = some (.lit (.int .i64 x.1), []) := wtrod_lit (fuel := 5) e5 (by simp [wlitB, h1])
 have t2 : DataW.trod (fun _ => ()) Tryz.prog w 0 (fun _ => true) false 6 9 [Value.string ⟨x.2.toArray⟩] = some (.lit (.string x.2), []) := by
  unfold DataW.trod
  have : (ByteArray.mk x.2.toArray).size ≤ maxLen := by simpa [ByteArray.size] using h2
  simp [e6, this]
 unfold DataW.trod
 simp only [e1, chF, e2]
 rw [if_pos (show ([Value.int .i64 (x.1 : Int), Value.string ⟨x.2.toArray⟩] : List Value).length = 2 from rfl)]
 simp only [List.mapM_cons, List.mapM_nil, e3, e4]
 simp [t1, t2]
theorem wt12 (os : Os) (args : Array Value) : DataW.trod (fun _ => ()) Tryz.prog (wW os args) 0 (fun _ => true) false 8 366 wc12 = some (Rows.laid_internal_strconv_leftcheats, MemPlace.row ⟨23, 0, none⟩ 122) := by
  have hl : wc23.length = Pinned.cheatRows.length * 2 := wflat_len chF 2 (fun _ => rfl) _
  have hr : Pinned.cheatRows.length = 61 := by kernel_rfl
  have hwf : Pinned.cheatRows.all (fun x => (Lit.int .i64 x.1).wf && decide (x.2.length ≤ maxLen)) = true := by kernel_rfl
  have := trod_sliceL (P := Tryz.prog) (w := wW os args) (enc := fun _ => ()) (sp := fun _ => true) (held := false) (fuel := 7) (t := 366) (e := 365) (b := 23) (n := 61) (k := 2) (T := 365) (cs := wc23) (g := fun i => (fun x : Nat × List UInt8 => (.agg [.lit (.int .i64 x.1), .lit (.string x.2)] : DataW Unit)) (Pinned.cheatRows.getD i default)) (by kernel_rfl) (by kernel_rfl) (wh23 os args) (by rw [hl, hr]) (by unfold maxLen; omega) (fun i hi => by
    have hi' : i < Pinned.cheatRows.length := by rw [hr]; exact hi
    have h1 : (wc23.drop (i * 2)).take 2 = chF Pinned.cheatRows[i] := wflat_at chF 2 (fun _ => rfl) _ i hi'
    have h2 := List.all_eq_true.1 hwf _ (List.getElem_mem hi')
    simp only [Bool.and_eq_true, decide_eq_true_eq] at h2
    rw [h1, List.getD_eq_getElem?_getD, List.getElem?_eq_getElem hi', Option.getD_some]
    exact wch_one _ _ h2.1 h2.2)
  have h3 := wrange_get (fun x : Nat × List UInt8 => (.agg [.lit (.int .i64 x.1), .lit (.string x.2)] : DataW Unit)) Pinned.cheatRows
  rw [hr] at h3
  rw [h3] at this
  exact this
def wPs : List MemPlace := MemPlace.row ⟨6, 0, none⟩ wc6.length ++ [] ++ (MemPlace.row ⟨7, 0, none⟩ wc7.length ++ [] ++ (MemPlace.row ⟨3, 0, none⟩ wc3.length ++ [] ++ (MemPlace.row ⟨5, 0, none⟩ wc5.length ++ [] ++ (MemPlace.row ⟨4, 0, none⟩ wc4.length ++ [] ++ (MemPlace.row ⟨9, 0, none⟩ wc9.length ++ MemPlace.row ⟨21, 0, none⟩ 9 ++ (MemPlace.row ⟨10, 0, none⟩ wc10.length ++ MemPlace.row ⟨22, 0, none⟩ 23 ++ (MemPlace.row ⟨8, 0, none⟩ wc8.length ++ MemPlace.row ⟨20, 0, none⟩ 11 ++ (MemPlace.row ⟨0, 0, none⟩ wc0.length ++ [] ++ (MemPlace.row ⟨2, 0, none⟩ wc2.length ++ MemPlace.row ⟨19, 0, none⟩ 1 ++ (MemPlace.row ⟨1, 0, none⟩ wc1.length ++ MemPlace.row ⟨18, 0, none⟩ 1 ++ (MemPlace.row ⟨12, 0, none⟩ wc12.length ++ MemPlace.row ⟨23, 0, none⟩ 122 ++ (MemPlace.row ⟨11, 0, none⟩ wc11.length ++ [] ++ ([])))))))))))))
theorem wLv (os : Os) (args : Array Value) : DataW.LaidVars Tryz.prog (wW os args) Rows.fnTextedRow.laid wPs :=
 uA 8 (by kernel_rfl) (by kernel_rfl) (wh6 os args) (wt6 _) (uA 8 (by kernel_rfl) (by kernel_rfl) (wh7 os args) (wt7 _) (uA 8 (by kernel_rfl) (by kernel_rfl) (wh3 os args) (wt3 _) (uA 8 (by kernel_rfl) (by kernel_rfl) (wh5 os args) (wt5 _) (uA 8 (by kernel_rfl) (by kernel_rfl) (wh4 os args) (wt4 _) (uA 8 (by kernel_rfl) (by kernel_rfl) (wh9 os args) (wt9 os args) (uA 8 (by kernel_rfl) (by kernel_rfl) (wh10 os args) (wt10 os args) (uA 8 (by kernel_rfl) (by kernel_rfl) (wh8 os args) (wt8 os args) (uA 8 (by kernel_rfl) (by kernel_rfl) (wh0 os args) (wt0 _) (uA 8 (by kernel_rfl) (by kernel_rfl) (wh2 os args) (wt2 os args) (uA 8 (by kernel_rfl) (by kernel_rfl) (wh1 os args) (wt1 os args) (uA 8 (by kernel_rfl) (by kernel_rfl) (wh12 os args) (wt12 os args) (uA 8 (by kernel_rfl) (by kernel_rfl) (wh11 os args) (wt11 _) (rfl)))))))))))))
def wBs : List Nat := [0, 1, 2, 3, 4, 5, 6, 7, 8, 9, 10, 11, 12, 18, 19, 20, 21, 22, 23]
theorem wNd : nodupBits 1400 wPs 0 = true := by kernel_rfl
theorem wIn : inB wBs wPs = true := by kernel_rfl
theorem laid_met (os : Os) (args : Array Value) : laidMet Tryz.prog Rows.fnTextedRow.laid (wW os args) := by
 refine ⟨wPs, wLv os args, (nodupBits_sound wNd).1, fun b off hp => ?_⟩
 have h1 := List.all_eq_true.1 wIn _ hp
 have hb : b ∈ wBs := by simpa using h1
 simp only [wBs, List.mem_cons, List.not_mem_nil, or_false] at hb
 rcases hb with rfl | rfl | rfl | rfl | rfl | rfl | rfl | rfl | rfl | rfl | rfl | rfl | rfl | rfl | rfl | rfl | rfl | rfl | rfl
 ·exact wT (wh0 os args) (by kernel_rfl)
 ·exact wgood_one (wh1 os args) (wo1 os args)
 ·exact wgood_one (wh2 os args) (wo2 os args)
 ·exact wT (wh3 os args) (by kernel_rfl)
 ·exact wT (wh4 os args) (by kernel_rfl)
 ·exact wT (wh5 os args) (by kernel_rfl)
 ·exact wT (wh6 os args) (by kernel_rfl)
 ·exact wT (wh7 os args) (by kernel_rfl)
 ·exact wT (wh8 os args) (by kernel_rfl)
 ·exact wT (wh9 os args) (by kernel_rfl)
 ·exact wT (wh10 os args) (by kernel_rfl)
 ·exact wT (wh11 os args) (by kernel_rfl)
 ·exact wT (wh12 os args) (by kernel_rfl)
 ·exact wT (wh18 os args) (by kernel_rfl)
 ·exact wT (wh19 os args) (by kernel_rfl)
 ·exact wT (wh20 os args) (by kernel_rfl)
 ·exact wT (wh21 os args) (by kernel_rfl)
 ·exact wT (wh22 os args) (by kernel_rfl)
 ·exact wT (wh23 os args) (by kernel_rfl)
end Go.Jw

namespace Go.Jw
open Go Go.RowKit Go.Proofs Go.ChangeShapes Go.WideShapes Go.ChangeAt Go.Proofs.YtlcfillobkdnmaaGreatDoor
set_option maxRecDepth 100000
noncomputable abbrev jP : Program := Tryz.pinned.checked.prog
def jL : List Char := ([104, 97, 114, 110, 101, 115, 115, 32, 51, 52, 54, 53, 50, 48, 98, 97, 101, 52, 98, 52, 51, 99, 98, 99, 55, 56, 100, 101, 53, 53, 51, 57, 50, 50, 101, 54, 99, 51, 55, 50, 100, 97, 98, 97, 102, 48, 98, 100, 48, 48, 53, 100, 102, 57, 97, 97, 102, 99, 54, 50, 57, 100, 55, 55, 100, 51, 48, 101, 52, 48, 56, 53, 32, 99, 117, 116, 32, 97, 116, 32, 108, 111, 111, 112, 46, 101, 120, 97, 109, 112, 108, 101, 47, 112, 117, 98, 45, 103, 48, 49, 53, 50, 50, 47, 108, 97, 119, 115, 46, 70, 110, 84, 101, 120, 116, 101, 100, 32, 108, 111, 111, 112, 46, 101, 120, 97, 109, 112, 108, 101, 47, 112, 117, 98, 45, 103, 48, 49, 53, 50, 50, 47, 108, 97, 119, 115, 46, 70, 110, 87, 114, 105, 116, 116, 101, 110, 32, 108, 111, 111, 112, 46, 101, 120, 97, 109, 112, 108, 101, 47, 112, 117, 98, 45, 103, 48, 49, 53, 50, 50, 47, 108, 97, 119, 115, 46, 70, 110, 87, 114, 105, 116, 116, 101, 110, 84, 119, 105, 99, 101, 32, 108, 111, 111, 112, 46, 101, 120, 97, 109, 112, 108, 101, 47, 112, 117, 98, 45, 103, 48, 49, 53, 50, 50, 47, 108, 97, 119, 115, 46, 70, 110, 65, 100, 100, 101, 100, 32, 108, 111, 111, 112, 46, 101, 120, 97, 109, 112, 108, 101, 47, 112, 117, 98, 45, 103, 48, 49, 53, 50, 50, 47, 108, 97, 119, 115, 46, 70, 110, 70, 111, 117, 110, 100, 32, 108, 111, 111, 112, 46, 101, 120, 97, 109, 112, 108, 101, 47, 112, 117, 98, 45, 103, 48, 49, 53, 50, 50, 47, 108, 97, 119, 115, 46, 70, 110, 80, 111, 105, 110, 116, 101, 100, 32, 108, 111, 111, 112, 46, 101, 120, 97, 109, 112, 108, 101, 47, 112, 117, 98, 45, 103, 48, 49, 53, 50, 50, 47, 108, 97, 119, 115, 46, 70, 110, 67, 111, 112, 105, 101, 100, 32, 108, 111, 111, 112, 46, 101, 120, 97, 109, 112, 108, 101, 47, 112, 117, 98, 45, 103, 48, 49, 53, 50, 50, 47, 108, 97, 119, 115, 46, 70, 110, 67, 111, 112, 105, 101, 100, 65, 99, 99, 101, 112, 116, 115, 32, 108, 111, 111, 112, 46, 101, 120, 97, 109, 112, 108, 101, 47, 112, 117, 98, 45, 103, 48, 49, 53, 50, 50, 47, 108, 97, 119, 115, 46, 70, 110, 65, 108, 108, 83, 116, 101, 112, 115, 32, 108, 111, 111, 112, 46, 101, 120, 97, 109, 112, 108, 101, 47, 112, 117, 98, 45, 103, 48, 49, 53, 50, 50, 47, 108, 97, 119, 115, 46, 70, 110, 67, 104, 111, 115, 101, 110, 32, 108, 111, 111, 112, 46, 101, 120, 97, 109, 112, 108, 101, 47, 112, 117, 98, 45, 103, 48, 49, 53, 50, 50, 47, 108, 97, 119, 115, 46, 70, 110, 67, 104, 111, 115, 101, 110, 78, 97, 114, 114, 111, 119, 115, 32, 108, 111, 111, 112, 46, 101, 120, 97, 109, 112, 108, 101, 47, 112, 117, 98, 45, 103, 48, 49, 53, 50, 50, 47, 108, 97, 119, 115, 46, 70, 110, 77, 101, 114, 103, 101, 100, 32, 108, 111, 111, 112, 46, 101, 120, 97, 109, 112, 108, 101, 47, 112, 117, 98, 45, 103, 48, 49, 53, 50, 50, 47, 108, 97, 119, 115, 46, 70, 110, 77, 101, 114, 103, 101, 100, 65, 99, 99, 101, 112, 116, 115, 32, 108, 111, 111, 112, 46, 101, 120, 97, 109, 112, 108, 101, 47, 112, 117, 98, 45, 103, 48, 49, 53, 50, 50, 47, 108, 97, 119, 115, 46, 70, 110, 82, 101, 115, 111, 108, 118, 101, 100, 32, 108, 111, 111, 112, 46, 101, 120, 97, 109, 112, 108, 101, 47, 112, 117, 98, 45, 103, 48, 49, 53, 50, 50, 47, 108, 97, 119, 115, 46, 70, 110, 82, 101, 115, 111, 108, 118, 101, 100, 65, 99, 99, 101, 112, 116, 115, 32, 108, 111, 111, 112, 46, 101, 120, 97, 109, 112, 108, 101, 47, 112, 117, 98, 45, 103, 48, 49, 53, 50, 50, 47, 108, 97, 119, 115, 46, 70, 110, 82, 101, 115, 111, 108, 118, 101, 100, 84, 119, 105, 99, 101] : List Nat).map Char.ofNat
def jW : List (List Char) := ([[104, 97, 114, 110, 101, 115, 115], [51, 52, 54, 53, 50, 48, 98, 97, 101, 52, 98, 52, 51, 99, 98, 99, 55, 56, 100, 101, 53, 53, 51, 57, 50, 50, 101, 54, 99, 51, 55, 50, 100, 97, 98, 97, 102, 48, 98, 100, 48, 48, 53, 100, 102, 57, 97, 97, 102, 99, 54, 50, 57, 100, 55, 55, 100, 51, 48, 101, 52, 48, 56, 53], [99, 117, 116], [97, 116], [108, 111, 111, 112, 46, 101, 120, 97, 109, 112, 108, 101, 47, 112, 117, 98, 45, 103, 48, 49, 53, 50, 50, 47, 108, 97, 119, 115, 46, 70, 110, 84, 101, 120, 116, 101, 100], [108, 111, 111, 112, 46, 101, 120, 97, 109, 112, 108, 101, 47, 112, 117, 98, 45, 103, 48, 49, 53, 50, 50, 47, 108, 97, 119, 115, 46, 70, 110, 87, 114, 105, 116, 116, 101, 110], [108, 111, 111, 112, 46, 101, 120, 97, 109, 112, 108, 101, 47, 112, 117, 98, 45, 103, 48, 49, 53, 50, 50, 47, 108, 97, 119, 115, 46, 70, 110, 87, 114, 105, 116, 116, 101, 110, 84, 119, 105, 99, 101], [108, 111, 111, 112, 46, 101, 120, 97, 109, 112, 108, 101, 47, 112, 117, 98, 45, 103, 48, 49, 53, 50, 50, 47, 108, 97, 119, 115, 46, 70, 110, 65, 100, 100, 101, 100], [108, 111, 111, 112, 46, 101, 120, 97, 109, 112, 108, 101, 47, 112, 117, 98, 45, 103, 48, 49, 53, 50, 50, 47, 108, 97, 119, 115, 46, 70, 110, 70, 111, 117, 110, 100], [108, 111, 111, 112, 46, 101, 120, 97, 109, 112, 108, 101, 47, 112, 117, 98, 45, 103, 48, 49, 53, 50, 50, 47, 108, 97, 119, 115, 46, 70, 110, 80, 111, 105, 110, 116, 101, 100], [108, 111, 111, 112, 46, 101, 120, 97, 109, 112, 108, 101, 47, 112, 117, 98, 45, 103, 48, 49, 53, 50, 50, 47, 108, 97, 119, 115, 46, 70, 110, 67, 111, 112, 105, 101, 100], [108, 111, 111, 112, 46, 101, 120, 97, 109, 112, 108, 101, 47, 112, 117, 98, 45, 103, 48, 49, 53, 50, 50, 47, 108, 97, 119, 115, 46, 70, 110, 67, 111, 112, 105, 101, 100, 65, 99, 99, 101, 112, 116, 115], [108, 111, 111, 112, 46, 101, 120, 97, 109, 112, 108, 101, 47, 112, 117, 98, 45, 103, 48, 49, 53, 50, 50, 47, 108, 97, 119, 115, 46, 70, 110, 65, 108, 108, 83, 116, 101, 112, 115], [108, 111, 111, 112, 46, 101, 120, 97, 109, 112, 108, 101, 47, 112, 117, 98, 45, 103, 48, 49, 53, 50, 50, 47, 108, 97, 119, 115, 46, 70, 110, 67, 104, 111, 115, 101, 110], [108, 111, 111, 112, 46, 101, 120, 97, 109, 112, 108, 101, 47, 112, 117, 98, 45, 103, 48, 49, 53, 50, 50, 47, 108, 97, 119, 115, 46, 70, 110, 67, 104, 111, 115, 101, 110, 78, 97, 114, 114, 111, 119, 115], [108, 111, 111, 112, 46, 101, 120, 97, 109, 112, 108, 101, 47, 112, 117, 98, 45, 103, 48, 49, 53, 50, 50, 47, 108, 97, 119, 115, 46, 70, 110, 77, 101, 114, 103, 101, 100], [108, 111, 111, 112, 46, 101, 120, 97, 109, 112, 108, 101, 47, 112, 117, 98, 45, 103, 48, 49, 53, 50, 50, 47, 108, 97, 119, 115, 46, 70, 110, 77, 101, 114, 103, 101, 100, 65, 99, 99, 101, 112, 116, 115], [108, 111, 111, 112, 46, 101, 120, 97, 109, 112, 108, 101, 47, 112, 117, 98, 45, 103, 48, 49, 53, 50, 50, 47, 108, 97, 119, 115, 46, 70, 110, 82, 101, 115, 111, 108, 118, 101, 100], [108, 111, 111, 112, 46, 101, 120, 97, 109, 112, 108, 101, 47, 112, 117, 98, 45, 103, 48, 49, 53, 50, 50, 47, 108, 97, 119, 115, 46, 70, 110, 82, 101, 115, 111, 108, 118, 101, 100, 65, 99, 99, 101, 112, 116, 115], [108, 111, 111, 112, 46, 101, 120, 97, 109, 112, 108, 101, 47, 112, 117, 98, 45, 103, 48, 49, 53, 50, 50, 47, 108, 97, 119, 115, 46, 70, 110, 82, 101, 115, 111, 108, 118, 101, 100, 84, 119, 105, 99, 101]] : List (List Nat)).map fun l => l.map Char.ofNat
theorem hI : jP.initOrder = String.ofList jL := by kernel_rfl
theorem hW0 : wordsSigns jL = jW := by kernel_rfl
theorem hW : wordsSigns jP.initOrder.toList = jW := by rw [hI, String.toList_ofList, hW0]
theorem jh : behindMainWord (wordsSigns jP.initOrder.toList) = "cut".toList :: jW.drop 3 := by rw [hW]; kernel_rfl
theorem make_of {P : Program} {rest : List (List Char)} (h : behindMainWord (wordsSigns P.initOrder.toList) = "cut".toList :: rest) : P.make = some .cut := by unfold Program.make; rw [h]; rfl
theorem lifts_of {P : Program} {rest : List (List Char)} (h : behindMainWord (wordsSigns P.initOrder.toList) = "cut".toList :: rest) : P.liftsFinal = false := by unfold Program.liftsFinal Program.headLifts; rw [h]; rfl
theorem enter_of {P : Program} {rest : List (List Char)} (h : behindMainWord (wordsSigns P.initOrder.toList) = "cut".toList :: rest) (l1 : P.laysLater = false) (l2 : P.bearsReflect = false) (l3 : P.doorFits [] = true) : P.mayEnter = true := by
 have h1 : (stripLifts liftWords ("cut".toList :: rest)).1 = [] := rfl
 have h2 : (stripLifts liftWords ("cut".toList :: rest)).2 = "cut".toList :: rest := rfl
 unfold Program.mayEnter
 rw [h]
 simp only [h1, h2, l1, l2, l3, List.head?_cons]
 simp
theorem jl1 : jP.laysLater = false := by kernel_rfl
theorem jl2 : jP.bearsReflect = false := by kernel_rfl
theorem jl3 : jP.doorFits [] = true := by kernel_rfl
theorem j1 : (laidOutB jP) = true := by kernel_rfl
theorem j2 : (mapsRowed jP) = true := by kernel_rfl
theorem j6 : ((jP.stops == [])) = true := by kernel_rfl
theorem j8 : ((jP.stopKnobs == [])) = true := by kernel_rfl
theorem j24 : (jP.stopsHeard) = true := by kernel_rfl
theorem j25 : (jP.mayEnter) = true := enter_of jh jl1 jl2 jl3
end Go.Jw

namespace Go.Jw
open Go Go.RowKit Go.Proofs Go.ChangeShapes Go.WideShapes Go.ChangeAt Go.Proofs.YtlcfillobkdnmaaGreatDoor
set_option maxRecDepth 100000
def wArg : Value := .agg #[.int .i64 0, .int .i64 0, .string ⟨#[]⟩, .slice none 0 0, .slice none 0 0]
end Go.Jw

namespace Go.Jw
open Go Go.RowKit Go.Proofs Go.ChangeShapes Go.WideShapes Go.ChangeAt Go.Proofs.YtlcfillobkdnmaaGreatDoor
set_option maxRecDepth 100000
theorem main_of {P : Program} {h s : List Char} {r : List (List Char)} (hw : wordsSigns P.initOrder.toList = h :: s :: r) (h1 : h = "harness".toList) (h2 : isSumSigns s = true) : P.mainIs = some (true, s) := by
 unfold Program.mainIs
 rw [hw, h1]
 simp only [h2]
 rfl
theorem jhd : wordsSigns jP.initOrder.toList = "harness".toList :: "346520bae4b43cbc78de553922e6c372dabaf0bd005df9aafc629d77d30e4085".toList :: jW.drop 2 := by rw [hW]; kernel_rfl
theorem jsum : isSumSigns "346520bae4b43cbc78de553922e6c372dabaf0bd005df9aafc629d77d30e4085".toList = true := by kernel_rfl
theorem jmain : jP.mainIs = some (true, "346520bae4b43cbc78de553922e6c372dabaf0bd005df9aafc629d77d30e4085".toList) := main_of jhd rfl jsum
end Go.Jw

namespace Go.Jw
open Go Go.RowKit Go.Proofs Go.ChangeShapes Go.WideShapes Go.ChangeAt Go.Proofs.YtlcfillobkdnmaaGreatDoor
set_option maxRecDepth 100000
theorem contract9 (H : Type) (enc : TypeId × Value → H) (W : World) (base : Nat) (args : Array Value) (ds gs : List (DataW H)) (before : List MemPlace)
  (hval : ∀ (j : Nat) t v, Tryz.f9.params[j]? = some t → args[j]? = some v → Value.okWide Tryz.prog W .any base t v)
  (hW : DataW.Whole enc Tryz.prog Tryz.f9.params.toList Rows.fnCopiedSpec.vars false W args.toList ds gs before) (hL : laidMetH Tryz.prog Rows.fnCopiedRow.laid W) :
  Calls Tryz.prog 9 args W fun e W' => ∃ v, e = .returned v ∧ Rows.fnCopiedSpec.post enc Tryz.prog Tryz.f9 false true false false W args v W' := by
 have hW' := hW
 obtain ⟨p, q, hA0, hV, rfl, hfz, hnd⟩ := hW
 have hA : DataW.TrodAll enc Tryz.prog W 0 (fun _ => true) true Tryz.f9.params.toList args.toList ds p := hA0
 rw [Tryz.params9] at hA hval
 obtain ⟨v0, v1, d0, d1, p0, p1, rfl, rfl, rfl, h0, h1⟩ := trodAll_two hA
 have hvo0 := hval 0 25 v0 rfl rfl
 unfold Value.okWide at hvo0
 rw [Tryz.underlying25] at hvo0
 obtain ⟨cs0, rfl, _⟩ := hvo0
 obtain ⟨fuel0, hf0⟩ := id h0
 obtain ⟨t0, hv0, _⟩ := val_of_trod fuel0 _ _ hf0
 have hv0' : ValP W (· < W.heap.size) t0 (.agg cs0) := by simpa [Value.cells] using hv0
 have hvo1 := hval 1 25 v1 rfl rfl
 unfold Value.okWide at hvo1
 rw [Tryz.underlying25] at hvo1
 obtain ⟨cs1, rfl, _⟩ := hvo1
 obtain ⟨fuel1, hf1⟩ := id h1
 obtain ⟨t1, hv1, _⟩ := val_of_trod fuel1 _ _ hf1
 have hv1' : ValP W (· < W.heap.size) t1 (.agg cs1) := by simpa [Value.cells] using hv1
 obtain ⟨rfl, rfl⟩ := trodVars_none hV
 clear hA0
 simp only [List.append_nil] at hW'
 have hL' : laidMet Tryz.prog Rows.fnTextedUptoRow.laid W := by rw [← met_eq]; exact hL
 have htab := tab_of hL' (.tail _ (.tail _ (.tail _ (.tail _ (.tail _ (.tail _ (.tail _ (.tail _ (.head _)))))))))
 obtain ⟨fb, hft⟩ := ft_of hL' (.tail _ (.tail _ (.tail _ (.tail _ (.tail _ (.tail _ (.tail _ (.tail _ (.head _))))))))) (.tail _ (.tail _ (.tail _ (.tail _ (.head _))))) (.tail _ (.tail _ (.tail _ (.head _)))) (.tail _ (.tail _ (.tail _ (.tail _ (.tail _ (.tail _ (.head _)))))))
  (.tail _ (.tail _ (.tail _ (.tail _ (.tail _ (.tail _ (.tail _ (.tail _ (.tail _ (.tail _ (.tail _ (.tail _ (.head _)))))))))))))
 have hc := calls_of (W := W) (l9 fb t0 (.agg cs0) t1 (.agg cs1)) (by
  intro d hd
  rcases List.mem_cons.1 hd with rfl | hd
  ·exact hv0'
  rcases List.mem_cons.1 hd with rfl | hd
  ·exact hv1'
  rcases List.mem_cons.1 hd with rfl | hd
  ·exact htab
  rcases List.mem_cons.1 hd with rfl | hd
  ·exact hft
  ·cases hd)
 refine hc.mono fun e W' ⟨he, hb⟩ => ?_
 subst he
 have hlt := hW'.lt
 exact ⟨_, rfl, post_of_below (pa := p0 ++ p1) (pv := []) hW' (fun _ _ _ => trodAll_cons_mk (shut_bool Tryz.underlying4 _) trodAll_mk0)
  (fun sp hs => trodAll_mk2 (Go.WideElems.Trod_stays laidOut rd25 lt25 h0 (fun x hx => hb.same (hlt x (by simp [hx]))) (fun x hx => hs x (by simp [hx]))) (Go.WideElems.Trod_stays laidOut rd25 lt25 h1 (fun x hx => hb.same (hlt x (by simp [hx]))) (fun x hx => hs x (by simp [hx])))) (fun _ _ => rfl) (by simp) hb (ok_one (by kernel_rfl) rfl (okWide_bool_mk Tryz.underlying4 _))⟩
end Go.Jw

namespace Go.Jw
open Go Go.RowKit Go.Proofs Go.ChangeShapes Go.WideShapes Go.ChangeAt Go.Proofs.YtlcfillobkdnmaaGreatDoor
set_option maxRecDepth 100000
noncomputable abbrev jC9 : OpenClaim := Rows.fnCopiedRow
noncomputable abbrev jS9 : ChangeSpec := (OpenSpec.ofChange Rows.fnCopiedSpec).bare
noncomputable abbrev jF9 : Func := Tryz.f9
theorem j0_9 : (jC9.wf (OpenSpec.ofChange jS9)) = true := by kernel_rfl
theorem j3_9 : (jF9.params.all (jP.readableRec ·)) = true := by kernel_rfl
theorem j4_9 : (namedTie jP jC9.named jS9.vars) = true := by kernel_rfl
theorem j5_9 : ((jC9.stops == [])) = true := by kernel_rfl
theorem j7_9 : ((jC9.knobs == [])) = true := by kernel_rfl
theorem j9_9 : ((jC9.inPlace == jP.inPlace 9)) = true := by kernel_rfl
theorem j10_9 : ((jC9.unfollowed == jP.unfollowed 9)) = true := by kernel_rfl
theorem j11_9 : ((jC9.recurses == jP.recurses 9)) = true := by kernel_rfl
theorem j12_9 : ((jC9.named == jP.varsNamed 9)) = true := by kernel_rfl
theorem j13_9 : ((jC9.maps == (jF9.params.toList ++ jS9.plain.varTypes jP).any (jP.mapsRec ·))) = true := by kernel_rfl
theorem j14_9 : ((jC9.ifaces == (jF9.params.toList ++ jS9.plain.varTypes jP).any (jP.ifacesRec ·))) = true := by kernel_rfl
theorem j15_9 : ((jC9.mapsOut == jP.mapsAmong jF9.resultTypes.toList)) = true := by kernel_rfl
theorem j16_9 : ((jC9.loops == (jF9.params.toList ++ jS9.plain.varTypes jP).any (jP.loopsFrom ·))) = true := by kernel_rfl
theorem j17_9 : ((jC9.wideKeys == (jF9.params.toList ++ jS9.plain.varTypes jP ++ jF9.resultTypes.toList).any (jP.wideKeysFrom ·))) = true := by kernel_rfl
theorem j18_9 : (jS9.vars.all (jP.varReadable ·)) = true := by kernel_rfl
theorem j19_9 : (jF9.resultTypes.all (fun t => jP.readableRec t && decide (t < jP.types.size))) = true := by kernel_rfl
theorem j20_9 : ((jC9.ifacesOut == jF9.resultTypes.toList.any (jP.ifacesRec ·))) = true := by kernel_rfl
theorem j21_9 : ((jC9.loopsOut == jF9.resultTypes.toList.any (jP.loopsFrom ·))) = true := by kernel_rfl
theorem j22_9 : ((jC9.plainKeys == jP.plainKeys)) = true := by kernel_rfl
theorem j23_9 : (jC9.shortTexts.isNone) = true := by kernel_rfl
theorem j26_9 : ((jC9.lifted == jP.liftsFinal)) = true := by rw [lifts_of jh]; kernel_rfl
theorem j27_9 : ((jP.make == some jC9.make)) = true := by rw [make_of jh]; kernel_rfl
theorem j28_9 : ((jC9.kinds == (if jC9.domain.isEmpty then [] else jF9.params.toList.map fun t => match jP.underlying t with | some (.int k) => some k | _ => none))) = true := by kernel_rfl
theorem j29_9 : ((jC9.pinned == jC9.pinnedBy)) = true := by kernel_rfl
theorem j30_9 : ((jC9.veiled == (jF9.params.toList ++ jS9.plain.varTypes jP ++ jF9.resultTypes.toList).any (jP.veiledRec ·))) = true := by kernel_rfl
theorem j31_9 : (jC9.veiledFits jP jF9.params.toList (jF9.params.toList ++ jS9.plain.varTypes jP ++ jF9.resultTypes.toList)) = true := by kernel_rfl
theorem jAll9 : joinedFacts jP 9 jF9 jS9 jC9 = true := by
 unfold joinedFacts
 simp only [Bool.and_eq_true]
 exact ⟨⟨⟨⟨⟨⟨⟨⟨⟨⟨⟨⟨⟨⟨⟨⟨⟨⟨⟨⟨⟨⟨⟨⟨⟨⟨⟨⟨⟨⟨⟨j0_9, j1⟩, j2⟩, j3_9⟩, j4_9⟩, j5_9⟩, j6⟩, j7_9⟩, j8⟩, j9_9⟩, j10_9⟩, j11_9⟩, j12_9⟩, j13_9⟩, j14_9⟩, j15_9⟩, j16_9⟩, j17_9⟩, j18_9⟩, j19_9⟩, j20_9⟩, j21_9⟩, j22_9⟩, j23_9⟩, j24⟩, j25⟩, j26_9⟩, j27_9⟩, j28_9⟩, j29_9⟩, j30_9⟩, j31_9⟩
theorem jgoes9 : false = jC9.goesBy jP := by kernel_rfl
theorem jtext9 : jC9.wfByText (OpenSpec.ofChange Rows.fnCopiedSpec) = true := by kernel_rfl
end Go.Jw

namespace Go.Jw
open Go Go.RowKit Go.Proofs Go.ChangeShapes Go.WideShapes Go.ChangeAt Go.Proofs.YtlcfillobkdnmaaGreatDoor
set_option maxRecDepth 100000
theorem reads9 (os : Os) {H : Type} (enc : TypeId × Value → H) : ∃ places, DataW.whole enc Tryz.prog ((laidWorld os).forCall (fun _ _ => 0) ⟨#[], #[wArg, wArg], []⟩).memory Tryz.f9.params.toList Rows.fnCopiedSpec.vars false #[wArg, wArg].toList 8 = some ([.agg [.lit (.int .i64 0), .lit (.int .i64 0), .lit (.string []), .nil, .nil], .agg [.lit (.int .i64 0), .lit (.int .i64 0), .lit (.string []), .nil, .nil]], [], places) :=
 ⟨[], by kernel_rfl⟩
theorem lifted9 (os : Os) (started : os.Started) (H : Type) (enc : TypeId × Value → H) (F : Stop.Interp) :
    ReturnsInHanded {} Tryz.checked os 9 .any ((OpenSpec.ofChange Rows.fnCopiedSpec).preRow enc Tryz.prog Tryz.f9 Rows.fnCopiedRow.domain false Rows.fnCopiedRow.laid) (((OpenSpec.ofChange Rows.fnCopiedSpec).at F).post enc Tryz.prog Tryz.f9 false true false false) := by
  obtain ⟨places, hx⟩ := reads9 os enc
  refine returnsInHanded_of_row (C := Tryz.checked) (s := (OpenSpec.ofChange Rows.fnCopiedSpec)) own started (by kernel_rfl) Tryz.func9
    (witness_row_atRef (enc := enc) (C := Tryz.checked) false (laidWorld os) #[wArg, wArg] rfl (vars_ref os _) (by kernel_rfl) (by kernel_rfl)
      (OpenSpec.preRow_of_cond 8 hx (by kernel_rfl) (fun k hk => by cases hk) (by kernel_rfl) (laid_met os _))) ?_
  intro W base args ds gs before hval hW _ _ _ hL _ _
  exact contract9 H enc W base args ds gs before hval hW hL
theorem said9 : Rows.FnCopiedSaid :=
  OpenClaim.holds_of_cond 9 Tryz.f9 rfl rfl rfl rfl rfl rfl rfl ⟨rfl, rfl, rfl, rfl, rfl⟩ rfl rfl rfl rfl rfl (by kernel_rfl) Tryz.func9 jAll9
    (of_decide_eq_true (by kernel_rfl)) (by unfold Func.isWrapper; first | (rw [if_pos (by decide +kernel)]; kernel_rfl) | (rw [if_neg (by decide +kernel)]; exact ⟨rfl, rfl⟩))
    (fun os started H enc _ F => by rw [OpenClaim.pre_eq_preRow]; exact lifted9 os started H enc F)
theorem plain9 (f : FuncId) (fn : Func) (hf : Tryz.pinned.checked.prog.funcNamed "loop.example/pub-g01522/laws.FnCopied" = some f) (hfn : Tryz.pinned.checked.prog.funcs[f]? = some fn) :
  true = Tryz.pinned.checked.prog.looks [] ∧ ∀ (j : Nat) t, fn.params[j]? = some t → Tryz.pinned.checked.prog.wantsStandIn t = false := by
 obtain rfl : f = 9 := Option.some.inj ((show Tryz.prog.funcNamed "loop.example/pub-g01522/laws.FnCopied" = some 9 by kernel_rfl).symm.trans hf) |>.symm
 obtain rfl : fn = Tryz.f9 := (Option.some.inj (Tryz.func9.symm.trans hfn)).symm
 refine ⟨by kernel_rfl, fun j t ht => ?_⟩
 rw [Tryz.params9] at ht
 have hm : t ∈ #[25, 25] := Array.mem_of_getElem? ht
 simp only [List.mem_toArray, List.mem_cons, List.not_mem_nil, or_false] at hm
 rcases hm with rfl | rfl
 ·exact (show Tryz.prog.wantsStandIn 25 = false by kernel_rfl)
 ·exact (show Tryz.prog.wantsStandIn 25 = false by kernel_rfl)
theorem card9 : Rows.FnCopiedCardSaid :=
 Claim7.holds_tied_plain_at .later [] _ _ _ _ said9 (fun _ h => by cases h) jtext9 (fun _ h => by cases h) (ty_row _ rfl rfl) rfl ⟨rfl, rfl⟩ jmain rfl plain9 jgoes9
end Go.Jw
namespace Go.Proofs.YtlcfillobkdnmaaGreatDoor
/-- Whatever the input: the law FnCopied returns true, and what it reads, reads ags it did. -/
theorem fnCopied_holds : Rows.FnCopiedCardSaid := Go.Jw.card9
end Go.Proofs.YtlcfillobkdnmaaGreatDoor

