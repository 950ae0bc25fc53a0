/- Part 5 of the proof's texts, made small by a program. -/
import Derived.Test.YtlcfillobkdnmaaGreatDoorTp4
import Derived.Test.YtlcfillobkdnmaaGreatDoorRows
import Derived.ProofKit
import Derived.Deep.Slices
import Derived.SliceStrings
import Derived.Lib.LaidTab
import Derived.LaidByTextLater
import Derived.SevenTiedAt
import Derived.LaidSub
import Derived.LaidOnce
import Derived.Test.YtlcfillobkdnmaaGreatDoorCards
import Derived.OpenShut
import Derived.Deep.DeepHandedRow
import Derived.Deep.DeepWitnessRowRef
import Derived.ChangeMaps5
import Derived.RowKit
import Derived.DataWitness
import Derived.LaidLaws
set_option linter.unusedVariables false
set_option linter.unusedSimpArgs false
set_option maxHeartbeats 4000000
namespace Go.Jw
open Go Go.RowKit Go.Proofs
set_option maxRecDepth 8000
open Go.Sort (SWO)
section rules
variable {P : Program} {n : Nat} {F : List Nat} {c : Ctx F} {ops : Array Oper} {d : Nat} {T : TypeId} {l : List Oper} {k : List KI} {Q : Post} {e : Env} {M : List HA} {D : List DA}
theorem ops_frBlk (i : Nat) {b : Nat} {cs : List Value} {U : TypeId} (hi : M[i]? = some (.blk b cs U)) (hF : F = []) (next : RunOps P n c ops l k Q e (M.eraseIdx i) (.dblk b cs U :: D)) : RunOps P n c ops l k Q e M D :=
  ops_freeze (h := .blk b cs U) [.dblk b cs U] (fun x _ h => by rw [hF] at h; cases h) (wM hi) (fun w ok h hok hD d hd => by
    rcases List.mem_singleton.1 hd with rfl
    exact ⟨hok _ (by simp [HA.foot]), h⟩) next
theorem op_idxRow (i : Nat) {x y : Operand} {A : Option Addr} {m cap j : Nat} {kd : IntKind} {S E sz by_ U : Nat} {xs : List Value} (hS : SliceOf P S E sz by_) (hd : Nat.blt d n = true) (hx : ev e x = some (.slice A m cap)) (hy : ev e y = some (.int kd (j : Nat))) (hi : M[i]? = some (.row A m cap U 1 xs)) (hj : j < m)
  (next : RunOps P n c ops l k Q ((d, .pointer (some (At A (j * sz)))) :: e) M D) : RunOp P n c ops (some d) (.indexAddr S x y) T l k Q e M D := by
 intro a w hf
 obtain ⟨_, _, h3⟩ := uE (hf.toFitsW.mem hi)
 have hl : xs.length = m := by have := (hf.toFitsW.mem hi : (HA.row A m cap U 1 xs).holds w).1; omega
 obtain ⟨a', ha, _⟩ := h3 j xs[j] (List.getElem?_eq_getElem (by omega))
 subst ha
 exact xV hS hd hx hy hj next a w hf
end rules
abbrev encE (x : Nat) : Value := encN (2 * x)
def vals (ys : List Y) : List ByteArray := ys.map Y.val
theorem rangeE_snoc (i : Nat) : (List.range i).map encE ++ [encE i] = (List.range (i + 1)).map encE := by rw [List.range_succ, List.map_append]; rfl
theorem rangeE (n : Nat) : (List.range n).map encE = ((List.range n).map (2 * ·)).map encN := by rw [List.map_map]; rfl
theorem c107len {ks : List ByteArray} {us : List V} (hl : ks.length = us.length) : (ks.zip (us.map outY)).length = us.length := by rw [List.length_zip, List.length_map]; omega
theorem c107key {ks : List ByteArray} {us : List V} (hl : ks.length = us.length) {i : Nat} (h : i < us.length) : ((ks.zip (us.map outY)).flatMap prY)[2 * i]? = some (scal tStr (ks.getD i ⟨#[]⟩)) := by
 rw [flat_get0 (by rw [c107len hl]; exact h), List.getElem_zip, vT (by omega)]
theorem c107val {ks : List ByteArray} {us : List V} (hl : ks.length = us.length) {i : Nat} (h : i < us.length) : ((ks.zip (us.map outY)).flatMap prY)[2 * i + 1]? = some (outY (us[i])) := by
 rw [flat_get1 (by rw [c107len hl]; exact h), List.getElem_zip, List.getElem_map]
theorem halves {ks : List ByteArray} {us : List V} (hl : ks.length = us.length) {ds : List Nat} (hp : ds.Perm ((List.range us.length).map (2 * ·))) (hs : ds.Pairwise (fun x y => ltK (vals ((ks.zip (us.map outY)).flatMap prY)) y x = false)) :
  ∃ es : List Nat, es.Perm (List.range us.length) ∧ es.Pairwise (fun x y => ltK ks y x = false) ∧ ds.map encN = es.map encE := by
 have hev : ∀ x ∈ ds, ∃ y, y < us.length ∧ x = 2 * y := fun x hx => by
  obtain ⟨y, hy, rfl⟩ := List.mem_map.1 (hp.mem_iff.1 hx)
  exact ⟨y, List.mem_range.1 hy, rfl⟩
 have hkey : ∀ y, y < us.length → (vals ((ks.zip (us.map outY)).flatMap prY)).getD (2 * y) ⟨#[]⟩ = ks.getD y ⟨#[]⟩ := fun y hy => by
  unfold vals
  rw [List.getD_eq_getElem?_getD, List.getElem?_map, c107key hl hy]
  rfl
 refine ⟨ds.map (· / 2), ?_, ?_, ?_⟩
 ·have := hp.map (· / 2)
  rw [List.map_map] at this
  have e : ((fun x => x / 2) ∘ fun x => 2 * x) = (id : Nat → Nat) := by funext x; simp only [Function.comp, id]; omega
  rwa [e, List.map_id] at this
 ·rw [List.pairwise_map]
  refine hs.imp_of_mem fun {x y} hx hy h => ?_
  obtain ⟨a, ha, rfl⟩ := hev x hx
  obtain ⟨b, hb, rfl⟩ := hev y hy
  unfold ltK at h ⊢
  rw [hkey a ha, hkey b hb] at h
  rw [show 2 * a / 2 = a by omega, show 2 * b / 2 = b by omega]
  exact h
 ·rw [List.map_map]
  refine List.map_congr_left fun x hx => ?_
  obtain ⟨y, _, rfl⟩ := hev x hx
  show encN (2 * y) = encN (2 * (2 * y / 2))
  congr 1
  omega
set_option maxHeartbeats 2000000 in
theorem less167 (W : World) (keys : List ByteArray) (dk : List Nat) (b1 nb b9 b n c m : Nat) (ka : Addr) (kc : Nat) (hn1 : W.cell? ⟨b1, 0, none⟩ = some (ptr nb)) (hks : W.cell? ⟨nb, 6, none⟩ = some (.slice (some ka) m kc)) (hm : m = keys.length) (hps : W.cell? ⟨b9, 0, none⟩ = some (.slice (some ⟨b, 0, none⟩) n c)) (hn : dk.length = n)
  (hdk : ∀ j x, dk[j]? = some x → W.cell? ⟨b, j, none⟩ = some (encN x)) (hkk : ∀ j s, keys[j]? = some s → ∃ q, W.cell? (ka.add j) = some (ptr q) ∧ W.cell? ⟨q, 3, none⟩ = some (.string s)) (hlt : ∀ x ∈ dk, x < keys.length) (i j : Nat) (hi : i < dk.length) (hj : j < dk.length) :
  Calls Tryz.prog 167 #[.int .i64 i, .int .i64 j, ptr b1, ptr b9] W fun e w' => e = .returned (.bool (ltK keys dk[i] dk[j])) ∧ ∃ q, w' = W.drewN q := by
 have hxi := hlt _ (List.getElem_mem hi)
 have hxj := hlt _ (List.getElem_mem hj)
 have ci := hdk i _ (List.getElem?_eq_getElem hi)
 have cj := hdk j _ (List.getElem?_eq_getElem hj)
 obtain ⟨qi, ki, vi⟩ := hkk _ _ (List.getElem?_eq_getElem hxi)
 obtain ⟨qj, kj, vj⟩ := hkk _ _ (List.getElem?_eq_getElem hxj)
 have hin : i < n := by omega
 have hjn : j < n := by omega
 have him : dk[i] < m := by omega
 have hjm : dk[j] < m := by omega
 have hlk : ltK keys dk[i] dk[j] = Op.bytesLess keys[dk[i]].toList keys[dk[j]].toList := by
  unfold ltK
  rw [less_lt, vT hxi, vT hxj, sI, sI]
 go_enter Tryz.func167, Tryz.ntmps167
 go_wp2
 go_quiet (fail)
 go_wp2
 go_ret
 refine ⟨?_, nq, rfl⟩
 rw [hlk]
 rfl
theorem fun167 : Fun Tryz.prog 167 := ⟨_, Tryz.func167, by kernel_rfl, rfl⟩
theorem less_okE (ys : List Y) (A : Option Addr) (m ca nb b1 b9 pb n c9 : Nat) (t v : ByteArray) (k : Int) (hm : m = ys.length) : ∀ (W : World) (dk : List Nat), dk.length = n → (∀ x ∈ dk, x < ys.length) → (∀ x ∈ [HA.blk b9 [.slice (some ⟨pb, 0, none⟩) n c9] 139], x.holds W) → (∀ j x, dk[j]? = some x → W.cell? ⟨pb, j, none⟩ = some (encN x)) →
  (∃ ok, ∀ d ∈ [DA.dblk b1 [ptr nb] 102, .dblk nb (ycells k t v A m ca) 150, .kids (.slice A m ca) ys], d.p W ok) → ∀ (i j : Nat) (hi : i < dk.length) (hj : j < dk.length),
   Calls Tryz.prog 167 (#[.int .i64 i, .int .i64 j] ++ #[ptr b1, ptr b9]) W fun e w' => e = .returned (.bool (ltK (vals ys) dk[i] dk[j])) ∧ ∃ q, w' = W.drewN q := by
 intro W dk hn hlt hM hdk hD i j hi hj
 obtain ⟨ok, hD⟩ := hD
 have h1 : BlkP W ok b1 [ptr nb] 102 := hD _ List.mem_cons_self
 have h2 : BlkP W ok nb (ycells k t v A m ca) 150 := hD _ (List.mem_cons_of_mem _ List.mem_cons_self)
 obtain ⟨A', c', hv, _, _, hk⟩ : KidsV W ok (.slice A m ca) ys := hD _ (List.mem_cons_of_mem _ (List.mem_cons_of_mem _ List.mem_cons_self))
 injection hv with e1 e2 e3
 subst e1; subst e3
 have hkid : ∀ (x : Nat) (y : Y), ys[x]? = some y → ∃ a b, A = some a ∧ ok a.block ∧ W.cell? (a.add x) = some (ptr b) ∧ NodeP W ok y b := fun x y hx => by
  have := hk.get hx
  simpa using this
 obtain ⟨a, _, rfl, _⟩ := hkid _ _ (List.getElem?_eq_getElem (hlt _ (List.getElem_mem hi)))
 refine less167 W (vals ys) dk b1 nb b9 pb n c9 m a ca ?_ ?_ (by unfold vals; rw [List.length_map]; exact hm) ?_ hn hdk (fun j s hj => ?_) (fun x hx => by unfold vals; rw [List.length_map]; exact hlt x hx) i j hi hj
 ·rw [vN h1.2]; rfl
 ·rw [vN h2.2]; rfl
 ·have := hM _ List.mem_cons_self
  rw [vN this]; rfl
 ·unfold vals at hj
  rw [List.getElem?_map] at hj
  obtain ⟨y, hy, rfl⟩ := Option.map_eq_some_iff.1 hj
  obtain ⟨a', b', ha, _, hc, hnode⟩ := hkid _ _ hy
  cases ha
  refine ⟨b', hc, ?_⟩
  obtain ⟨q, tt, vv, zs⟩ := y
  obtain ⟨_, _, _, A2, c2, hb, _⟩ := hnode
  rw [vN hb]
  rfl
def C107 (fb : Addr) (u : V) : Prop := ∀ b, CtR Tryz.prog 107 #[ptr b] [.node b (outY u), ftD fb] (RVT (srtV u))

theorem c107s (fb : Addr) (b : Nat) (y : Y) (v : V) (hk : y.kind = 8) (H : CtR Tryz.prog 166 #[ptr b] [.node b y, ftD fb] (RVT v)) : CtR Tryz.prog 107 #[ptr b] [.node b y, ftD fb] (RVT v) := by
 refine Ct.of_run (args := [ptr b]) Tryz.func107 (by kernel_rfl) rfl Tryz.ntmps107 rfl (fun c => ?_)
 refine run_node 0 rfl (fun A0 cap0 ht0 hv0 hl0 hc0 => ?_)
 refine rO 3 rfl (yK rfl rfl rfl (fun b1 => ?_))
 refine ops_frBlk 0 rfl rfl (zA ?_)
 refine zS ze25 rfl (fun b2 => ?_)
 change RunOps _ _ _ _ _ _ _ _ (HA.blk _ [_, _, _, _, _] _ :: _) _
 refine oO 7 rfl (zG 0 sc102 rfl rfl rfl rfl ?_)
 refine zA (vG pn102 rfl rfl ?_)
 refine oO 7 rfl (zG 0 sc102 rfl rfl rfl rfl ?_)
 refine oO 3 rfl (zB xS rfl rfl ?_)
 refine zA (zG 1 sc146 rfl rfl rfl rfl ?_)
 refine oR 9 rfl (wC rfl (decide_eq_true (by exact_mod_cast hk)) ?_)
 refine rO 3 rfl (zG 0 sc102 rfl rfl rfl rfl ?_)
 refine zA (zO rfl rfl rfl H (sub2 3 4 rfl rfl) (fun u27 D27 hv27 => ?_))
 obtain ⟨_, rfl, A27, c27, B27, d27, rfl, rfl⟩ := hv27
 refine oO 5 rfl (zF 0 (M' := [HA.blk _ [_, _, _, _, _] _]) rfl rfl rfl rfl si25 rfl rfl rfl ?_)
 refine oK 3 [3, 2] rfl rfl ?_
 refine vW (M' := [HA.blk b2 [_, _, _, _, _] 25]) (by repeat (first | exact yM _ | refine zD 0 rfl ?_ | refine zD 1 rfl ?_ | refine zD 2 rfl ?_ | refine zD 3 rfl ?_ | refine zD 4 rfl ?_)) ?_
 exact wO 0 Tryz.results107 rfl rfl rfl ag25 ⟨rfl, _, rfl, _, _, _, _, rfl, rfl⟩ nS (sub1 0 rfl)
theorem c107l (fb : Addr) (b : Nat) (us : List V) (h60 : us.length ≤ 60) (H : ∀ x ∈ us, C107 fb x) : CtR Tryz.prog 107 #[ptr b] [.node b (RKids 2 (us.map outY)), ftD fb] (RVT (.mk 4 0 ⟨#[]⟩ [] (us.map srtV))) := by
 refine Ct.of_run (args := [ptr b]) Tryz.func107 (by kernel_rfl) rfl Tryz.ntmps107 rfl (fun c => ?_)
 refine xI 0 rfl (fun A0 cap0 ht0 hv0 hl0 hc0 => ?_)
 rw [List.length_map]
 rw [List.length_map] at hl0
 unfold maxLen at hc0
 refine rO 3 rfl (yK rfl rfl rfl (fun b1 => ?_))
 refine ops_frBlk 0 rfl rfl (zA ?_)
 refine zS ze25 rfl (fun b2 => ?_)
 change RunOps _ _ _ _ _ _ _ _ (HA.blk _ [_, _, _, _, _] _ :: _) _
 refine oO 7 rfl (zG 0 sc102 rfl rfl rfl rfl ?_)
 refine zA (vG pn102 rfl rfl ?_)
 refine oO 7 rfl (zG 0 sc102 rfl rfl rfl rfl ?_)
 refine oO 3 rfl (zB xS rfl rfl ?_)
 refine zA (zG 1 sc146 rfl rfl rfl rfl ?_)
 refine oK 17 [30, 23, 2, 1] rfl rfl (rO 4 rfl ?_)
 refine yQ rfl rfl (bu25_0 ..) (zA ?_)
 refine zS ze25 rfl (fun b4 => ?_)
 change RunOps _ _ _ _ _ _ _ _ (HA.blk _ [_, _, _, _, _] _ :: _) _
 refine zA (zF 0 (M' := [HA.blk _ [_, _, _, _, _] _, _]) rfl rfl rfl rfl si25 rfl rfl rfl ?_)
 refine oO 5 rfl (zG 0 sc102 rfl rfl rfl rfl ?_)
 refine oO 3 rfl (zB xT rfl rfl ?_)
 refine zA (zG 1 sc148 rfl rfl rfl rfl ?_)
 refine zA (zW sl148 rfl rfl ?_)
 refine oK 4 [38, 37, 36, 4, 2] rfl rfl (wN 25 5 ?_)
 refine sP ?_
 refine yX 1 (fun (⟨i, A, ca, xs⟩ : Nat × Option Addr × Nat × List Value) => i ≤ us.length) (fun (⟨i, A, ca, xs⟩ : Nat × Option Addr × Nat × List Value) => [(38, .int .i64 ((i : Nat) : Int))]) (fun (⟨i, A, ca, xs⟩ : Nat × Option Addr × Nat × List Value) => HA.row A i ca 25 5 xs :: HA.blk b4 [.int .i64 4, .int .i64 0, .string ⟨#[]⟩, .slice none 0 0, .slice A i ca] 25 :: HA.blk b2 [.int .i64 0, .int .i64 0, .string ⟨#[]⟩, .slice none 0 0, .slice none 0 0] 25 :: []) (fun (⟨i, A, ca, xs⟩ : Nat × Option Addr × Nat × List Value) => .its xs ((us.take i).map srtV) :: .dblk b1 [ptr b] 102 :: .dblk b (ycells 2 ⟨#[]⟩ ⟨#[]⟩ A0 us.length cap0) 150 :: .kids (.slice A0 us.length cap0) (us.map outY) :: .node b (RKids 2 (us.map outY)) :: ftD fb :: []) (fun (⟨i, A, ca, xs⟩ : Nat × Option Addr × Nat × List Value) => us.length - i) (0, none, 0, []) (by show 0 ≤ _; omega) (eC rfl (eN _)) rfl rfl ?_ (eC rfl (eC rfl (eC rfl (eC rfl (eN _)))))
 intro ⟨i, A, ca, xs⟩ hI K hK
 change Run _ _ _ _ _ [(38, _), (37, _), (36, _), (4, _), (2, _)] [_, _, _] [_, _, _, _, _, _]
 have hi : i ≤ us.length := hI
 refine rO 3 rfl (yO rfl rfl rfl ?_)
 refine oR 2 rfl (zK rfl (fun h39 => ?_) (fun h39 => ?_))
 ·refine rO 6 rfl (xW 3 sl148 rfl rfl rfl rfl h39 ?_)
  refine vL 3 i rfl (qQ h39) (fun bk => ?_)
  refine zA (yF sc102 rfl rfl (fun _ h => vM h (j := 0) rfl) ?_)
  refine oO 8 rfl (zO rfl rfl rfl (H _ (List.getElem_mem h39) bk) (sub2 1 7 rfl rfl) (fun u44 D44 hv44 => ?_))
  obtain ⟨_, rfl, A44, c44, B44, d44, rfl, rfl⟩ := hv44
  refine oO 7 rfl (zS ze25 rfl (fun b7 => ?_))
  change RunOps _ _ _ _ _ _ _ _ (HA.blk _ [_, _, _, _, _] _ :: _) _
  refine zA (zF 0 (M' := [HA.blk _ [_, _, _, _, _] _, _, _, _]) rfl rfl rfl rfl si25 rfl rfl rfl ?_)
  refine oK 3 [8, 7, 38, 37, 36, 4, 2] rfl rfl (rO 12 rfl ?_)
  refine zB yZ rfl rfl (zA ?_)
  refine zI 2 sc23 rfl rfl rfl rfl (zA ?_)
  refine zM 0 rfl ag25 rfl rfl (zA ?_)
  refine zL sl23 rfl rfl rfl rfl rfl (fun b53 => ?_)
  refine zA ?_
  refine op_apd 2 0 sl23 (fun A54 c54 => ?_)
  refine zA (zB yZ rfl rfl ?_)
  refine zA (zF 3 (M' := [_, _, _, HA.blk _ [_, _, _, _, _] _, _]) rfl rfl rfl rfl si23 rfl rfl rfl ?_)
  refine oK 1 [38, 37, 36, 4, 2] rfl rfl (rO 3 rfl ?_)
  refine yC rfl rfl (by omega) (oR 3 rfl ?_)
  refine wL 3 0 rfl rfl rfl ?_
  rw [uK (f := srtV) h39]
  exact kQ (hK (i + 1, _, _, _) (by show i + 1 ≤ _; omega) (by show us.length - (i + 1) < us.length - i; omega)) (eC rfl (eC rfl (eC rfl (eC rfl (eC rfl (eN _)))))) (hD := (subc 0 rfl sQ))
 obtain rfl : i = us.length := by omega
 rw [List.take_length]
 refine rO 4 rfl (zM 1 rfl ag25 rfl rfl ?_)
 refine zA (zF 2 (M' := [_, _, HA.blk _ [_, _, _, _, _] _]) rfl rfl rfl rfl si25 rfl rfl rfl ?_)
 refine oR 3 rfl (tJ ?_)
 refine tI 0 1 (us.map srtV) rfl rfl (by simp [foots, HA.foot]) (by rw [List.length_map]) (wR 1 0 rfl rfl (s := ⟨#[]⟩) (q := 4) (m := 0) (by decide) ?_)
 refine vW (M' := [HA.blk b2 [_, _, _, _, _] 25]) (by repeat (first | exact yM _ | refine zD 0 rfl ?_ | refine zD 1 rfl ?_ | refine zD 2 rfl ?_ | refine zD 3 rfl ?_ | refine zD 4 rfl ?_)) ?_
 exact wO 0 Tryz.results107 rfl rfl rfl ag25 ⟨rfl, _, rfl, none, 0, _, _, by simp only [V.kind, V.num, V.text, V.keys, V.items, List.length_map, List.length_nil]; rfl, rfl⟩ nS (sub1 0 rfl)
theorem sK {M M2 : List HA} (h : Pick M2 M := by repeat (first | exact xX _ | exact yM _ | refine zD 0 rfl ?_ | refine zD 1 rfl ?_ | refine zD 2 rfl ?_ | refine zD 3 rfl ?_ | refine zD 4 rfl ?_ | refine zD 5 rfl ?_ | refine zD 6 rfl ?_ | refine zD 7 rfl ?_ | refine zD 8 rfl ?_)) : Pick M2 M := h
set_option maxHeartbeats 4000000 in
theorem c107m (fb : Addr) (b : Nat) (ks : List ByteArray) (us : List V) (hl : ks.length = us.length) (h60 : us.length ≤ 60) (hnd : ks.Nodup) (hszs : ∀ s ∈ ks, s.size ≤ maxLen) (H : ∀ x ∈ us, C107 fb x) (ys : List Y) (hys : ys = (ks.zip (us.map outY)).flatMap prY) : CtR Tryz.prog 107 #[ptr b] [.node b (RKids 4 ys), ftD fb] (RVT (srtV (.mk 5 0 ⟨#[]⟩ ks us))) := by
 refine Ct.of_run (args := [ptr b]) Tryz.func107 (by kernel_rfl) rfl Tryz.ntmps107 rfl (fun c => ?_)
 have hfl : ys.length = 2 * us.length := by rw [hys, flat_len, c107len hl]
 have hk0 : ∀ x, x < us.length → ys[2 * x]? = some (scal tStr (ks.getD x ⟨#[]⟩)) := fun x hx => by rw [hys]; exact c107key hl hx
 have hk1 : ∀ x (h : x < us.length), ys[2 * x + 1]? = some (outY us[x]) := fun x hx => by rw [hys]; exact c107val hl hx
 have h2t : ((2 * us.length : Nat) : Int).tmod 2 = 0 := by rw [show ((2 * us.length : Nat) : Int) = 2 * (us.length : Int) by omega]; exact Int.mul_tmod_right _ _
 refine xI 0 rfl (fun A0 cap0 ht0 hv0 hl0 hc0 => ?_)
 rw [hfl]
 rw [hfl] at hl0
 unfold maxLen at hc0
 refine rO 3 rfl (yK rfl rfl rfl (fun b1 => ?_))
 refine ops_frBlk 0 rfl rfl (zA ?_)
 refine zS ze25 rfl (fun b2 => ?_)
 change RunOps _ _ _ _ _ _ _ _ (HA.blk _ [_, _, _, _, _] _ :: _) _
 refine oO 7 rfl (zG 0 sc102 rfl rfl rfl rfl ?_)
 refine zA (vG pn102 rfl rfl ?_)
 refine oO 7 rfl (zG 0 sc102 rfl rfl rfl rfl ?_)
 refine oO 3 rfl (zB xS rfl rfl ?_)
 refine zA (zG 1 sc146 rfl rfl rfl rfl ?_)
 refine oK 17 [30, 23, 2, 1] rfl rfl (rO 13 rfl ?_)
 refine zG 0 sc102 rfl rfl rfl rfl (oO 3 rfl ?_)
 refine zB xT rfl rfl (zA ?_)
 refine zG 1 sc148 rfl rfl rfl rfl (zA ?_)
 refine zW sl148 rfl rfl (zA ?_)
 refine op_rem rfl rfl rfl (by decide) ?_
 rw [h2t]
 refine zA (uH rfl rfl rfl ?_)
 refine oK 1 [66, 2, 1] rfl rfl (rO 5 rfl ?_)
 refine vF sl139 rfl (fun b68 => ?_)
 refine zA (zS ze139 rfl (fun b9 => ?_))
 change RunOps _ _ _ _ _ _ _ _ (HA.blk _ [_] _ :: _) _
 refine zA (zF 0 (M' := [HA.blk _ [_] _, _, _]) rfl rfl rfl rfl si139 rfl rfl rfl ?_)
 refine oK 8 [10, 9, 2, 1] rfl rfl ?_
 refine yX 1 (fun (⟨i, pb, c9⟩ : Nat × Nat × Nat) => i ≤ us.length) (fun (⟨i, pb, c9⟩ : Nat × Nat × Nat) => [(10, .int .i64 ((2 * i : Nat) : Int))]) (fun (⟨i, pb, c9⟩ : Nat × Nat × Nat) => HA.blk b9 [.slice (some ⟨pb, 0, none⟩) i c9] 139 :: HA.row (some ⟨pb, 0, none⟩) i c9 3 1 ((List.range i).map encE) :: HA.blk b2 [.int .i64 0, .int .i64 0, .string ⟨#[]⟩, .slice none 0 0, .slice none 0 0] 25 :: []) (fun (⟨i, pb, c9⟩ : Nat × Nat × Nat) => .dblk b1 [ptr b] 102 :: .dblk b (ycells 4 ⟨#[]⟩ ⟨#[]⟩ A0 (2 * us.length) cap0) 150 :: .kids (.slice A0 (2 * us.length) cap0) ys :: .node b (RKids 4 ys) :: ftD fb :: []) (fun (⟨i, pb, c9⟩ : Nat × Nat × Nat) => us.length - i) (0, _, _) (by show 0 ≤ _; omega) (eC rfl (eN _)) rfl rfl ?_ (eC rfl (eC rfl (eC rfl (eN _))))
 intro ⟨i, pb, c9⟩ hI K hK
 change Run _ _ _ _ _ [(10, _), (9, _), (2, _), (1, _)] [_, _, _] [_, _, _, _, _]
 have hi : i ≤ us.length := hI
 refine rO 6 rfl (zG 0 sc102 rfl rfl rfl rfl ?_)
 refine oO 3 rfl (zB xT rfl rfl ?_)
 refine zA (zG 1 sc148 rfl rfl rfl rfl ?_)
 refine zA (zW sl148 rfl rfl ?_)
 refine zA (yO rfl rfl rfl ?_)
 refine yB (zK rfl (fun h75 => ?_) (fun h75 => ?_))
 ·refine rO 5 rfl (zI 0 sc139 rfl rfl rfl rfl ?_)
  refine oO 3 rfl (zL sl139 rfl rfl rfl rfl rfl (fun b80 => ?_))
  refine zA ?_
  refine op_apd 2 0 sl139 (fun A81 c81 => ?_)
  refine zA (zF 1 (M' := [_, HA.blk _ [_] _, _, _]) rfl rfl rfl rfl si139 rfl rfl rfl ?_)
  refine oK 1 [10, 9, 2, 1] rfl rfl (rO 5 rfl ?_)
  refine xB (s := ((2 * (i + 1) : Nat) : Int)) rfl rfl rfl (by omega) (by omega) (by omega) (oR 3 rfl ?_)
  refine run_rowA 2 rfl (by omega) (fun pb1 hpb => ?_)
  subst hpb
  rw [rangeE_snoc]
  exact kQ (hK (i + 1, pb1, _) (by show i + 1 ≤ _; omega) (by show us.length - (i + 1) < us.length - i; omega)) (eC rfl (eC rfl (eC rfl (eC rfl (eN _)))))
 obtain rfl : i = us.length := by omega
 rw [rangeE]
 refine rO 4 rfl (zI 0 sc139 rfl rfl rfl rfl ?_)
 refine zA (op_makeIface (by kernel_rfl) rfl rfl ?_)
 refine zA (rA rfl rfl rfl ?_)
 refine zA ?_
 refine rY 1 0 rfl rfl rfl (c130 167 #[ptr b1, ptr b9] pb us.length c9 ys.length ((List.range us.length).map (2 * ·)) (fun x hx => by obtain ⟨z, hz, rfl⟩ := List.mem_map.1 hx; have := List.mem_range.1 hz; omega) (ltK (vals ys)) (ltK_swo _) [HA.blk b9 [.slice (some ⟨pb, 0, none⟩) us.length c9] 139] [.dblk b1 [ptr b] 102, .dblk b (ycells 4 ⟨#[]⟩ ⟨#[]⟩ A0 (2 * us.length) cap0) 150, .kids (.slice A0 (2 * us.length) cap0) ys] (by omega) (fun args w => qN fun167 args w) (fun W dk h1 h2 => less_okE ys A0 (2 * us.length) cap0 b b1 b9 pb us.length c9 _ _ _ hfl.symm W dk h1 h2)) rfl rfl (subc 0 rfl (sub2 1 2 rfl rfl)) (fun u85 M85 D85 hv85 => ?_)
 obtain ⟨rfl, ⟨ds, hdp, hds, rfl⟩, rfl⟩ := hv85
 rw [hys] at hds
 obtain ⟨es, hep, hes, hee⟩ := halves hl hdp hds
 rw [hee]
 have hel : es.length = us.length := by rw [hep.length_eq, List.length_range]
 have hep2 : es.Perm (List.range ks.length) := by rw [hl]; exact hep
 refine oK 1 [9, 2, 1] rfl rfl (rO 3 rfl ?_)
 refine yQ rfl rfl (bu25_0 ..) (zA ?_)
 refine zS ze25 rfl (fun b11 => ?_)
 change RunOps _ _ _ _ _ _ _ _ (HA.blk _ [_, _, _, _, _] _ :: _) _
 refine zA (zF 0 (M' := [HA.blk _ [_, _, _, _, _] _, _, _, _]) rfl rfl rfl rfl si25 rfl rfl rfl ?_)
 refine oO 5 rfl (zI 2 sc139 rfl rfl rfl rfl ?_)
 refine zA (zW sl139 rfl rfl ?_)
 refine oK 4 [89, 88, 87, 11, 2, 1] rfl rfl (wN 25 5 ?_)
 refine wN 9 1 (sP ?_)
 refine yX 1 (fun (⟨i3, KA, kc, KI, ic, xv⟩ : Nat × Option Addr × Nat × Option Addr × Nat × List Value) => i3 ≤ us.length) (fun (⟨i3, KA, kc, KI, ic, xv⟩ : Nat × Option Addr × Nat × Option Addr × Nat × List Value) => [(89, .int .i64 ((i3 : Nat) : Int))]) (fun (⟨i3, KA, kc, KI, ic, xv⟩ : Nat × Option Addr × Nat × Option Addr × Nat × List Value) => HA.row KA i3 kc 9 1 ((es.take i3).map (fun x => Value.string (ks.getD x ⟨#[]⟩))) :: HA.row KI i3 ic 25 5 xv :: HA.blk b11 [.int .i64 5, .int .i64 0, .string ⟨#[]⟩, .slice KA i3 kc, .slice KI i3 ic] 25 :: HA.row (some ⟨pb, 0, none⟩) us.length c9 3 1 (es.map encE) :: HA.blk b9 [.slice (some ⟨pb, 0, none⟩) us.length c9] 139 :: HA.blk b2 [.int .i64 0, .int .i64 0, .string ⟨#[]⟩, .slice none 0 0, .slice none 0 0] 25 :: []) (fun (⟨i3, KA, kc, KI, ic, xv⟩ : Nat × Option Addr × Nat × Option Addr × Nat × List Value) => .its xv ((es.take i3).map (fun x => (us.map srtV).getD x zV0)) :: .dblk b1 [ptr b] 102 :: .dblk b (ycells 4 ⟨#[]⟩ ⟨#[]⟩ A0 (2 * us.length) cap0) 150 :: .kids (.slice A0 (2 * us.length) cap0) ys :: .node b (RKids 4 ys) :: ftD fb :: []) (fun (⟨i3, KA, kc, KI, ic, xv⟩ : Nat × Option Addr × Nat × Option Addr × Nat × List Value) => us.length - i3) (0, none, 0, none, 0, []) (by show 0 ≤ _; omega) (eC rfl (eN _)) rfl rfl ?_ (eC rfl (eC rfl (eC rfl (eC rfl (eC rfl (eN _))))))
 intro ⟨i3, KA, kc, KI, ic, xv⟩ hI K hK1
 change Run _ _ _ _ _ [(89, _), (88, _), (87, _), (11, _), (2, _), (1, _)] [_, _, _, _, _, _] [_, _, _, _, _, _]
 have hi3 : i3 ≤ us.length := hI
 refine rO 3 rfl (yO rfl rfl rfl ?_)
 refine oR 2 rfl (zK rfl (fun h90 => ?_) (fun h90 => ?_))
 ·have hld : i3 < es.length := by omega
  have hde : es[i3] < us.length := places_lt hep _ (List.getElem_mem hld)
  have hdk : es[i3] < ks.length := by omega
  have hdv : es[i3] < (us.map srtV).length := by rw [List.length_map]; exact hde
  refine rO 8 rfl (xV sl139 rfl rfl rfl h90 ?_)
  refine zA ?_
  refine yF sc3 rfl rfl (fun _ h => row_at h (i := 3) rfl (by rw [List.getElem?_map, List.getElem?_eq_getElem hld]; rfl)) ?_
  refine oO 8 rfl (zG 1 sc102 rfl rfl rfl rfl ?_)
  refine oO 3 rfl (zB xT rfl rfl ?_)
  refine zA (zG 2 sc148 rfl rfl rfl rfl ?_)
  refine oO 3 rfl (xW (i := 2 * es[i3]) 3 sl148 rfl rfl rfl rfl (by omega) ?_)
  refine vL 3 (2 * es[i3]) rfl (hk0 _ hde) (fun bk => ?_)
  refine uW 1 rfl (fun A1 cap1 ht1 hv1 hl1 hc1 => ?_)
  refine zA (yF sc102 rfl rfl (fun _ h => vM h (j := 2) rfl) ?_)
  refine oO 3 rfl (zB wB rfl rfl ?_)
  refine zA (zG 0 sc9 rfl rfl rfl rfl ?_)
  refine oK 3 [14, 13, 12, 89, 88, 87, 11, 2, 1] rfl rfl (rO 3 rfl ?_)
  refine zG 5 sc102 rfl rfl rfl rfl (oO 3 rfl ?_)
  refine zB xT rfl rfl (zA ?_)
  refine zG 6 sc148 rfl rfl rfl rfl (oO 3 rfl ?_)
  refine yC rfl rfl (by omega) (zA ?_)
  refine xW (i := 2 * es[i3] + 1) 7 sl148 rfl rfl rfl rfl (by omega) (vL 7 (2 * es[i3] + 1) rfl (hk1 _ hde) (fun bv => ?_))
  refine zA (yF sc102 rfl rfl (fun _ h => vM h (j := 0) rfl) ?_)
  refine zA (zO rfl rfl rfl (H _ (List.getElem_mem hde) bv) (sub2 1 11 rfl rfl) (fun u113 D113 hv113 => ?_))
  obtain ⟨_, rfl, A113, c113, B113, d113, rfl, rfl⟩ := hv113
  refine oO 7 rfl (zS ze25 rfl (fun b15 => ?_))
  change RunOps _ _ _ _ _ _ _ _ (HA.blk _ [_, _, _, _, _] _ :: _) _
  refine zA (zF 0 (M' := [HA.blk _ [_, _, _, _, _] _, _, _, _, _, _, _]) rfl rfl rfl rfl si25 rfl rfl rfl ?_)
  refine oK 3 [16, 15, 14, 12, 89, 88, 87, 11, 2, 1] rfl rfl (rS 9 rfl ?_)
  refine wH (s := 118) rfl (rfl) (oO 3 rfl ?_)
  refine xU rfl rfl rfl (oS 2 rfl ?_)
  refine zX (s := 121) rfl (fun h121 => ?_) (fun h121 => ?_)
  ·refine zH rfl rfl (zB xP rfl rfl ?_)
   refine zH rfl rfl (zI 3 sc22 rfl rfl rfl rfl ?_)
   refine oO 3 rfl (xG (s := ((i3 - 1 : Nat) : Int)) rfl rfl rfl (by omega) (by omega) (by omega) ?_)
   refine zH rfl rfl (op_idxRow 1 sl22 rfl rfl rfl rfl (by omega) ?_)
   refine zH rfl rfl (yF (v := .string (ks.getD (es[i3 - 1]'(by omega)) ⟨#[]⟩)) sc9 rfl rfl (fun _ h => row_atA h (i := 1) rfl (take_get (by omega) (by omega))) ?_)
   refine oK 9 [131, 15, 14, 89, 88, 87, 11, 2, 1] rfl rfl (yR rfl (decide_eq_false (fun he => places_ne hnd hep2 (i := i3 - 1) (j := i3) (by omega) (by omega) he)) ?_)
   refine rP (yU yJ ?_)
   refine zU (tP 0 rfl wanted0 (zZ xP rfl) ?_)
   refine tP 2 rfl wanted0 (zY rfl) (tP 5 rfl wanted0 (zZ yZ rfl) ?_)
   refine any_grpG (zD 0 rfl (zD 2 rfl (yM _))) (tF (zD 0 rfl (zD 2 rfl (yM _))) 1 (xO _ _ _ _) rfl wanted0 (by decide +kernel) (by decide +kernel) (by decide +kernel) rfl (yY 1 sc22 rfl rfl rfl) ?_)
   refine tF (zD 0 rfl (zD 2 rfl (yM _))) 6 (xO _ _ _ _) rfl wanted0 (by decide +kernel) (by decide +kernel) (by decide +kernel) rfl (yY 1 sc23 rfl rfl rfl) (tF (zD 0 rfl (zD 2 rfl (yM _))) 7 (xO _ _ _ _) rfl wanted0 (by decide +kernel) (by decide +kernel) (by decide +kernel) rfl (pI 0 rfl ag25 rfl) ?_)
   refine uM (rs := [3, 8]) (by decide +kernel) (by simp) ?_
   intro j hj
   simp only [List.mem_cons, List.not_mem_nil, or_false] at hj
   rcases hj with rfl | rfl
   ·refine zQ (I2 := [[7, 6, 1], [5, 0], []]) rfl wanted0 (by decide +kernel) (fun Kd hKd => ?_)
    refine zL sl22 rfl rfl rfl rfl rfl (fun b136 => ?_)
    refine hKd _ _ _ (vY sK sQ (hC (zE (zR)))) ?_
    refine uM (rs := [4, 8]) (by decide +kernel) (by simp) ?_
    intro j hj
    simp only [List.mem_cons, List.not_mem_nil, or_false] at hj
    rcases hj with rfl | rfl
    ·refine zQ (I2 := [[7, 6], [5], []]) rfl wanted0 (by decide +kernel) (fun Kd hKd => ?_)
     refine op_apd 2 0 sl22 (fun A137 c137 => ?_)
     refine hKd _ _ _ (vY sK sQ (hC (zE (zR)))) ?_
     refine zU (tP 10 rfl wanted0 (zZ xP rfl) ?_)
     refine zP 8 (by decide +kernel) ?_
     refine zQ (I2 := [[10], [6], [5], []]) rfl wanted0 (by decide +kernel) (fun Kd hKd => ?_)
     refine zL sl23 rfl rfl rfl rfl rfl (fun b141 => ?_)
     refine hKd _ _ _ (hC (vY sK sQ (hC (zE (zR))))) ?_
     refine zP 9 (by decide +kernel) ?_
     refine zQ (I2 := [[10], [], [], []]) rfl wanted0 (by decide +kernel) (fun Kd hKd => ?_)
     refine op_apd 4 0 sl23 (fun A142 c142 => ?_)
     refine hKd _ _ _ (hC (zE (zE (zE (zR))))) (zP 11 (by decide +kernel) ?_)
     refine zQ (I2 := [[], [], [], []]) rfl wanted0 (by decide +kernel) (fun Kd hKd => ?_)
     refine zF 5 (M' := [_, _, _, _, _, HA.blk _ [_, _, _, _, _] _, _, _, _]) rfl rfl rfl rfl si22 rfl rfl rfl (hKd _ _ _ (zE (zE (zE (zE (zR))))) ?_)
     refine tP 12 rfl wanted0 (zZ yZ rfl) (zP 13 (by decide +kernel) ?_)
     refine zQ (I2 := [[], [], [], []]) rfl wanted0 (by decide +kernel) (fun Kd hKd => ?_)
     refine zF 5 (M' := [_, _, _, _, _, HA.blk _ [_, _, _, _, _] _, _, _, _]) rfl rfl rfl rfl si23 rfl rfl rfl (hKd _ _ _ (zE (zE (zE (zE (zR))))) ?_)
     refine yH (by decide +kernel) (rK 0 [89, 88, 87, 11, 2, 1] rfl rfl ?_)
     refine rO 3 rfl (yC rfl rfl (by omega) ?_)
     refine oR 3 rfl (wL 7 0 rfl rfl rfl ?_)
     rw [wU (f := fun x => (us.map srtV).getD x zV0) hld (by rw [vT hdv, List.getElem_map]), wU (f := fun x => Value.string (ks.getD x ⟨#[]⟩)) hld rfl]
     exact kQ (hK1 (i3 + 1, _, _, _, _, _) (by show i3 + 1 ≤ _; omega) (by show us.length - (i3 + 1) < us.length - i3; omega)) (eC rfl (eC rfl (eC rfl (eC rfl (eC rfl (eC rfl (eN _))))))) (hD := (subc 0 rfl sQ))
    refine zQ (I2 := [[6, 1], [5, 0], []]) rfl wanted0 (by decide +kernel) (fun Kd hKd => ?_)
    refine zL sl23 rfl rfl rfl rfl rfl (fun b141 => ?_)
    refine hKd _ _ _ (vY sK sQ (hC (zE (zR)))) ?_
    refine zP 4 (by decide +kernel) ?_
    refine zQ (I2 := [[6], [5], []]) rfl wanted0 (by decide +kernel) (fun Kd hKd => ?_)
    refine op_apd 3 1 sl22 (fun A137 c137 => ?_)
    refine hKd _ _ _ (vY sK sQ (hC (zE (zR)))) ?_
    refine zU (tP 10 rfl wanted0 (zZ xP rfl) ?_)
    refine zP 9 (by decide +kernel) ?_
    refine zQ (I2 := [[10], [], [], []]) rfl wanted0 (by decide +kernel) (fun Kd hKd => ?_)
    refine op_apd 4 0 sl23 (fun A142 c142 => ?_)
    refine hKd _ _ _ (hC (zE (zE (zE (zR))))) (zP 11 (by decide +kernel) ?_)
    refine zQ (I2 := [[], [], [], []]) rfl wanted0 (by decide +kernel) (fun Kd hKd => ?_)
    refine zF 5 (M' := [_, _, _, _, _, HA.blk _ [_, _, _, _, _] _, _, _, _]) rfl rfl rfl rfl si22 rfl rfl rfl (hKd _ _ _ (zE (zE (zE (zE (zR))))) ?_)
    refine tP 12 rfl wanted0 (zZ yZ rfl) (zP 13 (by decide +kernel) ?_)
    refine zQ (I2 := [[], [], [], []]) rfl wanted0 (by decide +kernel) (fun Kd hKd => ?_)
    refine zF 5 (M' := [_, _, _, _, _, HA.blk _ [_, _, _, _, _] _, _, _, _]) rfl rfl rfl rfl si23 rfl rfl rfl (hKd _ _ _ (zE (zE (zE (zE (zR))))) ?_)
    refine yH (by decide +kernel) (rK 0 [89, 88, 87, 11, 2, 1] rfl rfl ?_)
    refine rO 3 rfl (yC rfl rfl (by omega) ?_)
    refine oR 3 rfl (wL 7 0 rfl rfl rfl ?_)
    rw [wU (f := fun x => (us.map srtV).getD x zV0) hld (by rw [vT hdv, List.getElem_map]), wU (f := fun x => Value.string (ks.getD x ⟨#[]⟩)) hld rfl]
    exact kQ (hK1 (i3 + 1, _, _, _, _, _) (by show i3 + 1 ≤ _; omega) (by show us.length - (i3 + 1) < us.length - i3; omega)) (eC rfl (eC rfl (eC rfl (eC rfl (eC rfl (eC rfl (eN _))))))) (hD := (subc 0 rfl sQ))
   refine zQ (I2 := [[6, 1], [5, 2, 0], []]) rfl wanted0 (by decide +kernel) (fun Kd hKd => ?_)
   refine zL sl23 rfl rfl rfl rfl rfl (fun b141 => ?_)
   refine hKd _ _ _ (vY sK sQ (hC (zE (zR)))) ?_
   refine zP 3 (by decide +kernel) ?_
   refine zQ (I2 := [[6, 1], [5, 0], []]) rfl wanted0 (by decide +kernel) (fun Kd hKd => ?_)
   refine zL sl22 rfl rfl rfl rfl rfl (fun b136 => ?_)
   refine hKd _ _ _ (vY sK sQ (hC (zE (zR)))) ?_
   refine zP 4 (by decide +kernel) ?_
   refine zQ (I2 := [[6], [5], []]) rfl wanted0 (by decide +kernel) (fun Kd hKd => ?_)
   refine op_apd 3 0 sl22 (fun A137 c137 => ?_)
   refine hKd _ _ _ (vY sK sQ (hC (zE (zR)))) ?_
   refine zU (tP 10 rfl wanted0 (zZ xP rfl) ?_)
   refine zP 9 (by decide +kernel) ?_
   refine zQ (I2 := [[10], [], [], []]) rfl wanted0 (by decide +kernel) (fun Kd hKd => ?_)
   refine op_apd 4 1 sl23 (fun A142 c142 => ?_)
   refine hKd _ _ _ (hC (zE (zE (zE (zR))))) (zP 11 (by decide +kernel) ?_)
   refine zQ (I2 := [[], [], [], []]) rfl wanted0 (by decide +kernel) (fun Kd hKd => ?_)
   refine zF 5 (M' := [_, _, _, _, _, HA.blk _ [_, _, _, _, _] _, _, _, _]) rfl rfl rfl rfl si22 rfl rfl rfl (hKd _ _ _ (zE (zE (zE (zE (zR))))) ?_)
   refine tP 12 rfl wanted0 (zZ yZ rfl) (zP 13 (by decide +kernel) ?_)
   refine zQ (I2 := [[], [], [], []]) rfl wanted0 (by decide +kernel) (fun Kd hKd => ?_)
   refine zF 5 (M' := [_, _, _, _, _, HA.blk _ [_, _, _, _, _] _, _, _, _]) rfl rfl rfl rfl si23 rfl rfl rfl (hKd _ _ _ (zE (zE (zE (zE (zR))))) ?_)
   refine yH (by decide +kernel) (rK 0 [89, 88, 87, 11, 2, 1] rfl rfl ?_)
   refine rO 3 rfl (yC rfl rfl (by omega) ?_)
   refine oR 3 rfl (wL 7 0 rfl rfl rfl ?_)
   rw [wU (f := fun x => (us.map srtV).getD x zV0) hld (by rw [vT hdv, List.getElem_map]), wU (f := fun x => Value.string (ks.getD x ⟨#[]⟩)) hld rfl]
   exact kQ (hK1 (i3 + 1, _, _, _, _, _) (by show i3 + 1 ≤ _; omega) (by show us.length - (i3 + 1) < us.length - i3; omega)) (eC rfl (eC rfl (eC rfl (eC rfl (eC rfl (eC rfl (eN _))))))) (hD := (subc 0 rfl sQ))
  refine oK 13 [131, 15, 14, 89, 88, 87, 11, 2, 1] rfl rfl (rR 2 rfl ?_)
  refine yU yJ (zU ?_)
  refine tP 0 rfl wanted0 (zZ xP rfl) (tP 2 rfl wanted0 (zY rfl) ?_)
  refine tP 5 rfl wanted0 (zZ yZ rfl) (any_grpG (zD 0 rfl (zD 2 rfl (yM _))) ?_)
  refine tF (zD 0 rfl (zD 2 rfl (yM _))) 1 (xO _ _ _ _) rfl wanted0 (by decide +kernel) (by decide +kernel) (by decide +kernel) rfl (yY 1 sc22 rfl rfl rfl) (tF (zD 0 rfl (zD 2 rfl (yM _))) 6 (xO _ _ _ _) rfl wanted0 (by decide +kernel) (by decide +kernel) (by decide +kernel) rfl (yY 1 sc23 rfl rfl rfl) ?_)
  refine tF (zD 0 rfl (zD 2 rfl (yM _))) 7 (xO _ _ _ _) rfl wanted0 (by decide +kernel) (by decide +kernel) (by decide +kernel) rfl (pI 0 rfl ag25 rfl) (uM (rs := [3, 8]) (by decide +kernel) (by simp) ?_)
  intro j hj
  simp only [List.mem_cons, List.not_mem_nil, or_false] at hj
  rcases hj with rfl | rfl
  ·refine zQ (I2 := [[7, 6, 1], [5, 0], []]) rfl wanted0 (by decide +kernel) (fun Kd hKd => ?_)
   refine zL sl22 rfl rfl rfl rfl rfl (fun b136 => ?_)
   refine hKd _ _ _ (vY sK sQ (hC (zE (zR)))) ?_
   refine uM (rs := [4, 8]) (by decide +kernel) (by simp) ?_
   intro j hj
   simp only [List.mem_cons, List.not_mem_nil, or_false] at hj
   rcases hj with rfl | rfl
   ·refine zQ (I2 := [[7, 6], [5], []]) rfl wanted0 (by decide +kernel) (fun Kd hKd => ?_)
    refine op_apd 2 0 sl22 (fun A137 c137 => ?_)
    refine hKd _ _ _ (vY sK sQ (hC (zE (zR)))) ?_
    refine zU (tP 10 rfl wanted0 (zZ xP rfl) ?_)
    refine zP 8 (by decide +kernel) ?_
    refine zQ (I2 := [[10], [6], [5], []]) rfl wanted0 (by decide +kernel) (fun Kd hKd => ?_)
    refine zL sl23 rfl rfl rfl rfl rfl (fun b141 => ?_)
    refine hKd _ _ _ (hC (vY sK sQ (hC (zE (zR))))) ?_
    refine zP 9 (by decide +kernel) ?_
    refine zQ (I2 := [[10], [], [], []]) rfl wanted0 (by decide +kernel) (fun Kd hKd => ?_)
    refine op_apd 4 0 sl23 (fun A142 c142 => ?_)
    refine hKd _ _ _ (hC (zE (zE (zE (zR))))) (zP 11 (by decide +kernel) ?_)
    refine zQ (I2 := [[], [], [], []]) rfl wanted0 (by decide +kernel) (fun Kd hKd => ?_)
    refine zF 5 (M' := [_, _, _, _, _, HA.blk _ [_, _, _, _, _] _, _, _, _]) rfl rfl rfl rfl si22 rfl rfl rfl (hKd _ _ _ (zE (zE (zE (zE (zR))))) ?_)
    refine tP 12 rfl wanted0 (zZ yZ rfl) (zP 13 (by decide +kernel) ?_)
    refine zQ (I2 := [[], [], [], []]) rfl wanted0 (by decide +kernel) (fun Kd hKd => ?_)
    refine zF 5 (M' := [_, _, _, _, _, HA.blk _ [_, _, _, _, _] _, _, _, _]) rfl rfl rfl rfl si23 rfl rfl rfl (hKd _ _ _ (zE (zE (zE (zE (zR))))) ?_)
    refine yH (by decide +kernel) (rK 0 [89, 88, 87, 11, 2, 1] rfl rfl ?_)
    refine rO 3 rfl (yC rfl rfl (by omega) ?_)
    refine oR 3 rfl (wL 7 0 rfl rfl rfl ?_)
    rw [wU (f := fun x => (us.map srtV).getD x zV0) hld (by rw [vT hdv, List.getElem_map]), wU (f := fun x => Value.string (ks.getD x ⟨#[]⟩)) hld rfl]
    exact kQ (hK1 (i3 + 1, _, _, _, _, _) (by show i3 + 1 ≤ _; omega) (by show us.length - (i3 + 1) < us.length - i3; omega)) (eC rfl (eC rfl (eC rfl (eC rfl (eC rfl (eC rfl (eN _))))))) (hD := (subc 0 rfl sQ))
   refine zQ (I2 := [[6, 1], [5, 0], []]) rfl wanted0 (by decide +kernel) (fun Kd hKd => ?_)
   refine zL sl23 rfl rfl rfl rfl rfl (fun b141 => ?_)
   refine hKd _ _ _ (vY sK sQ (hC (zE (zR)))) ?_
   refine zP 4 (by decide +kernel) ?_
   refine zQ (I2 := [[6], [5], []]) rfl wanted0 (by decide +kernel) (fun Kd hKd => ?_)
   refine op_apd 3 1 sl22 (fun A137 c137 => ?_)
   refine hKd _ _ _ (vY sK sQ (hC (zE (zR)))) ?_
   refine zU (tP 10 rfl wanted0 (zZ xP rfl) ?_)
   refine zP 9 (by decide +kernel) ?_
   refine zQ (I2 := [[10], [], [], []]) rfl wanted0 (by decide +kernel) (fun Kd hKd => ?_)
   refine op_apd 4 0 sl23 (fun A142 c142 => ?_)
   refine hKd _ _ _ (hC (zE (zE (zE (zR))))) (zP 11 (by decide +kernel) ?_)
   refine zQ (I2 := [[], [], [], []]) rfl wanted0 (by decide +kernel) (fun Kd hKd => ?_)
   refine zF 5 (M' := [_, _, _, _, _, HA.blk _ [_, _, _, _, _] _, _, _, _]) rfl rfl rfl rfl si22 rfl rfl rfl (hKd _ _ _ (zE (zE (zE (zE (zR))))) ?_)
   refine tP 12 rfl wanted0 (zZ yZ rfl) (zP 13 (by decide +kernel) ?_)
   refine zQ (I2 := [[], [], [], []]) rfl wanted0 (by decide +kernel) (fun Kd hKd => ?_)
   refine zF 5 (M' := [_, _, _, _, _, HA.blk _ [_, _, _, _, _] _, _, _, _]) rfl rfl rfl rfl si23 rfl rfl rfl (hKd _ _ _ (zE (zE (zE (zE (zR))))) ?_)
   refine yH (by decide +kernel) (rK 0 [89, 88, 87, 11, 2, 1] rfl rfl ?_)
   refine rO 3 rfl (yC rfl rfl (by omega) ?_)
   refine oR 3 rfl (wL 7 0 rfl rfl rfl ?_)
   rw [wU (f := fun x => (us.map srtV).getD x zV0) hld (by rw [vT hdv, List.getElem_map]), wU (f := fun x => Value.string (ks.getD x ⟨#[]⟩)) hld rfl]
   exact kQ (hK1 (i3 + 1, _, _, _, _, _) (by show i3 + 1 ≤ _; omega) (by show us.length - (i3 + 1) < us.length - i3; omega)) (eC rfl (eC rfl (eC rfl (eC rfl (eC rfl (eC rfl (eN _))))))) (hD := (subc 0 rfl sQ))
  refine zQ (I2 := [[6, 1], [5, 2, 0], []]) rfl wanted0 (by decide +kernel) (fun Kd hKd => ?_)
  refine zL sl23 rfl rfl rfl rfl rfl (fun b141 => ?_)
  refine hKd _ _ _ (vY sK sQ (hC (zE (zR)))) ?_
  refine zP 3 (by decide +kernel) ?_
  refine zQ (I2 := [[6, 1], [5, 0], []]) rfl wanted0 (by decide +kernel) (fun Kd hKd => ?_)
  refine zL sl22 rfl rfl rfl rfl rfl (fun b136 => ?_)
  refine hKd _ _ _ (vY sK sQ (hC (zE (zR)))) ?_
  refine zP 4 (by decide +kernel) ?_
  refine zQ (I2 := [[6], [5], []]) rfl wanted0 (by decide +kernel) (fun Kd hKd => ?_)
  refine op_apd 3 0 sl22 (fun A137 c137 => ?_)
  refine hKd _ _ _ (vY sK sQ (hC (zE (zR)))) ?_
  refine zU (tP 10 rfl wanted0 (zZ xP rfl) ?_)
  refine zP 9 (by decide +kernel) ?_
  refine zQ (I2 := [[10], [], [], []]) rfl wanted0 (by decide +kernel) (fun Kd hKd => ?_)
  refine op_apd 4 1 sl23 (fun A142 c142 => ?_)
  refine hKd _ _ _ (hC (zE (zE (zE (zR))))) (zP 11 (by decide +kernel) ?_)
  refine zQ (I2 := [[], [], [], []]) rfl wanted0 (by decide +kernel) (fun Kd hKd => ?_)
  refine zF 5 (M' := [_, _, _, _, _, HA.blk _ [_, _, _, _, _] _, _, _, _]) rfl rfl rfl rfl si22 rfl rfl rfl (hKd _ _ _ (zE (zE (zE (zE (zR))))) ?_)
  refine tP 12 rfl wanted0 (zZ yZ rfl) (zP 13 (by decide +kernel) ?_)
  refine zQ (I2 := [[], [], [], []]) rfl wanted0 (by decide +kernel) (fun Kd hKd => ?_)
  refine zF 5 (M' := [_, _, _, _, _, HA.blk _ [_, _, _, _, _] _, _, _, _]) rfl rfl rfl rfl si23 rfl rfl rfl (hKd _ _ _ (zE (zE (zE (zE (zR))))) ?_)
  refine yH (by decide +kernel) (rK 0 [89, 88, 87, 11, 2, 1] rfl rfl ?_)
  refine rO 3 rfl (yC rfl rfl (by omega) ?_)
  refine oR 3 rfl (wL 7 0 rfl rfl rfl ?_)
  rw [wU (f := fun x => (us.map srtV).getD x zV0) hld (by rw [vT hdv, List.getElem_map]), wU (f := fun x => Value.string (ks.getD x ⟨#[]⟩)) hld rfl]
  exact kQ (hK1 (i3 + 1, _, _, _, _, _) (by show i3 + 1 ≤ _; omega) (by show us.length - (i3 + 1) < us.length - i3; omega)) (eC rfl (eC rfl (eC rfl (eC rfl (eC rfl (eC rfl (eN _))))))) (hD := (subc 0 rfl sQ))
 obtain rfl : i3 = us.length := by omega
 have het : es.take us.length = es := by rw [← hel]; exact List.take_length
 rw [het]
 refine wI 0 (es.map fun x => ks.getD x ⟨#[]⟩) rfl (by simp [foots, HA.foot]) (by rw [List.map_map]; rfl) (by intro s hs; obtain ⟨x, hx, rfl⟩ := List.mem_map.1 hs; rw [vT (places_lt hep2 _ hx)]; exact hszs _ (List.getElem_mem _)) (tI 0 1 (es.map fun x => (us.map srtV).getD x zV0) rfl rfl (by simp [foots, HA.foot]) (by rw [List.length_map, hel]) ?_)
 refine wR 1 0 rfl rfl (s := ⟨#[]⟩) (q := 5) (m := 0) (by decide) (rO 4 rfl ?_)
 refine zM 0 rfl ag25 rfl rfl (zA ?_)
 refine zF 3 (M' := [_, _, _, HA.blk _ [_, _, _, _, _] _]) rfl rfl rfl rfl si25 rfl rfl rfl (oR 3 rfl ?_)
 have hsv : srtV (.mk 5 0 ⟨#[]⟩ ks us) = .mk 5 0 ⟨#[]⟩ (es.map fun x => ks.getD x ⟨#[]⟩) (es.map fun x => (us.map srtV).getD x zV0) := by
  rw [srtV_map (places_srt zV0 ks (us.map srtV) es (by rw [List.length_map]; exact hl) hnd hep2 hes), List.map_map, List.map_map]
  rfl
 rw [hsv]
 refine vW (M' := [HA.blk b2 [_, _, _, _, _] 25]) (by repeat (first | exact yM _ | refine zD 0 rfl ?_ | refine zD 1 rfl ?_ | refine zD 2 rfl ?_ | refine zD 3 rfl ?_ | refine zD 4 rfl ?_)) ?_
 exact wO 0 Tryz.results107 rfl rfl rfl ag25 ⟨rfl, _, rfl, KA, kc, KI, ic, by simp only [V.kind, V.num, V.text, V.keys, V.items, List.length_map, hel], rfl⟩ nS (sub1 0 rfl)
theorem c107 (fb : Addr) (u : V) : Pl (srtV u) → Eql u → C107 fb u := by
  refine V.indS (p := fun u => Pl (srtV u) → Eql u → C107 fb u) (fun u IH hp he => ?_) u
  have hk := ju_kind hp
  have hD : ∀ {b : Nat} {y : Y} {v : V}, CtR Tryz.prog 166 #[ptr b] [.node b y] (RVT v) → CtR Tryz.prog 166 #[ptr b] [.node b y, ftD fb] (RVT v) := fun h => Ct.data h (fun d hd => by rw [List.mem_singleton.1 hd]; exact List.mem_cons_self)
  intro b
  by_cases h4 : u.kind = 4
  · obtain ⟨hu, h60, hit⟩ := ju_l hp he h4
    have h1 := c107l fb b u.items h60 (fun x hx => IH x (yN hx) (hit x hx).1 (hit x hx).2)
    rw [← outY_l, ← srtV_no (q := 4) (n := 0) (s := ⟨#[]⟩) (ks := []) (by decide), ← hu] at h1
    exact h1
  by_cases h5 : u.kind = 5
  · obtain ⟨hu, hl, h60, hnd, hkw, hit⟩ := ju_m hp he h5
    have h1 := c107m fb b u.keys u.items hl h60 hnd (fun k hk => by have := (hkw k hk).1.2; unfold maxLen; omega) (fun x hx => IH x (yN hx) (hit x hx).1 (hit x hx).2) _ rfl
    rw [← outY_m, ← hu] at h1
    exact h1
  obtain ⟨hpu, hu⟩ := ju_scal hp h4 h5
  rw [hu]
  have hk8 : (outY u).kind = 8 := by rw [outY_kind hk.1 hk.2, if_neg h4, if_neg h5]
  refine c107s fb b _ u hk8 ?_
  have hnum := hpu.num
  rcases (by omega : u.kind = 0 ∨ u.kind = 1 ∨ u.kind = 2 ∨ u.kind = 3 ∨ u.kind = 6) with h | h | h | h | h
  · have hs := qV hpu (by omega) (by omega)
    obtain ⟨q, m, s, ks, ts⟩ := u
    simp only [V.kind] at h
    subst h
    simp only [V.kind, V.num, V.text, V.keys, V.items] at hs
    have e : V.mk 0 m s ks ts = .mk 0 0 ⟨#[]⟩ [] [] := by
      unfold IsScal at hs
      simp at hs
      simp [hs]
    rw [e, sF]
    exact hD (c166n b)
  · obtain ⟨hl, hn⟩ := leaf_bool hpu h
    rw [hl, outY_bool]
    rcases hn with hn | hn
    · rw [hn]; exact hD (c166f b)
    · rw [hn]; exact hD (c166t b)
  · have hl := leaf_int hpu h
    obtain ⟨a1, a2⟩ := hnum.num (by omega)
    rw [hl, outY_int]
    exact hD (c166i b _ a1 a2)
  · have hl := qJ hpu h
    rw [hl, qK]
    exact hD (c166s b _)
  · have hl := leaf_q hpu h
    obtain ⟨a1, a2⟩ := hnum.num (by omega)
    have h0 := hpu.frac h
    rw [hl, outY_q]
    exact c166q fb b _ h0 a1 a2
end Go.Jw

namespace Go.Jw
open Go Go.RowKit Go.Proofs
set_option maxRecDepth 8000
section rules
variable {P : Program} {n : Nat} {F : List Nat} {c : Ctx F} {ops : Array Oper} {d : Nat} {T : TypeId} {l : List Oper} {k : List KI} {Q : Post} {e : Env} {M : List HA} {D : List DA}
theorem ops_frMany (i j : Nat) {mb : Nat} {G : Gr} (hi : M[i]? = some (.many 124 (Gr.blks G))) (hj : D[j]? = some (.graph mb G)) (hF : F = []) (next : RunOps P n c ops l k Q e (M.eraseIdx i) (.gr mb G :: D)) : RunOps P n c ops l k Q e M D :=
  ops_freeze (h := .many 124 (Gr.blks G)) [.gr mb G] (fun x _ h => by rw [hF] at h; cases h) (wM hi) (fun w ok h hok hD d hd => by
    rcases List.mem_singleton.1 hd with rfl
    intro g hg
    have hm : (g.1, g.2.1) ∈ Gr.blks G := List.mem_map.2 ⟨g, hg, rfl⟩
    refine ⟨⟨hok _ ?_, h _ hm⟩, mb, (dget hD j hj : (DA.graph mb G).p w ok) g hg⟩
    simp only [HA.foot, List.mem_map]
    exact ⟨_, hm, rfl⟩) next
end rules
def RTV (t : V) (u : Value) (D' : List DA) : Prop := ∃ A1 c1 A2 c2, u = .agg #[.int .i64 0, .int .i64 t.kind, .int .i64 t.num, .string t.text, .slice A1 t.keys.length c1, .slice A2 t.items.length c2] ∧ D' = [.val (.agg #[.int .i64 t.kind, .int .i64 t.num, .string t.text, .slice A1 t.keys.length c1, .slice A2 t.items.length c2]) t]
theorem c107A (fb : Addr) {u : V} (hp : Pl (srtV u)) (he : Eql u) (b : Nat) : CtR Tryz.prog 107 #[ptr b] [.node b (outY u), ftA fb] (RVT (srtV u)) := Ct.wide (c107 fb u hp he b) (fun w ok h d hd => by
 have h4 := h (ftA fb) (by simp)
 simp only [List.mem_cons, List.not_mem_nil, or_false] at hd
 rcases hd with rfl | rfl
 ·exact h _ List.mem_cons_self
 ·exact h4.2)

theorem c108 (ft : DA) (mb : Nat) (G : Gr) (v : V) (b : Nat) (hU : Unf G v b) (hC : C105 ft mb G v) : CtR Tryz.prog 108 #[ptr b] [.gr mb G, .tab, ft] (fun u D' => ∃ y, OutR v y ∧ RN y u D') := by
 refine Ct.of_run (args := [ptr b]) Tryz.func108 (by kernel_rfl) rfl Tryz.ntmps108 rfl (fun c => ?_)
 refine rO 10 rfl (zO rfl rfl rfl (hC b hU) (subc 0 rfl (sub2 1 2 rfl rfl)) (fun u4 D4 hv4 => ?_))
 obtain ⟨y4, hy4, b4, rfl, rfl⟩ := hv4
 exact oR 3 rfl (zC Tryz.results108 rfl ⟨rfl, y4, hy4, b4, rfl, rfl⟩ nS (sub1 0 rfl))
theorem c60 (fb : Addr) (mb : Nat) (G : Gr) (v : V) (b : Nat) (hU : Unf G v b) (hp : Pl v) (hs : IsShape v) : CtR Tryz.prog 60 #[ptr b] [.gr mb G, .tab, ftA fb] (RTV (wr v)) := by
 refine Ct.of_run (args := [ptr b]) Tryz.func60 (by kernel_rfl) rfl Tryz.ntmps60 rfl (fun c => ?_)
 refine rO 3 rfl (zS ze34 rfl (fun b2 => ?_))
 change RunOps _ _ _ _ _ _ _ _ (HA.blk _ [_, _, _, _, _, _] _ :: _) _
 refine oO 7 rfl (vG pn63 rfl rfl ?_)
 refine oO 8 rfl (zO rfl rfl rfl (c108 (ftA fb) mb G v b hU (c105 (ftA fb) mb G v (.inl (numW fb)) hp hs)) (subc 0 rfl (sub2 1 2 rfl rfl)) (fun u10 D10 hv10 => ?_))
 obtain ⟨y10, hy10, b10, rfl, rfl⟩ := hv10
 obtain ⟨u, rfl, hu, he⟩ := out_wr v hp hs y10 hy10
 have hpu : Pl (srtV u) := hu ▸ pl_wr hs hp
 refine zA (zO rfl rfl rfl (c107A fb hpu he b10) (sub2 0 3 rfl rfl) (fun u11 D11 hv11 => ?_))
 obtain ⟨_, rfl, A11, m11, B11, d11, rfl, rfl⟩ := hv11
 rw [hu]
 refine oO 7 rfl (zS ze25 rfl (fun b3 => ?_))
 change RunOps _ _ _ _ _ _ _ _ (HA.blk _ [_, _, _, _, _] _ :: _) _
 refine zA (zF 0 (M' := [HA.blk _ [_, _, _, _, _] _, _]) rfl rfl rfl rfl si25 rfl rfl rfl ?_)
 refine oK 3 [4, 3, 2] rfl rfl (rO 13 rfl ?_)
 refine zM 0 rfl ag25 rfl rfl (zA ?_)
 refine yQ rfl rfl (bu34_1 ..) (zA ?_)
 refine zF 1 (M' := [_, HA.blk _ [_, _, _, _, _, _] _]) rfl rfl rfl rfl si34 rfl rfl rfl (yB ?_)
 refine vW (M' := [HA.blk b2 [_, _, _, _, _, _] 34]) (by repeat (first | exact yM _ | refine zD 0 rfl ?_ | refine zD 1 rfl ?_ | refine zD 2 rfl ?_ | refine zD 3 rfl ?_ | refine zD 4 rfl ?_)) ?_
 exact xL 0 Tryz.results60 rfl rfl ag34 ⟨rfl, A11, m11, B11, d11, rfl, rfl⟩ nS (sub1 0 rfl)
theorem sV {D D2 : List DA} (h : ∀ d ∈ D2, d ∈ D := by first | exact sub1 0 rfl | exact sub1 1 rfl | exact sub1 2 rfl | exact sub1 3 rfl | exact sub1 4 rfl | exact sub1 5 rfl | exact sub1 6 rfl) : ∀ d ∈ D2, d ∈ D := h
theorem c27 (a b : V) (ha : Wf a) (hb : Wf b) (y : Value) (A1 A2 : Option Addr) (c1 c2 : Nat) : CtV Tryz.prog 27 #[.agg #[.int .i64 0, .int .i64 a.kind, .int .i64 a.num, .string a.text, .slice A1 a.keys.length c1, .slice A2 a.items.length c2], y] [.val (.agg #[.int .i64 a.kind, .int .i64 a.num, .string a.text, .slice A1 a.keys.length c1, .slice A2 a.items.length c2]) a, .val y b] (.bool (tb (bareV a = bareV b))) := by
 refine Ct.of_run (args := [.agg #[.int .i64 0, .int .i64 a.kind, .int .i64 a.num, .string a.text, .slice A1 a.keys.length c1, .slice A2 a.items.length c2], y]) Tryz.func27 (by kernel_rfl) rfl Tryz.ntmps27 rfl (fun c => ?_)
 refine yV 1 rfl (fun B1 m1 B2 m2 hy hsz hk1 hk2 hi1 hi2 => ?_)
 subst hy
 refine rO 3 rfl (yK rfl rfl rfl (fun b2 => ?_))
 refine zA (yK rfl rfl rfl (fun b3 => ?_))
 refine oR 4 rfl (yU yJ ?_)
 refine zU (tP 0 rfl wanted0 (zZ fo34_0 rfl) ?_)
 refine yD (tM 1 rfl wanted0 (yY 1 sc2 rfl rfl rfl) ?_)
 refine tM 2 rfl wanted0 (st_eql rfl rfl) (zU ?_)
 refine tP 3 rfl wanted0 (zY rfl) (any_knowT (s := 8) rfl (rfl) ?_)
 refine tP 4 rfl (wanted1 rfl rfl) (zZ fo34_1 rfl) (yD ?_)
 refine tM 5 rfl (wanted1 rfl rfl) (st_loadP 1 rfl ag25 rfl rfl rfl) (tM 7 rfl (wanted1 rfl rfl) (pI 0 rfl ag25 rfl) ?_)
 refine zP 6 (by decide +kernel) ?_
 refine zQ (I2 := [[7], [], [], [], []]) rfl (wanted1 rfl rfl) (by decide +kernel) (fun Kd hKd => ?_)
 refine zO rfl rfl rfl (c26 a ha _) sV (fun u11 D11 hv11 => ?_)
 obtain ⟨A11, m11, B11, d11, rfl, rfl⟩ := hv11
 refine hKd _ _ _ (hC (zE (zE (zE (zE (zR)))))) (zP 8 (by decide +kernel) ?_)
 refine zQ (I2 := [[], [], [], [], []]) rfl (wanted1 rfl rfl) (by decide +kernel) (fun Kd hKd => ?_)
 refine zO rfl rfl rfl (c26 b hb _) sV (fun u13 D13 hv13 => ?_)
 obtain ⟨A13, m13, B13, d13, rfl, rfl⟩ := hv13
 refine hKd _ _ _ (zE (zE (zE (zE (zE (zR)))))) (zP 9 (by decide +kernel) ?_)
 refine zQ (I2 := [[], [], [], [], []]) rfl (wanted1 rfl rfl) (by decide +kernel) (fun Kd hKd => ?_)
 refine zJ rfl rfl rfl (c25 (bareV a) (bareV b) _ _) (by first | exact sub2 0 1 rfl rfl | exact sub2 0 2 rfl rfl | exact sub2 0 3 rfl rfl | exact sub2 0 4 rfl rfl | exact sub2 1 0 rfl rfl | exact sub2 1 2 rfl rfl | exact sub2 1 3 rfl rfl | exact sub2 1 4 rfl rfl | exact sub2 2 0 rfl rfl | exact sub2 2 1 rfl rfl | exact sub2 2 3 rfl rfl | exact sub2 2 4 rfl rfl | exact sub2 3 0 rfl rfl | exact sub2 3 1 rfl rfl | exact sub2 3 2 rfl rfl | exact sub2 3 4 rfl rfl | exact sub2 4 0 rfl rfl | exact sub2 4 1 rfl rfl | exact sub2 4 2 rfl rfl | exact sub2 4 3 rfl rfl) (hKd _ _ _ (zE (zE (zE (zE (zE (zR)))))) ?_)
 refine zU (tP 10 rfl wanted0 (st_pick rfl rfl) ?_)
 refine tP 11 rfl wanted0 (xH rfl) (yH (by decide +kernel) ?_)
 refine rK 0 [4] rfl rfl ?_
 exact zC Tryz.results27 rfl ⟨rfl, rfl, rfl⟩ nS (fun _ h => by cases h)
theorem kid_in {sh : Int} {x y : V} (h : y ∈ kidsOf sh x) : y = x ∨ y ∈ x.items := by
 unfold kidsOf at h
 (repeat' split at h) <;> first | (exact .inl (List.mem_singleton.1 h)) | (exact .inr (List.mem_filter.1 h).1) | cases h
theorem pl_kid {v x y : V} {sh : Int} (hp : Pl v) (hx : x ∈ v.items) (h : y ∈ kidsOf sh x) : Pl y := (kid_in h).elim (fun e => e ▸ hp.item x hx) (fun e => (hp.item x hx).item y e)
theorem named_of {U : Nat → V → Prop} {x : V} {fv : FVal} (h : FvRel U 9 x fv) : ∃ l ps, fv = .named l ∧ ps.Perm (x.keys.zip x.items) ∧ All2 (fun (q : ByteArray × Nat) (p : ByteArray × V) => q.1 = p.1 ∧ U q.2 p.2) l ps := by
 cases fv <;> try exact absurd h.1 (by decide)
 case any => exact absurd (show (9 : Int) = 14 from h) (by decide)
 case named l =>
  obtain ⟨_, ps, hp, hU⟩ := h
  exact ⟨l, ps, rfl, hp, hU⟩
def Fnd (G : Gr) (v : V) (key name : ByteArray) (u : Value) : Prop := (∃ x z b, getV v key = some x ∧ getV x name = some z ∧ Unf G z b ∧ u = ptr b) ∨ (u = .pointer none ∧ ∀ x, getV v key = some x → getV x name = none)
def FndL (l : List (ByteArray × Nat)) (name : ByteArray) (u : Value) : Prop := (∃ q ∈ l, q.1 = name ∧ u = ptr q.2) ∨ (u = .pointer none ∧ ∀ q ∈ l, q.1 ≠ name)
theorem fnd_of {G : Gr} {v x : V} {key name : ByteArray} {l : List (ByteArray × Nat)} {ps : List (ByteArray × V)} {u : Value} (hx : getV v key = some x) (hpx : Pl x) (hk5 : x.kind = 5) (hperm : ps.Perm (x.keys.zip x.items)) (hall : All2 (fun (q : ByteArray × Nat) (p : ByteArray × V) => q.1 = p.1 ∧ Unf G p.2 q.2) l ps)
    (h : FndL l name u) : Fnd G v key name u := by
  rcases h with ⟨q, hq, rfl, rfl⟩ | ⟨rfl, hno⟩
  · obtain ⟨i, hi, rfl⟩ := List.getElem_of_mem hq
    have hip : i < ps.length := by rw [← hall.1]; exact hi
    obtain ⟨h1, h2⟩ := hall.2 i _ _ (List.getElem?_eq_getElem hi) (List.getElem?_eq_getElem hip)
    have hm : (ps[i].1, ps[i].2) ∈ x.keys.zip x.items := hperm.mem_iff.1 (List.getElem_mem hip)
    refine .inl ⟨x, ps[i].2, _, hx, ?_, h2, rfl⟩
    rw [h1]
    exact (wZ hpx hk5).1 hm
  · refine .inr ⟨rfl, fun x' hx' => ?_⟩
    obtain rfl : x = x' := by rw [hx] at hx'; exact Option.some.inj hx'
    cases hg : getV x name with
    | none => rfl
    | some z =>
      exfalso
      obtain ⟨i, hi, he⟩ := List.getElem_of_mem (hperm.mem_iff.2 ((wZ hpx hk5).2 hg))
      have hil : i < l.length := by rw [hall.1]; exact hi
      have := hall.2 i _ _ (List.getElem?_eq_getElem hil) (List.getElem?_eq_getElem hi)
      exact hno _ (List.getElem_mem hil) (by rw [this.1, he])
theorem sub_of {v x : V} {key : ByteArray} (hs : IsShape v) (hp : Pl v) (h9 : shapeOf key = 9) (hx : getV v key = some x) : Pl x ∧ x.kind = 5 ∧ ∀ z ∈ x.items, z.kind = 5 ∧ IsShape z ∧ Pl z := by
 obtain ⟨j, hj1, hj2⟩ := qH hx
 obtain ⟨hf, hkid, _⟩ := ((wE v).1 hs).2 j _ _ hj1 hj2
 have hm := List.mem_of_getElem? hj2
 rw [h9] at hf hkid
 obtain ⟨h5, hi⟩ := fits9.1 ⟨hf, hkid⟩
 exact ⟨hp.item x hm, h5, fun z hz => ⟨(hi z hz).kind, hi z hz, (hp.item x hm).item z hz⟩⟩
theorem norm_zip (v : V) : (normalV v).keys.zip (normalV v).items = ((v.keys.zip v.items).filter (fun p => isKw p.1)).map (fun p => (p.1, turnV (shapeOf p.1) normalV p.2)) := by
  rw [sS]
  unfold filterV
  simp only [V.keys, V.items]
  rw [List.zip_map]
  generalize (List.filter _ _) = l
  induction l with
  | nil => rfl
  | cons a l ih => simp [ih]
theorem pl_norm {v : V} (hs : IsShape v) (hp : Pl v) : Pl (normalV v) := hp.elim fun d h => ⟨d, plain_norm v hs d h⟩
theorem norm_get {v : V} (hs : IsShape v) (hp : Pl v) (key : ByteArray) : getV (normalV v) key = if isKw key = true then (getV v key).map (turnV (shapeOf key) normalV) else none := by
  have hget : ∀ y, getV (normalV v) key = some y ↔ ∃ x, getV v key = some x ∧ isKw key = true ∧ y = turnV (shapeOf key) normalV x := by
    intro y
    rw [← wZ (pl_norm hs hp) (normal_kind v), norm_zip, List.mem_map]
    constructor
    · rintro ⟨⟨k', x⟩, hm, he⟩
      injection he with e1 e2
      subst e1; subst e2
      obtain ⟨h1, h2⟩ := List.mem_filter.1 hm
      exact ⟨x, (wZ hp hs.kind).1 h1, h2, rfl⟩
    · rintro ⟨x, h1, h2, rfl⟩
      exact ⟨(key, x), List.mem_filter.2 ⟨(wZ hp hs.kind).2 h1, h2⟩, rfl⟩
  cases h : getV (normalV v) key with
  | some y =>
    obtain ⟨x, h1, h2, rfl⟩ := (hget y).1 h
    rw [if_pos h2, h1]
    rfl
  | none =>
    split
    · rename_i hk
      cases hv : getV v key with
      | none => rfl
      | some x =>
        have := (hget _).2 ⟨x, hv, hk, rfl⟩
        rw [h] at this
        cases this
    · rfl
theorem getV_mk (q m : Int) (s : ByteArray) (ks : List ByteArray) (ts : List V) (key : ByteArray) : getV (.mk q m s ks ts) key = if findI ks key = -1 then none else ts[(findI ks key).toNat]? := rfl
theorem turn9_get {x : V} (h5 : ∀ z ∈ x.items, z.kind = 5) (name : ByteArray) : getV (turnV 9 normalV x) name = (getV x name).map normalV := by
  have e : turnV 9 normalV x = turnAll normalV x := by simp [turnV]
  rw [e]
  obtain ⟨q, m, s, ks, ts⟩ := x
  have h5 : ∀ z ∈ ts, z.kind = 5 := h5
  rw [show turnAll normalV (.mk q m s ks ts) = .mk q 0 ⟨#[]⟩ ks (ts.map (mapKids normalV)) from rfl, getV_mk, getV_mk]
  by_cases hk : findI ks name = -1
  · rw [if_pos hk, if_pos hk]
    rfl
  · rw [if_neg hk, if_neg hk, List.getElem?_map]
    cases h : ts[(findI ks name).toNat]? with
    | none => rfl
    | some z =>
      simp only [Option.map_some]
      rw [uV (h5 z (List.mem_of_getElem? h))]
def keyK (k : Int) : ByteArray := if k = 1 then k23 else if k = 2 then k24 else if k = 3 then k32 else ⟨#[]⟩
noncomputable def get2 (v : V) (k : Int) (name : ByteArray) : Option V := (getV v (keyK k)).bind fun x => getV x name
theorem keyK_cases (k : Int) : shapeOf (keyK k) = 9 ∧ isKw (keyK k) = true ∨ isKw (keyK k) = false := by
 unfold keyK
 split
 ·exact .inl (by decide +kernel)
 split
 ·exact .inl (by decide +kernel)
 split
 ·exact .inl (by decide +kernel)
 ·exact .inr (by decide +kernel)
theorem norm_get2 {v : V} (hs : IsShape v) (hp : Pl v) (k : Int) (name : ByteArray) (hk : isKw (keyK k) = true) : get2 (normalV v) k name = (get2 v k name).map normalV := by
  have h9 : shapeOf (keyK k) = 9 := (keyK_cases k).elim (fun h => h.1) (fun h => by rw [h] at hk; cases hk)
  unfold get2
  rw [norm_get hs hp, if_pos hk, h9]
  cases h : getV v (keyK k) with
  | none => rfl
  | some x => exact turn9_get (fun z hz => ((sub_of hs hp h9 h).2.2 z hz).1) name
theorem norm_get2n {v : V} (hs : IsShape v) (hp : Pl v) (k : Int) (name : ByteArray) (hk : isKw (keyK k) = false) : get2 (normalV v) k name = none := by
 unfold get2
 rw [norm_get hs hp, hk]
 rfl
theorem valp_shape {w : World} {ok : Nat → Prop} {t : V} {y : Value} (h : ValP w ok t y) : ∃ A1 c1 A2 c2, y = .agg #[.int .i64 t.kind, .int .i64 t.num, .string t.text, .slice A1 t.keys.length c1, .slice A2 t.items.length c2] := by
 obtain ⟨q, r, s, ks, its⟩ := t
 simp only [ValP] at h
 obtain ⟨kv, iv, rfl, _, ⟨A1, c1, rfl, _⟩, A2, c2, rfl, _⟩ := h
 exact ⟨A1, c1, A2, c2, rfl⟩
theorem c62v (x : Value) (t : V) (key : ByteArray) (hkl : t.keys.length ≤ t.items.length) : CtR Tryz.prog 62 #[x, .string key] [.val x t] (fun u D' => ∃ y, u = .tuple #[y, .bool (getV t key).isSome] ∧ RV ((getV t key).getD zV) y D') := by
 refine ⟨(c62 x t key hkl).1, fun w ok hok hM hn hD => Calls.mono ((c62 x t key hkl).2 w ok hok hM hn hD) ?_⟩
 rintro e w' ⟨u, M', D', rfl, ⟨hM', y, rfl, rfl⟩, hchg, hm, hn', hft, hd⟩
 obtain ⟨A1, c1, A2, c2, hy⟩ := valp_shape (hd _ List.mem_cons_self)
 exact ⟨_, M', _, rfl, ⟨hM', y, rfl, A1, c1, A2, c2, hy, rfl⟩, hchg, hm, hn', hft, hd⟩
abbrev Z6 : Value := .agg #[.int .i64 1, .int .i64 0, .int .i64 0, .string ⟨#[]⟩, .slice none 0 0, .slice none 0 0]
def RO : Option V → Value → List DA → Prop
  | some z, u, D' => RTV (wr z) u D'
  | none, u, D' => D' = [] ∧ u = Z6
theorem ro_agg {o : Option V} {u : Value} {D' : List DA} (h : RO o u D') : ∃ (k0 k1 k2 : Int) (s : ByteArray) (A1 : Option Addr) (n1 c1 : Nat) (A2 : Option Addr) (n2 c2 : Nat), u = .agg #[.int .i64 k0, .int .i64 k1, .int .i64 k2, .string s, .slice A1 n1 c1, .slice A2 n2 c2] := by
  cases o with
  | none => exact ⟨_, _, _, _, _, _, _, _, _, _, h.2⟩
  | some z =>
    obtain ⟨A1, c1, A2, c2, hu, _⟩ := h
    exact ⟨_, _, _, _, _, _, _, _, _, _, hu⟩

theorem c60n : CtR Tryz.prog 60 #[.pointer none] [] (fun u D' => D' = [] ∧ u = Z6) := by
 refine Ct.of_run (args := [.pointer none]) Tryz.func60 (by kernel_rfl) rfl Tryz.ntmps60 rfl (fun c => ?_)
 refine rO 3 rfl (zS ze34 rfl (fun b2 => ?_))
 change RunOps _ _ _ _ _ _ _ _ (HA.blk _ [_, _, _, _, _, _] _ :: _) _
 refine oO 7 rfl (vG pn63 rfl rfl ?_)
 refine oO 5 rfl (yQ rfl rfl (bu34_0 ..) ?_)
 refine zA (zF 0 (M' := [HA.blk _ [_, _, _, _, _, _] _]) rfl rfl rfl rfl si34 rfl rfl rfl ?_)
 refine yB ?_
 refine vW (M' := [HA.blk b2 [_, _, _, _, _, _] 34]) (by repeat (first | exact yM _ | refine zD 0 rfl ?_ | refine zD 1 rfl ?_ | refine zD 2 rfl ?_ | refine zD 3 rfl ?_ | refine zD 4 rfl ?_)) ?_
 exact xL 0 Tryz.results60 rfl rfl ag34 ⟨rfl, rfl, rfl⟩ nS (fun _ h => by cases h)
theorem c60F (fb : Addr) (mb : Nat) (G : Gr) (v : V) (key name : ByteArray) (u : Value) (h9 : shapeOf key = 9) (hs : IsShape v) (hp : Pl v) (h : Fnd G v key name u) : CtR Tryz.prog 60 #[u] [.gr mb G, .tab, ftA fb] (RO ((getV v key).bind fun x => getV x name)) := by
  rcases h with ⟨x, z, b, hx, hz, hU, rfl⟩ | ⟨rfl, hno⟩
  · obtain ⟨hpx, hx5, hit⟩ := sub_of hs hp h9 hx
    obtain ⟨_, hsz, hpz⟩ := hit z (tY hz)
    rw [hx, Option.bind_some, hz]
    exact c60 fb mb G z b hU hpz hsz
  · have e : ((getV v key).bind fun x => getV x name) = none := by
      cases hx : getV v key with
      | none => rfl
      | some x => exact hno x hx
    rw [e]
    exact Ct.data c60n (fun d hd => by cases hd)
noncomputable def fnd2 (v : V) (k : Int) (name : ByteArray) : Option V := if isKw (keyK k) = true then get2 v k name else none
theorem norm_fnd {v : V} (hs : IsShape v) (hp : Pl v) (k : Int) (name : ByteArray) : get2 (normalV v) k name = (fnd2 v k name).map normalV := by
 unfold fnd2
 split
 ·rename_i h
  exact norm_get2 hs hp k name h
 ·rename_i h
  exact norm_get2n hs hp k name (by simpa using h)
theorem fnd_in {v z : V} {k : Int} {name : ByteArray} (hs : IsShape v) (hp : Pl v) (h : fnd2 v k name = some z) : IsShape z ∧ Pl z := by
  unfold fnd2 at h
  split at h
  · rename_i hk
    have h9 : shapeOf (keyK k) = 9 := (keyK_cases k).elim (fun h => h.1) (fun h => by rw [h] at hk; cases hk)
    unfold get2 at h
    cases hx : getV v (keyK k) with
    | none => rw [hx] at h; cases h
    | some x =>
      rw [hx] at h
      exact ((sub_of hs hp h9 hx).2.2 z (tY h)).2
  · cases h

end Go.Jw

namespace Go.Jw
open Go Go.RowKit
theorem setMany_app (pre zs vs post : List Value) (h : zs.length = vs.length) : setMany (pre ++ (zs ++ post)) pre.length vs = pre ++ (vs ++ post) := by
  induction vs generalizing pre zs with
  | nil =>
    have : zs = [] := List.eq_nil_of_length_eq_zero h
    subst this
    rfl
  | cons v vs ih =>
    cases zs with
    | nil => cases h
    | cons z zs =>
      have e : (pre ++ (z :: zs ++ post)).set pre.length v = (pre ++ [v]) ++ (zs ++ post) := by simp
      have := ih (pre ++ [v]) zs (by simpa using h)
      rw [setMany, e]
      simp only [List.length_append, List.length_singleton] at this
      rw [this]
      simp
section rules
variable {P : Program} {n : Nat} {F : List Nat} {c : Ctx F} {ops : Array Oper} {d : Nat} {T : TypeId} {l : List Oper} {k : List KI} {Q : Post} {e : Env} {M : List HA} {D : List DA}
theorem st_idxRowL (i : Nat) {x y : Operand} {A : Option Addr} {m cap j : Nat} {kd : IntKind} {S E sz by_ U : Nat} {xs : List Value} (hS : SliceOf P S E sz by_) (hx : ev e x = some (.slice A m cap)) (hy : ev e y = some (.int kd (j : Nat))) (hi : M[i]? = some (.row A m cap U sz xs)) (hj : j < m) :
  St P n c (.indexAddr S x y) T e M D (.pointer (some (At A (j * sz)))) := by
 intro d a w hf
 have hrow := hf.toFitsW.mem hi
 rcases hrow.2 with ⟨_, h⟩ | ⟨g, cap', cur, hv, _⟩
 ·omega
 ·injection hv with h4
  subst h4
  exact vJ (T := T) hS hx hy hj d a w hf
theorem op_storeRow (i : Nat) {x y : Operand} {A : Option Addr} {m cap E sz S : Nat} {pre zs vs : List Value} {v : Value} (hx : ev e x = some (.pointer (some (At A (m * sz))))) (hy : ev e y = some v) (hi : M[i]? = some (.row A (m + 1) cap E sz (pre ++ zs))) (hz : zs.length = sz) (hvs : vs.length = sz) (hv : v.cells = vs.toArray)
  (hs : ∃ i, P.info? S = some i ∧ i.size = sz) (h1 : vs.all (·.oneCell') = true) (next : RunOps P n c ops l k Q e (M.set i (.row A (m + 1) cap E sz (pre ++ vs))) D) : RunOp P n c ops none (.store S x y) T l k Q e M D := by
 intro a w hf
 have hrow := hf.toFitsW.mem hi
 have hpl : pre.length = m * sz := by
  have := hrow.1
  rw [List.length_append, hz, Nat.succ_mul] at this
  omega
 rcases hrow.2 with ⟨_, h⟩ | ⟨g, cap', cur, hv', hg, hc, hnc, hm, hsz, ht⟩
 ·omega
 ·injection hv' with hA _ hcap
  subst hA; subst hcap
  have hcur : cur.toList = pre ++ (zs ++ cur.toList.drop ((m + 1) * sz)) := by
   rw [← List.append_assoc, ← ht, List.take_append_drop]
  have hcs : w.heap[g]? = some (.cells cur.toList.toArray E (0, 0)) := by rw [Array.toArray_toList]; exact hc
  obtain ⟨w', hr, hh, hcg⟩ := pE (P := P) (T' := S) (v := v) (o := pre.length) hcs hv (by rw [hvs]; exact hs) (by rw [hcur]; simp; omega) (fun u hu => (List.all_eq_true.1 h1) u hu)
  have hadr : At (some ⟨g, 0, none⟩) (m * sz) = ⟨g, pre.length, none⟩ := by
   show (⟨g, 0, none⟩ : Addr).add (m * sz) = _
   rw [wG, Nat.zero_add, hpl]
  unfold Oper.wp
  have : (execOp a.eval (opr none (.store S x y) T)).run P w = .ok .skip w' := by simp [execOp, opr, hf.ev hx, hf.ev hy, hadr, hr]
  rw [this]
  refine next _ _ (hf.world (hf.toFitsW.swapAt hi (x' := .row (some ⟨g, 0, none⟩) (m + 1) cap E sz (pre ++ vs)) ?_ (by simpa [HA.foot] using hcg) (by simp [HA.foot]) (fun q hq => .inl hq)))
  refine ⟨by rw [List.length_append, hpl, hvs, Nat.succ_mul], .inr ⟨g, cap, _, rfl, Nat.zero_le _, hh, hnc, hm, ?_, ?_⟩⟩
  ·rw [List.size_toArray, setMany_length]; simpa using hsz
  ·have e : setMany cur.toList pre.length vs = pre ++ (vs ++ cur.toList.drop ((m + 1) * sz)) := by
    conv => lhs; rw [hcur]
    exact setMany_app _ _ _ _ (by omega)
   rw [e]
   show List.take ((m + 1) * sz) (pre ++ (vs ++ _)) = _
   rw [← List.append_assoc]
   exact List.take_left' (by rw [List.length_append, hpl, hvs, Nat.succ_mul])
theorem op_append1F (i j : Nat) {x y : Operand} {A : Option Addr} {m cap : Nat} {S E sz by_ : Nat} {xs vs : List Value} {b : Nat} {U : TypeId} (hS : SliceOf P S E sz by_) (hd : Nat.blt d n = true) (hx : ev e x = some (.slice A m cap)) (hy : ev e y = some (.slice (some ⟨b, 0, none⟩) 1 1)) (hi : M[i]? = some (.row A m cap E sz xs))
  (hj : M[j]? = some (.blk b vs U)) (hl : vs.length = sz) (h1 : vs.all (·.oneCell') = true) (hsz : m + 1 ≤ maxLen) (hby : (m + 1) * by_ ≤ 140737488355328) (hA : ∀ a, A = some a → c.w0.heap.size ≤ a.block)
  (next : ∀ A' cap', (∀ a, A' = some a → c.w0.heap.size ≤ a.block) → RunOps P n c ops l k Q ((d, .slice A' (m + 1) cap') :: e) (M.set i (.row A' (m + 1) cap' E sz (xs ++ vs))) D) :
  RunOp P n c ops (some d) (.call { callee := .builtin .append, args := #[x, y], argTypes := #[S, S] }) T l k Q e M D :=
 op_appendF i hS hd hx hy hi (by omega) (fun w h => .inr ⟨_, rfl, fun q u hq => by rw [wG]; exact cellM h hj (by rw [Nat.zero_add]; exact hq)⟩) (fun u hu => List.all_eq_true.1 h1 u hu) hsz hby (fun A' cap' h => next A' cap' (h hA))
theorem run_freezeF (i : Nat) {h : HA} (D' : List DA) (hfr : ∀ b ∈ h.foot, c.w0.heap.size ≤ b) (hi : M[i]? = some h) (hd : ∀ (w : World) (ok : Nat → Prop), h.holds w → (∀ b ∈ h.foot, ok b) → (∀ d ∈ D, d.p w ok) → ∀ d ∈ D', d.p w ok)
  (next : Run P n c k Q e (M.eraseIdx i) (D' ++ D)) : Run P n c k Q e M D :=
 run_freeze D' (fun b hb hbF => absurd (c.hF b hbF) (by have := hfr b hb; omega)) (wM hi) hd next
theorem run_frValsF (i j : Nat) {A : Option Addr} {m cap E : Nat} {xs : List Value} (ts : List V) (hA : ∀ a, A = some a → c.w0.heap.size ≤ a.block) (hi : M[i]? = some (.row A m cap E 5 xs)) (hj : D[j]? = some (.its xs ts)) (hm : m = ts.length) (next : Run P n c k Q e (M.eraseIdx i) (.vals (.slice A m cap) ts :: D)) : Run P n c k Q e M D :=
  run_freezeF i [.vals (.slice A m cap) ts] (fun b hb => by
    cases A with
    | none => cases hb
    | some a => rw [List.mem_singleton.1 hb]; exact hA a rfl) hi (fun w ok h hok hD d hd => by
    rcases List.mem_singleton.1 hd with rfl
    exact vals_of_row h hok (hD _ (List.mem_of_getElem? hj)) hm) next
end rules
end Go.Jw

namespace Go.Jw
open Go Go.RowKit Go.Proofs
def HE (M N : List HA) : Prop := (∀ w : World, (∀ h ∈ M, h.holds w) ↔ ∀ h ∈ N, h.holds w) ∧ (foots M).Perm (foots N)
theorem HE.perm {M N : List HA} (h : M.Perm N) : HE M N := ⟨fun w => ⟨fun a x hx => a x (h.mem_iff.2 hx), fun a x hx => a x (h.mem_iff.1 hx)⟩, foots_perm h⟩
theorem FitsW.he {F : List Nat} {c : Ctx F} {M N : List HA} {D : List DA} {w : World} (h : FitsW c M D w) (he : HE M N) : FitsW c N D w :=
 ⟨h.chg, (he.1 w).1 h.own, he.2.nodup_iff.1 h.nodup, fun b hb => h.foot b (he.2.mem_iff.2 hb), fun d hd =>
  d.mono (fun k hk => ⟨hk.1, hk.2.1, fun h' => hk.2.2 (he.2.mem_iff.2 h')⟩) (fun _ _ => rfl) (h.dat d hd)⟩

abbrev Sig := Nat → Option Flds
def GOk (G : Gr) (σ : Sig) : Prop := (G.map (·.1)).Nodup ∧ ∀ b f, G.at b f ↔ σ b = some f
section rules
variable {P : Program} {n : Nat} {F : List Nat} {c : Ctx F} {ops : Array Oper} {d : Nat} {T : TypeId} {l : List Oper} {k : List KI} {Q : Post} {e : Env} {M : List HA} {D : List DA}
theorem ops_he {N : List HA} (he : HE M N) (next : RunOps P n c ops l k Q e N D) : RunOps P n c ops l k Q e M D := fun a w hf => next a w (hf.world (hf.toFitsW.he he))
theorem cellsP_get {w : World} {ok : Nat → Prop} {mb : Nat} {cs : List Value} {f : Flds} (h : CellsP w ok mb cs f) {i : Nat} (h1 : 1 ≤ i) (h2 : i ≤ 36) : ∃ p : Option Addr, cs[i]? = some (.pointer p) ∧ p.isSome = (f i).isSome ∧ ∀ fv, f i = some fv → FvP w ok fv (.pointer p) := by
  obtain ⟨u, hu, hm⟩ := h.2.2 i h1 h2
  cases hf : f i with
  | none =>
    rw [hf] at hm
    exact ⟨none, by rw [hu]; exact congrArg some hm, rfl, fun fv h => by cases h⟩
  | some fv =>
    rw [hf] at hm
    have : ∃ p : Addr, u = .pointer (some p) := by
      cases fv with
      | text s => obtain ⟨p, a, b⟩ := hm; exact ⟨_, a⟩
      | bool x => obtain ⟨p, a, b⟩ := hm; exact ⟨_, a⟩
      | int n => obtain ⟨p, a, b⟩ := hm; exact ⟨_, a⟩
      | numI n => obtain ⟨b, p, a, c⟩ := hm; exact ⟨_, a⟩
      | numF n => obtain ⟨b, p, a, c⟩ := hm; exact ⟨_, a⟩
      | sbS c => obtain ⟨b, a, d⟩ := hm; exact ⟨_, a⟩
      | sbB x => obtain ⟨b, p, a, c⟩ := hm; exact ⟨_, a⟩
      | itS c => obtain ⟨b, a, d⟩ := hm; exact ⟨_, a⟩
      | itL bs => obtain ⟨b, p, sl, a, c⟩ := hm; exact ⟨_, a⟩
      | texts l => obtain ⟨p, sl, a, d⟩ := hm; exact ⟨_, a⟩
      | named l => obtain ⟨p, sl, nbs, a, d⟩ := hm; exact ⟨_, a⟩
      | deps l => obtain ⟨p, sl, nbs, a, d⟩ := hm; exact ⟨_, a⟩
      | enums l => obtain ⟨p, A, c, a, d⟩ := hm; exact ⟨_, a⟩
      | tyS s => obtain ⟨b, p, a, c⟩ := hm; exact ⟨_, a⟩
      | tyL l => obtain ⟨b, p, sl, a, c⟩ := hm; exact ⟨_, a⟩
      | list bs => obtain ⟨p, sl, a, d⟩ := hm; exact ⟨_, a⟩
      | one c => exact ⟨_, hm⟩
      | any => obtain ⟨p, a⟩ := hm; exact ⟨_, a⟩
    obtain ⟨p, rfl⟩ := this
    exact ⟨some p, hu, rfl, fun fv' h => by injection h with h; subst h; exact hm⟩
end rules
end Go.Jw

namespace Go.Jw
open Go Go.RowKit
section rules
variable {P : Program} {n : Nat} {F : List Nat} {c : Ctx F} {ops : Array Oper} {d : Nat} {T : TypeId} {l : List Oper} {k : List KI} {Q : Post} {e : Env} {M : List HA} {D : List DA}
end rules
end Go.Jw

namespace Go.Jw
open Go Go.RowKit Go.Proofs
set_option maxRecDepth 8000
abbrev Prs := List (ByteArray × V)

def fkids : FVal → List Nat
  | .sbS b => [b]
  | .itS b => [b]
  | .itL bs => bs
  | .named l => l.map (·.2)
  | .list bs => bs
  | .one b => [b]
  | _ => []
def kidsAt (f : Flds) (i : Nat) : List Nat := match f i with
  | none => []
  | some fv => fkids fv
def kidsV (v : V) : List V := (v.keys.zip v.items).flatMap (fun p => kidsOf (shapeOf p.1) p.2)
theorem qZ {v z : V} (h : z ∈ kidsV v) : SizeOf.sizeOf z < SizeOf.sizeOf v := by
 obtain ⟨p, hp, hz⟩ := List.mem_flatMap.1 h
 exact Nat.lt_of_le_of_lt (uF hz) (yN (List.of_mem_zip hp).2)
noncomputable def DeepV (p : V → Prop) : V → Prop := V.fix (α := Prop) (fun v f => p v ∧ ∀ z ∈ kidsV v, f z)
theorem deep_iff (p : V → Prop) (v : V) : DeepV p v ↔ p v ∧ ∀ z ∈ kidsV v, DeepV p z := by
 have := V.fix_eq (α := Prop) (G := fun v f => p v ∧ ∀ z ∈ kidsV v, f z) (fun t g g' h => by
  have : (∀ z ∈ kidsV t, g z) ↔ ∀ z ∈ kidsV t, g' z := ⟨fun a z hz => by rw [← h z (qZ hz)]; exact a z hz, fun a z hz => by rw [h z (qZ hz)]; exact a z hz⟩
  simp only [this]) v
 show V.fix _ v ↔ _
 rw [this]
 rfl
theorem kid_pl {v z : V} (hp : Pl v) (h : z ∈ kidsV v) : Pl z := by
 obtain ⟨p, hpm, hz⟩ := List.mem_flatMap.1 h
 exact pl_kid hp (List.of_mem_zip hpm).2 hz

def kidIdx : List Nat := [14, 15, 22, 23, 24, 28, 29, 30, 31, 32]
inductive Rch (σ : Sig) : Nat → Nat → Prop where
  | refl (b : Nat) : Rch σ b b
  | step {b c d i : Nat} {f : Flds} (h : σ b = some f) (hi : i ∈ kidIdx) (hc : c ∈ kidsAt f i) (r : Rch σ c d) : Rch σ b d
theorem kwI {key : ByteArray} {i : Nat} (h : kwIdx key = i) (k : ByteArray) (hk : kwIdx k = i) (h0 : i ≠ 0) : key = k := kw_inj (h.trans hk.symm) (by rw [h]; exact h0)
def FvOk (sh : Int) : FVal → Prop
  | .text _ => sh = 1
  | .bool _ => sh = 2
  | .int _ => sh = 4
  | .numI _ => sh = 3
  | .numF _ => sh = 3
  | .sbS _ => sh = 6
  | .sbB _ => sh = 6
  | .itS _ => sh = 7
  | .itL _ => sh = 7
  | .texts _ => sh = 8
  | .named _ => sh = 9
  | .deps _ => sh = 10
  | .enums _ => sh = 11
  | .tyS _ => sh = 12
  | .tyL _ => sh = 12
  | .list _ => sh = 13
  | .one _ => sh = 5
  | .any => sh = 14
def FT (f : Flds) : Prop := ∀ i fv, 1 ≤ i → i ≤ 36 → f i = some fv → FvOk (shIdx i) fv
structure GoodV (good : V → Prop) : Prop where
 pl : ∀ v, good v → Pl v
 shape : ∀ v, good v → IsShape v
 kid : ∀ v, good v → ∀ z ∈ kidsV v, good z


section
variable {key k : ByteArray} {own x : V} {l : Prs} {i nk : Nat} {xk : List Value} {ts : List V}
end

def oP (o : Option Nat) : Value := .pointer (o.map fun c => ⟨c, 0, none⟩)
section rules
variable {P : Program} {n : Nat} {F : List Nat} {c : Ctx F} {ops : Array Oper} {d : Nat} {T : TypeId} {l : List Oper} {k : List KI} {Q : Post} {e : Env} {M : List HA} {D : List DA}
theorem sL (j q : Nat) {mb b : Nat} {cs : List Value} {f : Flds} {G : Gr} (hj : D[j]? = some (.graph mb G)) (hm : (b, cs, f) ∈ G) (h1 : 1 ≤ q) (h2 : q ≤ 36) (next : ∀ p : Option Addr, cs[q]? = some (.pointer p) → p.isSome = (f q).isSome → Run P n c k Q e M D) : Run P n c k Q e M D :=
 uZ (p := ∃ p : Option Addr, cs[q]? = some (.pointer p) ∧ p.isSome = (f q).isSome) (fun w ok h => by
  obtain ⟨p, a, a2, _⟩ := cellsP_get ((dget h j hj : (DA.graph mb G).p w ok) _ hm) h1 h2
  exact ⟨p, a, a2⟩) (fun ⟨p, a, a2⟩ => next p a a2)
theorem run_gfv (j q : Nat) {mb b : Nat} {cs : List Value} {f : Flds} {G : Gr} {p : Option Addr} {fv : FVal} (hj : D[j]? = some (.graph mb G)) (hm : (b, cs, f) ∈ G) (h1 : 1 ≤ q) (h2 : q ≤ 36) (hc : cs[q]? = some (.pointer p)) (hf : f q = some fv) (next : Run P n c k Q e M (.fv (.pointer p) fv :: D)) : Run P n c k Q e M D :=
 yL (.fv (.pointer p) fv) (fun w ok h => by
  obtain ⟨p', a, _, a3⟩ := cellsP_get ((dget h j hj : (DA.graph mb G).p w ok) _ hm) h1 h2
  rw [hc] at a
  injection a with a
  injection a with a
  subst a
  exact a3 fv hf) next
theorem rJ {G : Gr} {b : Nat} {cs : List Value} {f : Flds} (hm : (b, cs, f) ∈ G) : (b, cs) ∈ Gr.blks G := List.mem_map.2 ⟨_, hm, rfl⟩
end rules
section rules
variable {P : Program} {n : Nat} {F : List Nat} {c : Ctx F} {ops : Array Oper} {d : Nat} {T : TypeId} {l : List Oper} {k : List KI} {Q : Post} {e : Env} {M : List HA} {D : List DA}
end rules
section rules
variable {P : Program} {n : Nat} {F : List Nat} {c : Ctx F} {ops : Array Oper} {d : Nat} {T : TypeId} {l : List Oper} {k : List KI} {Q : Post} {e : Env} {M : List HA} {D : List DA}
theorem op_callF0 {fo : Operand} {ags : Array Operand} {ts : Array TypeId} {f : FuncId} {fst cap : Array Value} {vs : List Value} {M1 M2 : List HA} {D1 : List DA} {R : Value → List HA → List DA → Prop} (hd : Nat.blt d n = true) (hfo : ev e fo = some (.func (.func f) fst cap)) (has : ags.toList.mapM (ev e) = some vs)
    (hct : Ct P f (fst ++ vs.toArray ++ cap) M1 D1 R) (hM : M1 ++ M2 = M) (hD : ∀ d ∈ D1, d ∈ D)
    (next : ∀ v M' D', R v M' D' → RunOps P n c ops l k Q ((d, v) :: e) (M' ++ M2) (D' ++ D)) : RunOp P n c ops (some d) (.call { callee := .value fo, args := ags, argTypes := ts }) T l k Q e M D := by
  subst hM
  intro a w hf
  have hargs : ags.map a.eval = vs.toArray := by
    apply Array.ext'
    simpa using mapEv hf has
  unfold Oper.wp
  have hrun : (execOp a.eval (opr (some d) (.call { callee := .value fo, args := ags, argTypes := ts }) T)).run P w = .ok (.enter f (fst ++ vs.toArray ++ cap)) w := by
    simp [execOp, opr, resolve, hf.ev hfo, Deferred.ofValue, invoke, hargs, qN hct.1]
  rw [hrun]
  have hlt := hf.lt
  refine Calls.mono (hct.2 w (c.now (M1 ++ M2) w) (fun k hk => ⟨hk.2.1, fun h' => hk.2.2 (by rw [yE]; exact List.mem_append_left _ h')⟩) (fun h hh => hf.own h (List.mem_append_left _ hh))
    (by have := hf.nodup; rw [yE] at this; exact (List.nodup_append.1 this).1) (fun d hd' => hf.dat d (hD d hd'))) ?_
  rintro e' w' ⟨v, M', D', rfl, hR, hchg, hm, hn, hft, hdat⟩
  refine next v M' D' hR _ w' ((hf.world (hf.toFitsW.swap hchg hm hn hft fun x hx => ?_)).put hd v)
  refine x.mono (fun q hq => ?_) (fun _ _ => rfl) (hdat x hx)
  obtain ⟨h1, h2, h3⟩ := hq
  refine ⟨?_, h2, ?_⟩
  · rcases h1 with h1 | h1
    · exact h1.1
    · exact .inr (Nat.le_trans hf.chg.size h1)
  · rw [yE, List.mem_append, not_or]
    refine ⟨h3, fun h4 => ?_⟩
    rcases h1 with h1 | h1
    · exact h1.2.2 (by rw [yE]; exact List.mem_append_right _ h4)
    · exact absurd (hlt q (by rw [yE]; exact List.mem_append_right _ h4)) (by omega)
theorem sY {fo : Operand} {ags : Array Operand} {ts : Array TypeId} {f : FuncId} {fst cap : Array Value} {vs : List Value} {pre M1 : List HA} {D1 : List DA} {R : Value → List HA → List DA → Prop} (hd : Nat.blt d n = true) (hfo : ev e fo = some (.func (.func f) fst cap)) (has : ags.toList.mapM (ev e) = some vs)
  (hct : Ct P f (fst ++ vs.toArray ++ cap) M1 D1 R) (hM : M = pre ++ M1) (hD : ∀ d ∈ D1, d ∈ D)
  (next : ∀ v M' D', R v M' D' → RunOps P n c ops l k Q ((d, v) :: e) (pre ++ M') (D' ++ D)) : RunOp P n c ops (some d) (.call { callee := .value fo, args := ags, argTypes := ts }) T l k Q e M D := by
 subst hM
 refine fun a w hf => op_callF0 (M1 := M1) (M2 := pre) hd hfo has hct rfl hD (fun v M' D' hR a' w' hf' => next v M' D' hR a' w' (hf'.world (hf'.toFitsW.perm List.perm_append_comm))) a w (hf.world (hf.toFitsW.perm List.perm_append_comm))
end rules
inductive FoldR {α : Type} (Rl : V → α → α → V → Prop) (a0 : α) : List V → α → List V → Prop where
  | nil : FoldR Rl a0 [] a0 []
  | pos {l : List V} {a a1 : α} {l' : List V} {own v : V} (h : FoldR Rl a0 l a l') (hk : own.kind = 5) (hr : Rl own a a1 v) : FoldR Rl a0 (l ++ [own]) a1 (l' ++ [v])
  | neg {l : List V} {a : α} {l' : List V} {own : V} (h : FoldR Rl a0 l a l') (hk : ¬ own.kind = 5) : FoldR Rl a0 (l ++ [own]) a (l' ++ [own])
theorem FoldR.len {α : Type} {Rl : V → α → α → V → Prop} {a0 a : α} {l l' : List V} (h : FoldR Rl a0 l a l') : l'.length = l.length := by
  induction h with
  | nil => rfl
  | pos h hk hr ih => simp [ih]
  | neg h hk ih => simp [ih]
theorem FoldR.stepP {α : Type} {Rl : V → α → α → V → Prop} {a0 a a1 : α} {ts l' : List V} {i : Nat} {v : V} (hi : i < ts.length) (h : FoldR Rl a0 (ts.take i) a l') (hk : ts[i].kind = 5) (hr : Rl ts[i] a a1 v) : FoldR Rl a0 (ts.take (i + 1)) a1 (l' ++ [v]) := by
 rw [List.take_add_one, List.getElem?_eq_getElem hi]
 exact .pos h hk hr
theorem FoldR.stepN {α : Type} {Rl : V → α → α → V → Prop} {a0 a : α} {ts l' : List V} {i : Nat} (hi : i < ts.length) (h : FoldR Rl a0 (ts.take i) a l') (hk : ¬ ts[i].kind = 5) : FoldR Rl a0 (ts.take (i + 1)) a (l' ++ [ts[i]]) := by
 rw [List.take_add_one, List.getElem?_eq_getElem hi]
 exact .neg h hk
def AllR {α : Type} (Rl : V → α → α → V → Prop) (t : V) (a a' : α) (v' : V) : Prop := ∃ ts', FoldR Rl a t.items a' ts' ∧ v' = .mk t.kind 0 ⟨#[]⟩ t.keys ts'
def TurnR {α : Type} (Rl : V → α → α → V → Prop) (sh : Int) (t : V) (a a' : α) (v' : V) : Prop :=
 if sh = 5 then Rl t a a' v' else if sh = 6 then (if t.kind = 5 then Rl t a a' v' else a' = a ∧ v' = t) else if sh = 7 then (if t.kind = 5 then Rl t a a' v' else AllR Rl t a a' v') else if sh = 9 ∨ sh = 13 then AllR Rl t a a' v' else a' = a ∧ v' = t
def FnR {α : Type} (X : α → List HA) (DX : α → DA) (Ok : Nat → α → Prop) (Rl : V → α → α → V → Prop) (f : FuncId) (fst cap : Array Value) (own : V) : Prop :=
 ∀ (k : Nat) (a : α) (y : Value), Ok (k + 1) a → Ct Tryz.prog f (fst ++ #[y] ++ cap) (X a) [.val y own, DX a] (fun u M' D' => ∃ a' v' D1, Rl own a a' v' ∧ Ok k a' ∧ M' = X a' ∧ RV v' u D1 ∧ D' = D1 ++ [DX a'])
theorem tN {x : HA} : ∀ {M' M : List HA}, Pick M' M → Pick M' (x :: M)
  | [], _, _ => trivial
  | _ :: M', M, ⟨i, hi, h⟩ => ⟨i + 1, by simpa using hi, by
    rw [List.eraseIdx_cons_succ]
    exact tN h⟩

theorem c94g {α : Type} {X : α → List HA} {DX : α → DA} {Ok : Nat → α → Prop} {Rl : V → α → α → V → Prop} (hOk : ∀ k a, Ok (k + 1) a → Ok k a) (t : V) (f : FuncId) (fst cap : Array Value) (hkl : t.keys.length ≤ 1000000) (hil : t.items.length ≤ 1000000) (hf : ∀ own ∈ t.items, own.kind = 5 → FnR X DX Ok Rl f fst cap own) (bv bh : Nat) (A1 A2 : Option Addr) (c1 c2 : Nat) (a0 : α) (h0 : Ok t.items.length a0) :
  Ct Tryz.prog 94 #[.pointer (some ⟨bv, 0, none⟩), .pointer (some ⟨bh, 0, none⟩)] (.blk bv [.int .i64 t.kind, .int .i64 t.num, .string t.text, .slice A1 t.keys.length c1, .slice A2 t.items.length c2] 25 :: .blk bh [.func (.func f) fst cap] 27 :: X a0) [.val (.agg #[.int .i64 t.kind, .int .i64 t.num, .string t.text, .slice A1 t.keys.length c1, .slice A2 t.items.length c2]) t, DX a0] (fun u M' D' => ∃ a' v' D1, AllR Rl t a0 a' v' ∧ M' = .blk bv [.int .i64 t.kind, .int .i64 t.num, .string t.text, .slice A1 t.keys.length c1, .slice A2 t.items.length c2] 25 :: .blk bh [.func (.func f) fst cap] 27 :: X a' ∧ RV v' u D1 ∧ D' = D1 ++ [DX a']) := by
 refine Ct.of_run (args := [.pointer (some ⟨bv, 0, none⟩), .pointer (some ⟨bh, 0, none⟩)]) Tryz.func94 (by kernel_rfl) rfl Tryz.ntmps94 rfl (fun c => ?_)
 refine yV 0 rfl (fun A1 c1 A2 c2 hx hs hk1 hk2 hi1 hi2 => ?_)
 injection hx with hx
 simp only [Array.mk.injEq, List.cons.injEq, Value.slice.injEq, true_and, and_true] at hx
 obtain ⟨⟨rfl, rfl⟩, rfl, rfl⟩ := hx
 unfold maxLen at hi2 hk2
 refine tH 0 rfl (fun hksz => ?_)
 refine rO 3 rfl (zS ze25 rfl (fun b2 => ?_))
 change RunOps _ _ _ _ _ _ _ _ (HA.blk _ [_, _, _, _, _] _ :: _) _
 refine oK 2 [2, 0, 1] rfl rfl (run_joinI (fun (⟨b3, Ak, ck⟩ : Nat × Option Addr × Nat) => True) (fun (⟨b3, Ak, ck⟩ : Nat × Option Addr × Nat) => [(3, .pointer (some ⟨b3, 0, none⟩))]) (fun (⟨b3, Ak, ck⟩ : Nat × Option Addr × Nat) => HA.blk b3 [.int .i64 t.kind, .int .i64 0, .string ⟨#[]⟩, .slice Ak t.keys.length ck, .slice none 0 0] 25 :: HA.blk b2 [.int .i64 0, .int .i64 0, .string ⟨#[]⟩, .slice none 0 0, .slice none 0 0] 25 :: HA.blk bv [.int .i64 t.kind, .int .i64 t.num, .string t.text, .slice A1 t.keys.length c1, .slice A2 t.items.length c2] 25 :: HA.blk bh [.func (.func f) fst cap] 27 :: X a0) (fun (⟨b3, Ak, ck⟩ : Nat × Option Addr × Nat) => .strs (.slice Ak t.keys.length ck) t.keys :: .strs (.slice A1 t.keys.length c1) t.keys :: .vals (.slice A2 t.items.length c2) t.items :: .val (.agg #[.int .i64 t.kind, .int .i64 t.num, .string t.text, .slice A1 t.keys.length c1, .slice A2 t.items.length c2]) t :: DX a0 :: []) ?_ ?_)
 ·intro K hK
  refine yU yJ (zU ?_)
  refine tP 0 rfl wanted0 (zZ wQ rfl) (tP 3 rfl wanted0 (zZ xP rfl) ?_)
  refine yD (tM 1 rfl wanted0 (yY 1 sc2 rfl rfl rfl) ?_)
  refine tM 4 rfl wanted0 (yY 1 sc22 rfl rfl rfl) (uM (rs := [2, 7]) (by decide +kernel) (by simp) ?_)
  intro j hj
  simp only [List.mem_cons, List.not_mem_nil, or_false] at hj
  rcases hj with rfl | rfl
  ·refine zQ (I2 := [[4, 1], [3, 0], []]) rfl wanted0 (by decide +kernel) (fun Kd hKd => ?_)
   refine vF sl22 rfl (fun b8 => ?_)
   refine hKd _ _ _ (vK (by repeat (first | exact List.nil_sublist _ | exact List.Sublist.refl _ | apply List.Sublist.cons)) sQ (vK (by repeat (first | exact List.nil_sublist _ | exact List.Sublist.refl _ | apply List.Sublist.cons)) sQ (zE (zR)))) (uM (rs := [5, 7]) (by decide +kernel) (by simp) ?_)
   intro j hj
   simp only [List.mem_cons, List.not_mem_nil, or_false] at hj
   rcases hj with rfl | rfl
   ·refine zQ (I2 := [[1], [0], []]) rfl wanted0 (by decide +kernel) (fun Kd hKd => ?_)
    refine vQ 0 0 sl22 rfl rfl rfl rfl rfl rfl (by unfold maxLen; omega) (by omega) (fun Ak ck => ?_)
    rw [Nat.zero_add]
    refine hKd _ _ _ (vK (by repeat (first | exact List.nil_sublist _ | exact List.Sublist.refl _ | apply List.Sublist.cons)) sQ (vK (by repeat (first | exact List.nil_sublist _ | exact List.Sublist.refl _ | apply List.Sublist.cons)) sQ (zE (zR)))) (yD ?_)
    refine tM 6 rfl wanted0 (uJ rfl (rX ..)) (zP 7 (by decide +kernel) ?_)
    refine zQ (I2 := [[6], [1], [0], []]) rfl wanted0 (by decide +kernel) (fun Kd hKd => ?_)
    refine zS ze25 rfl (fun b3 => ?_)
    change RunOps _ _ _ _ _ _ _ _ (HA.blk _ [_, _, _, _, _] _ :: _) _
    refine hKd _ _ _ (vK (by repeat (first | exact List.nil_sublist _ | exact List.Sublist.refl _ | apply List.Sublist.cons)) sQ (vK (by repeat (first | exact List.nil_sublist _ | exact List.Sublist.refl _ | apply List.Sublist.cons)) sQ (vK (by repeat (first | exact List.nil_sublist _ | exact List.Sublist.refl _ | apply List.Sublist.cons)) sQ (zE (zR))))) (zP 8 (by decide +kernel) ?_)
    refine zQ (I2 := [[], [], [], []]) rfl wanted0 (by decide +kernel) (fun Kd hKd => ?_)
    refine zF 0 (M' := HA.blk _ [_, _, _, _, _] _ :: _) rfl rfl rfl rfl si25 rfl rfl rfl (hKd _ _ _ (zE (zE (zE (zE (zR))))) ?_)
    refine yH (by decide +kernel) (wI 1 t.keys rfl (by intro b hb; simp only [foots, HA.foot, List.mem_append, List.mem_singleton, List.mem_cons, List.not_mem_nil, or_false] at hb; rcases hb with hb | hb | hb <;> simp [foots, HA.foot, hb]) rfl hksz ?_)
    exact kQ (hK (_, _, _) (trivial)) (eC rfl (eC rfl (eC rfl (eC rfl (eN _))))) (hM := (by repeat (first | exact xX _ | exact yM _ | refine zD 0 rfl ?_ | refine zD 1 rfl ?_ | refine zD 2 rfl ?_ | refine zD 3 rfl ?_ | refine zD 4 rfl ?_ | refine zD 5 rfl ?_ | refine zD 6 rfl ?_ | refine zD 7 rfl ?_ | refine zD 8 rfl ?_ | refine tN ?_)))
   refine zQ (I2 := [[4, 1], [3, 0], []]) rfl wanted0 (by decide +kernel) (fun Kd hKd => ?_)
   refine zS ze25 rfl (fun b3 => ?_)
   change RunOps _ _ _ _ _ _ _ _ (HA.blk _ [_, _, _, _, _] _ :: _) _
   refine hKd _ _ _ (vK (by repeat (first | exact List.nil_sublist _ | exact List.Sublist.refl _ | apply List.Sublist.cons)) sQ (vK (by repeat (first | exact List.nil_sublist _ | exact List.Sublist.refl _ | apply List.Sublist.cons)) sQ (zE (zR)))) (zP 5 (by decide +kernel) ?_)
   refine zQ (I2 := [[1], [0], []]) rfl wanted0 (by decide +kernel) (fun Kd hKd => ?_)
   refine vQ 1 0 sl22 rfl rfl rfl rfl rfl rfl (by unfold maxLen; omega) (by omega) (fun Ak ck => ?_)
   rw [Nat.zero_add]
   refine hKd _ _ _ (vK (by repeat (first | exact List.nil_sublist _ | exact List.Sublist.refl _ | apply List.Sublist.cons)) sQ (vK (by repeat (first | exact List.nil_sublist _ | exact List.Sublist.refl _ | apply List.Sublist.cons)) sQ (zE (zR)))) (yD ?_)
   refine tM 6 rfl wanted0 (uJ rfl (rX ..)) (zP 8 (by decide +kernel) ?_)
   refine zQ (I2 := [[], [], [], []]) rfl wanted0 (by decide +kernel) (fun Kd hKd => ?_)
   refine zF 0 (M' := HA.blk _ [_, _, _, _, _] _ :: _) rfl rfl rfl rfl si25 rfl rfl rfl (hKd _ _ _ (zE (zE (zE (zE (zR))))) ?_)
   refine yH (by decide +kernel) (wI 1 t.keys rfl (by intro b hb; simp only [foots, HA.foot, List.mem_append, List.mem_singleton, List.mem_cons, List.not_mem_nil, or_false] at hb; rcases hb with hb | hb | hb <;> simp [foots, HA.foot, hb]) rfl hksz ?_)
   exact kQ (hK (_, _, _) (trivial)) (eC rfl (eC rfl (eC rfl (eC rfl (eN _))))) (hM := (by repeat (first | exact xX _ | exact yM _ | refine zD 0 rfl ?_ | refine zD 1 rfl ?_ | refine zD 2 rfl ?_ | refine zD 3 rfl ?_ | refine zD 4 rfl ?_ | refine zD 5 rfl ?_ | refine zD 6 rfl ?_ | refine zD 7 rfl ?_ | refine zD 8 rfl ?_ | refine tN ?_)))
  refine zQ (I2 := [[4, 1], [3, 0], []]) rfl wanted0 (by decide +kernel) (fun Kd hKd => ?_)
  refine zS ze25 rfl (fun b3 => ?_)
  change RunOps _ _ _ _ _ _ _ _ (HA.blk _ [_, _, _, _, _] _ :: _) _
  refine hKd _ _ _ (vK (by repeat (first | exact List.nil_sublist _ | exact List.Sublist.refl _ | apply List.Sublist.cons)) sQ (vK (by repeat (first | exact List.nil_sublist _ | exact List.Sublist.refl _ | apply List.Sublist.cons)) sQ (zE (zR)))) (zP 2 (by decide +kernel) ?_)
  refine zQ (I2 := [[4, 1], [3, 0], []]) rfl wanted0 (by decide +kernel) (fun Kd hKd => ?_)
  refine vF sl22 rfl (fun b8 => ?_)
  refine hKd _ _ _ (vK (by repeat (first | exact List.nil_sublist _ | exact List.Sublist.refl _ | apply List.Sublist.cons)) sQ (vK (by repeat (first | exact List.nil_sublist _ | exact List.Sublist.refl _ | apply List.Sublist.cons)) sQ (zE (zR)))) (zP 5 (by decide +kernel) ?_)
  refine zQ (I2 := [[1], [0], []]) rfl wanted0 (by decide +kernel) (fun Kd hKd => ?_)
  refine vQ 0 0 sl22 rfl rfl rfl rfl rfl rfl (by unfold maxLen; omega) (by omega) (fun Ak ck => ?_)
  rw [Nat.zero_add]
  refine hKd _ _ _ (vK (by repeat (first | exact List.nil_sublist _ | exact List.Sublist.refl _ | apply List.Sublist.cons)) sQ (vK (by repeat (first | exact List.nil_sublist _ | exact List.Sublist.refl _ | apply List.Sublist.cons)) sQ (zE (zR)))) (yD ?_)
  refine tM 6 rfl wanted0 (uJ rfl (rX ..)) (zP 8 (by decide +kernel) ?_)
  refine zQ (I2 := [[], [], [], []]) rfl wanted0 (by decide +kernel) (fun Kd hKd => ?_)
  refine zF 1 (M' := _ :: HA.blk _ [_, _, _, _, _] _ :: _) rfl rfl rfl rfl si25 rfl rfl rfl (hKd _ _ _ (zE (zE (zE (zE (zR))))) ?_)
  refine yH (by decide +kernel) (wI 0 t.keys rfl (by intro b hb; simp only [foots, HA.foot, List.mem_append, List.mem_singleton, List.mem_cons, List.not_mem_nil, or_false] at hb; rcases hb with hb | hb | hb <;> simp [foots, HA.foot, hb]) rfl hksz ?_)
  exact kQ (hK (_, _, _) (trivial)) (eC rfl (eC rfl (eC rfl (eC rfl (eN _))))) (hM := (by repeat (first | exact xX _ | exact yM _ | refine zD 0 rfl ?_ | refine zD 1 rfl ?_ | refine zD 2 rfl ?_ | refine zD 3 rfl ?_ | refine zD 4 rfl ?_ | refine zD 5 rfl ?_ | refine zD 6 rfl ?_ | refine zD 7 rfl ?_ | refine zD 8 rfl ?_ | refine tN ?_)))
 intro ⟨b3, Ak, ck⟩ hI
 replace hI : True := hI
 change Run _ _ _ _ _ [(3, _), (2, _), (0, _), (1, _)] (HA.blk b3 [.int .i64 t.kind, .int .i64 0, .string ⟨#[]⟩, .slice Ak t.keys.length ck, .slice none 0 0] 25 :: HA.blk b2 [.int .i64 0, .int .i64 0, .string ⟨#[]⟩, .slice none 0 0, .slice none 0 0] 25 :: HA.blk bv [.int .i64 t.kind, .int .i64 t.num, .string t.text, .slice A1 t.keys.length c1, .slice A2 t.items.length c2] 25 :: HA.blk bh [.func (.func f) fst cap] 27 :: X a0) [_, _, _, _, _]
 refine wN 25 5 (rO 4 rfl ?_)
 refine zB yZ rfl rfl (zA ?_)
 refine zI 3 sc23 rfl rfl rfl rfl (zA ?_)
 refine zW sl23 rfl rfl (oK 4 [16, 15, 14, 3, 2, 1] rfl rfl ?_)
 refine yL (DX a0) (fun w ok h => dget h 4 rfl) (sP ?_)
 refine yX 1 (fun (⟨i, a, A, ca, xs, ts⟩ : Nat × α × Option Addr × Nat × List Value × List V) => i ≤ t.items.length ∧ FoldR Rl a0 (t.items.take i) a ts ∧ Ok (t.items.length - i) a ∧ ∀ q, A = some q → c.w0.heap.size ≤ q.block) (fun (⟨i, a, A, ca, xs, ts⟩ : Nat × α × Option Addr × Nat × List Value × List V) => [(16, .int .i64 ((i : Nat) : Int))]) (fun (⟨i, a, A, ca, xs, ts⟩ : Nat × α × Option Addr × Nat × List Value × List V) => HA.row A i ca 25 5 xs :: HA.blk b3 [.int .i64 t.kind, .int .i64 0, .string ⟨#[]⟩, .slice Ak t.keys.length ck, .slice A i ca] 25 :: HA.blk b2 [.int .i64 0, .int .i64 0, .string ⟨#[]⟩, .slice none 0 0, .slice none 0 0] 25 :: HA.blk bv [.int .i64 t.kind, .int .i64 t.num, .string t.text, .slice A1 t.keys.length c1, .slice A2 t.items.length c2] 25 :: HA.blk bh [.func (.func f) fst cap] 27 :: X a) (fun (⟨i, a, A, ca, xs, ts⟩ : Nat × α × Option Addr × Nat × List Value × List V) => .its xs ts :: DX a :: .strs (.slice Ak t.keys.length ck) t.keys :: .strs (.slice A1 t.keys.length c1) t.keys :: .vals (.slice A2 t.items.length c2) t.items :: .val (.agg #[.int .i64 t.kind, .int .i64 t.num, .string t.text, .slice A1 t.keys.length c1, .slice A2 t.items.length c2]) t :: DX a0 :: []) (fun (⟨i, a, A, ca, xs, ts⟩ : Nat × α × Option Addr × Nat × List Value × List V) => t.items.length - i) (0, a0, none, 0, [], []) (⟨Nat.zero_le _, .nil, h0, fun q h => by cases h⟩) (eC rfl (eN _)) rfl rfl ?_ (eC rfl (eC rfl (eC rfl (eC rfl (eC rfl (eN _))))))
 intro ⟨i, a, A, ca, xs, ts⟩ hI K hK
 change Run _ _ _ _ _ [(16, _), (15, _), (14, _), (3, _), (2, _), (1, _)] (HA.row A i ca 25 5 xs :: HA.blk b3 [.int .i64 t.kind, .int .i64 0, .string ⟨#[]⟩, .slice Ak t.keys.length ck, .slice A i ca] 25 :: HA.blk b2 [.int .i64 0, .int .i64 0, .string ⟨#[]⟩, .slice none 0 0, .slice none 0 0] 25 :: HA.blk bv [.int .i64 t.kind, .int .i64 t.num, .string t.text, .slice A1 t.keys.length c1, .slice A2 t.items.length c2] 25 :: HA.blk bh [.func (.func f) fst cap] 27 :: X a) [_, _, _, _, _, _, _]
 obtain ⟨hi, hF, hO, hA⟩ := hI
 refine rO 3 rfl (yO rfl rfl rfl ?_)
 refine oR 2 rfl (zK rfl (fun h17 => ?_) (fun h17 => ?_))
 ·rw [show t.items.length - i = (t.items.length - (i + 1)) + 1 by omega] at hO
  refine rO 6 rfl (wD 4 sl23 rfl rfl rfl rfl (by omega) ?_)
  refine zA (xY 4 ag25 rfl rfl rfl (List.getElem?_eq_getElem h17) (fun A3 c3 A4 c4 => ?_))
  refine zA (zS ze25 rfl (fun b5 => ?_))
  change RunOps _ _ _ _ _ _ _ _ (HA.blk _ [_, _, _, _, _] _ :: _) _
  refine zA (zF 0 (M' := HA.blk _ [_, _, _, _, _] _ :: _) rfl rfl rfl rfl si25 rfl rfl rfl ?_)
  refine oO 5 rfl (zB wQ rfl rfl ?_)
  refine zA (zI 0 sc2 rfl rfl rfl rfl ?_)
  refine oR 3 rfl (zK rfl (fun h22 => ?_) (fun h22 => ?_))
  ·refine rO 2 rfl (zI 5 sc27 rfl rfl rfl rfl ?_)
   refine zA (zM 0 rfl ag25 rfl rfl ?_)
   refine zA (sY (pre := [_, _, _, _, _, _]) rfl rfl rfl (hf _ (List.getElem_mem h17) h22 _ a _ hO) rfl (sub2 0 2 rfl rfl) (fun u25 M25 D25 hv25 => ?_))
   obtain ⟨a25, v25, D25, hR25, hO25, rfl, ⟨A5, c5, A6, c6, rfl, rfl⟩, rfl⟩ := hv25
   refine zA (zF 0 (M' := HA.blk _ [_, _, _, _, _] _ :: _) rfl rfl rfl rfl si25 rfl rfl rfl ?_)
   refine oK 1 [5, 16, 15, 14, 3, 2, 1] rfl rfl (rO 2 rfl ?_)
   refine zB yZ rfl rfl (zA ?_)
   refine zI 2 sc23 rfl rfl rfl rfl (zA ?_)
   refine zM 0 rfl ag25 rfl rfl (zA ?_)
   refine zL sl23 rfl rfl rfl rfl rfl (fun b29 => ?_)
   refine zA ?_
   refine op_append1F 2 0 sl23 rfl rfl rfl rfl rfl rfl rfl (by unfold maxLen; omega) (by omega) hA (fun A30 c30 hA30 => ?_)
   refine zA (zB yZ rfl rfl ?_)
   refine zA (zF 3 (M' := _ :: _ :: _ :: HA.blk _ [_, _, _, _, _] _ :: _) rfl rfl rfl rfl si23 rfl rfl rfl ?_)
   refine oO 4 rfl (yC rfl rfl (by omega) ?_)
   refine oR 3 rfl (wL 3 0 rfl rfl rfl ?_)
   exact kQ (hK (i + 1, _, _, _, _, _) (⟨by show i + 1 ≤ _; omega, hF.stepP h17 h22 hR25, hO25, hA30⟩) (by show t.items.length - (i + 1) < t.items.length - i; omega)) (eC rfl (eC rfl (eC rfl (eC rfl (eC rfl (eC rfl (eN _))))))) (hM := (by repeat (first | exact xX _ | exact yM _ | refine zD 0 rfl ?_ | refine zD 1 rfl ?_ | refine zD 2 rfl ?_ | refine zD 3 rfl ?_ | refine zD 4 rfl ?_ | refine zD 5 rfl ?_ | refine zD 6 rfl ?_ | refine zD 7 rfl ?_ | refine zD 8 rfl ?_ | refine tN ?_))) (hD := (by intro d hd; refine (List.mem_cons.1 hd).elim (fun e => e ▸ (by (repeat (first | exact List.mem_cons_self | apply List.mem_cons_of_mem)))) (fun hd => ?_); refine (List.mem_cons.1 hd).elim (fun e => e ▸ (by (repeat (first | exact List.mem_cons_self | apply List.mem_cons_of_mem)))) (fun hd => ?_); repeat (first | exact hd | apply List.mem_cons_of_mem)))
  refine rO 3 rfl (zB yZ rfl rfl ?_)
  refine zA (zI 2 sc23 rfl rfl rfl rfl ?_)
  refine zA (zM 0 rfl ag25 rfl rfl ?_)
  refine zA (zL sl23 rfl rfl rfl rfl rfl (fun b29 => ?_))
  refine zA ?_
  refine op_append1F 2 0 sl23 rfl rfl rfl rfl rfl rfl rfl (by unfold maxLen; omega) (by omega) hA (fun A30 c30 hA30 => ?_)
  refine zA (zB yZ rfl rfl ?_)
  refine zA (zF 3 (M' := _ :: _ :: _ :: HA.blk _ [_, _, _, _, _] _ :: _) rfl rfl rfl rfl si23 rfl rfl rfl ?_)
  refine oK 1 [16, 15, 14, 3, 2, 1] rfl rfl (rO 3 rfl ?_)
  refine yC rfl rfl (by omega) (oR 3 rfl ?_)
  refine wL 1 0 rfl rfl rfl ?_
  exact kQ (hK (i + 1, _, _, _, _, _) (⟨by show i + 1 ≤ _; omega, hF.stepN h17 h22, hOk _ _ hO, hA30⟩) (by show t.items.length - (i + 1) < t.items.length - i; omega)) (eC rfl (eC rfl (eC rfl (eC rfl (eC rfl (eC rfl (eN _))))))) (hM := (by repeat (first | exact xX _ | exact yM _ | refine zD 0 rfl ?_ | refine zD 1 rfl ?_ | refine zD 2 rfl ?_ | refine zD 3 rfl ?_ | refine zD 4 rfl ?_ | refine zD 5 rfl ?_ | refine zD 6 rfl ?_ | refine zD 7 rfl ?_ | refine zD 8 rfl ?_ | refine tN ?_))) (hD := (by intro d hd; refine (List.mem_cons.1 hd).elim (fun e => e ▸ (by (repeat (first | exact List.mem_cons_self | apply List.mem_cons_of_mem)))) (fun hd => ?_); refine (List.mem_cons.1 hd).elim (fun e => e ▸ (by (repeat (first | exact List.mem_cons_self | apply List.mem_cons_of_mem)))) (fun hd => ?_); repeat (first | exact hd | apply List.mem_cons_of_mem)))
 obtain rfl : i = t.items.length := by omega
 rw [List.take_length] at hF
 have hlen := hF.len
 refine rO 4 rfl (zM 1 rfl ag25 rfl rfl ?_)
 refine zA (zF 2 (M' := _ :: _ :: HA.blk _ [_, _, _, _, _] _ :: _) rfl rfl rfl rfl si25 rfl rfl rfl ?_)
 refine yB (run_frValsF 0 0 ts hA rfl rfl hlen.symm ?_)
 refine wR (q := t.kind) (m := 0) (s := ⟨#[]⟩) 3 0 rfl rfl (by decide) ?_
 exact xL 1 Tryz.results94 rfl rfl ag25 ⟨a, _, _, ⟨ts, hF, rfl⟩, rfl, ⟨_, _, _, _, by simp only [V.kind, V.num, V.text, V.keys, V.items, hlen]; rfl, rfl⟩, rfl⟩ (by repeat (first | exact List.nil_sublist _ | exact List.Sublist.refl _ | apply List.Sublist.cons)) (by intro d hd; refine (List.mem_cons.1 hd).elim (fun e => e ▸ (by (repeat (first | exact List.mem_cons_self | apply List.mem_cons_of_mem)))) (fun hd => ?_); refine (List.mem_cons.1 hd).elim (fun e => e ▸ (by (repeat (first | exact List.mem_cons_self | apply List.mem_cons_of_mem)))) (fun hd => ?_); repeat (first | exact hd | apply List.mem_cons_of_mem))
theorem c54g {α : Type} {X : α → List HA} {DX : α → DA} {Ok : Nat → α → Prop} {Rl : V → α → α → V → Prop} (hOk : ∀ k a, Ok (k + 1) a → Ok k a) (key : ByteArray) (t : V) (x : Value) (f : FuncId) (fst cap : Array Value) (hkl : t.keys.length ≤ 1000000) (hil : t.items.length ≤ 1000000) (hf : ∀ own ∈ kidsOf (shapeOf key) t, FnR X DX Ok Rl f fst cap own) (a0 : α) (h0 : Ok (t.items.length + 1) a0) : Ct Tryz.prog 54 #[.string key, x, .func (.func f) fst cap] (X a0) [.val x t, DX a0] (fun u M' D' => ∃ a' v' D1, TurnR Rl (shapeOf key) t a0 a' v' ∧ M' = X a' ∧ RV v' u D1 ∧ D' = D1 ++ [DX a']) := by
 refine Ct.of_run (args := [.string key, x, .func (.func f) fst cap]) Tryz.func54 (by kernel_rfl) rfl Tryz.ntmps54 rfl (fun c => ?_)
 refine yV 0 rfl (fun A1 c1 A2 c2 hx hs hk1 hk2 hi1 hi2 => ?_)
 subst hx
 unfold maxLen at hi2 hk2
 refine rO 3 rfl (yK rfl rfl rfl (fun b4 => ?_))
 refine zA (yK rfl rfl rfl (fun b5 => ?_))
 refine zA (zS ze25 rfl (fun b6 => ?_))
 change RunOps _ _ _ _ _ _ _ _ (HA.blk _ [_, _, _, _, _] _ :: _) _
 refine oO 4 rfl (rA rfl rfl rfl ?_)
 refine oO 9 rfl (zJ rfl rfl rfl (c53 key) sub0 ?_)
 refine oR 9 rfl (zK rfl (fun h11 => ?_) (fun h11 => ?_))
 ·refine rO 3 rfl (zI 1 sc27 rfl rfl rfl rfl ?_)
  refine zA (zM 2 rfl ag25 rfl rfl ?_)
  refine zA ?_
  refine sY (pre := [_, _, _]) rfl rfl rfl (hf t (by simp [kidsOf, *]) _ a0 _ h0) rfl (sub2 2 3 rfl rfl) (fun u15 M15 D15 hv15 => ?_)
  obtain ⟨a15, v15, D15, hR15, hO15, rfl, ⟨A15, c15, B15, d15, rfl, rfl⟩, rfl⟩ := hv15
  refine zA (zF 0 (M' := HA.blk _ [_, _, _, _, _] _ :: _) rfl rfl rfl rfl si25 rfl rfl rfl ?_)
  refine oK 1 [6] rfl rfl ?_
  have e : TurnR Rl (shapeOf key) t a0 a15 v15 := by simp [TurnR, *]
  exact xL 0 Tryz.results54 rfl rfl ag25 ⟨a15, v15, _, e, rfl, ⟨_, _, _, _, rfl, rfl⟩, rfl⟩ (by repeat (first | exact List.nil_sublist _ | exact List.Sublist.refl _ | apply List.Sublist.cons)) (sub2 0 1 rfl rfl)
 refine rR 7 rfl (zK rfl (fun h16 => ?_) (fun h16 => ?_))
 ·refine rO 3 rfl (zB wQ rfl rfl ?_)
  refine zA (zI 2 sc2 rfl rfl rfl rfl ?_)
  refine oK 3 [20, 6, 5, 4] rfl rfl (zK rfl (fun h20 => ?_) (fun h20 => ?_))
  ·refine rO 3 rfl (zI 1 sc27 rfl rfl rfl rfl ?_)
   refine zA (zM 2 rfl ag25 rfl rfl ?_)
   refine zA ?_
   refine sY (pre := [_, _, _]) rfl rfl rfl (hf t (by simp [kidsOf, *]) _ a0 _ h0) rfl (sub2 2 3 rfl rfl) (fun u23 M23 D23 hv23 => ?_)
   obtain ⟨a23, v23, D23, hR23, hO23, rfl, ⟨A23, c23, B23, d23, rfl, rfl⟩, rfl⟩ := hv23
   refine zA (zF 0 (M' := HA.blk _ [_, _, _, _, _] _ :: _) rfl rfl rfl rfl si25 rfl rfl rfl ?_)
   refine yB ?_
   have e : TurnR Rl (shapeOf key) t a0 a23 v23 := by simp [TurnR, *]
   exact xL 0 Tryz.results54 rfl rfl ag25 ⟨a23, v23, _, e, rfl, ⟨_, _, _, _, rfl, rfl⟩, rfl⟩ (by repeat (first | exact List.nil_sublist _ | exact List.Sublist.refl _ | apply List.Sublist.cons)) (sub2 0 1 rfl rfl)
  refine rO 5 rfl (zM 2 rfl ag25 rfl rfl ?_)
  refine zA (zF 0 (M' := HA.blk _ [_, _, _, _, _] _ :: _) rfl rfl rfl rfl si25 rfl rfl rfl ?_)
  refine yB ?_
  have e : TurnR Rl (shapeOf key) t a0 a0 t := by simp [TurnR, *]
  exact xL 0 Tryz.results54 rfl rfl ag25 ⟨a0, t, _, e, rfl, ⟨_, _, _, _, rfl, rfl⟩, rfl⟩ (by repeat (first | exact List.nil_sublist _ | exact List.Sublist.refl _ | apply List.Sublist.cons)) (sub2 2 3 rfl rfl)
 refine rK 7 [24, 10, 7, 6, 5, 4] rfl rfl (zK rfl (fun h24 => ?_) (fun h24 => ?_))
 ·refine rO 4 rfl (zB wQ rfl rfl ?_)
  refine zA (zI 2 sc2 rfl rfl rfl rfl ?_)
  refine oR 3 rfl (zK rfl (fun h28 => ?_) (fun h28 => ?_))
  ·refine rO 3 rfl (zI 1 sc27 rfl rfl rfl rfl ?_)
   refine zA (zM 2 rfl ag25 rfl rfl ?_)
   refine zA ?_
   refine sY (pre := [_, _, _]) rfl rfl rfl (hf t (by simp [kidsOf, *]) _ a0 _ h0) rfl (sub2 2 3 rfl rfl) (fun u31 M31 D31 hv31 => ?_)
   obtain ⟨a31, v31, D31, hR31, hO31, rfl, ⟨A31, c31, B31, d31, rfl, rfl⟩, rfl⟩ := hv31
   refine zA (zF 0 (M' := HA.blk _ [_, _, _, _, _] _ :: _) rfl rfl rfl rfl si25 rfl rfl rfl ?_)
   refine oK 1 [6] rfl rfl ?_
   have e : TurnR Rl (shapeOf key) t a0 a31 v31 := by simp [TurnR, *]
   exact xL 0 Tryz.results54 rfl rfl ag25 ⟨a31, v31, _, e, rfl, ⟨_, _, _, _, rfl, rfl⟩, rfl⟩ (by repeat (first | exact List.nil_sublist _ | exact List.Sublist.refl _ | apply List.Sublist.cons)) (sub2 0 1 rfl rfl)
  refine rS 5 rfl (ops_he (HE.perm (.cons _ (List.Perm.swap _ _ _))) ?_)
  refine zA ?_
  refine sY (pre := [_]) rfl rfl rfl (c94g hOk t f fst cap hkl hil (fun own ho hk5 => hf own (by simp [kidsOf, *])) b4 b5 _ _ _ _ a0 (hOk _ _ h0)) rfl (sub2 2 3 rfl rfl) (fun u33 M33 D33 hv33 => ?_)
  obtain ⟨a33, v33, D33, hR33, rfl, ⟨A33, c33, B33, d33, rfl, rfl⟩, rfl⟩ := hv33
  refine zA (zF 0 (M' := HA.blk _ [_, _, _, _, _] _ :: _) rfl rfl rfl rfl si25 rfl rfl rfl ?_)
  refine oK 1 [6] rfl rfl ?_
  have e : TurnR Rl (shapeOf key) t a0 a33 v33 := by simp [TurnR, *]
  exact xL 0 Tryz.results54 rfl rfl ag25 ⟨a33, v33, _, e, rfl, ⟨_, _, _, _, rfl, rfl⟩, rfl⟩ (by repeat (first | exact List.nil_sublist _ | exact List.Sublist.refl _ | apply List.Sublist.cons)) (sub2 0 1 rfl rfl)
 refine rR 8 rfl (wA rfl (fun h34 => ?_) (fun h34 => ?_))
 ·refine rS 6 rfl (ops_he (HE.perm (.cons _ (List.Perm.swap _ _ _))) ?_)
  refine zA ?_
  refine sY (pre := [_]) rfl rfl rfl (c94g hOk t f fst cap hkl hil (fun own ho hk5 => hf own (by simp [kidsOf, *])) b4 b5 _ _ _ _ a0 (hOk _ _ h0)) rfl (sub2 2 3 rfl rfl) (fun u38 M38 D38 hv38 => ?_)
  obtain ⟨a38, v38, D38, hR38, rfl, ⟨A38, c38, B38, d38, rfl, rfl⟩, rfl⟩ := hv38
  refine zA (zF 0 (M' := HA.blk _ [_, _, _, _, _] _ :: _) rfl rfl rfl rfl si25 rfl rfl rfl ?_)
  refine oK 1 [6] rfl rfl ?_
  have e : TurnR Rl (shapeOf key) t a0 a38 v38 := by simp [TurnR, *]
  exact xL 0 Tryz.results54 rfl rfl ag25 ⟨a38, v38, _, e, rfl, ⟨_, _, _, _, rfl, rfl⟩, rfl⟩ (by repeat (first | exact List.nil_sublist _ | exact List.Sublist.refl _ | apply List.Sublist.cons)) (sub2 0 1 rfl rfl)
 refine rR 6 rfl (zK rfl (fun h34_1 => ?_) (fun h34_1 => ?_))
 ·refine rS 4 rfl (ops_he (HE.perm (.cons _ (List.Perm.swap _ _ _))) ?_)
  refine zA ?_
  refine sY (pre := [_]) rfl rfl rfl (c94g hOk t f fst cap hkl hil (fun own ho hk5 => hf own (by simp [kidsOf, *])) b4 b5 _ _ _ _ a0 (hOk _ _ h0)) rfl (sub2 2 3 rfl rfl) (fun u38 M38 D38 hv38 => ?_)
  obtain ⟨a38, v38, D38, hR38, rfl, ⟨A38, c38, B38, d38, rfl, rfl⟩, rfl⟩ := hv38
  refine zA (zF 0 (M' := HA.blk _ [_, _, _, _, _] _ :: _) rfl rfl rfl rfl si25 rfl rfl rfl ?_)
  refine oK 1 [6] rfl rfl ?_
  have e : TurnR Rl (shapeOf key) t a0 a38 v38 := by simp [TurnR, *]
  exact xL 0 Tryz.results54 rfl rfl ag25 ⟨a38, v38, _, e, rfl, ⟨_, _, _, _, rfl, rfl⟩, rfl⟩ (by repeat (first | exact List.nil_sublist _ | exact List.Sublist.refl _ | apply List.Sublist.cons)) (sub2 0 1 rfl rfl)
 refine rO 5 rfl (zM 2 rfl ag25 rfl rfl ?_)
 refine zA (zF 0 (M' := HA.blk _ [_, _, _, _, _] _ :: _) rfl rfl rfl rfl si25 rfl rfl rfl ?_)
 refine oK 1 [6] rfl rfl ?_
 have e : TurnR Rl (shapeOf key) t a0 a0 t := by simp [TurnR, *]
 exact xL 0 Tryz.results54 rfl rfl ag25 ⟨a0, t, _, e, rfl, ⟨_, _, _, _, rfl, rfl⟩, rfl⟩ (by repeat (first | exact List.nil_sublist _ | exact List.Sublist.refl _ | apply List.Sublist.cons)) (sub2 2 3 rfl rfl)
abbrev KS := Option Addr × Nat × List Value × List V
def XK (b : Nat) (a : KS) : List HA := [.blk b [.slice a.1 a.2.2.2.length a.2.1] 23, .row a.1 a.2.2.2.length a.2.1 25 5 a.2.2.1]
def DK (a : KS) : DA := .its a.2.2.1 a.2.2.2
def OkK (k : Nat) (a : KS) : Prop := a.2.2.2.length + k ≤ 1000000
def RlK (own : V) (a a' : KS) (v : V) : Prop := a'.2.2.2 = a.2.2.2 ++ [own] ∧ v = own
theorem okK (k : Nat) (a : KS) (h : OkK (k + 1) a) : OkK k a := by unfold OkK at *; omega
theorem foldK {a0 a : KS} {l l' : List V} (h : FoldR RlK a0 l a l') : a.2.2.2 = a0.2.2.2 ++ l.filter (fun x => decide (x.kind = 5)) := by
  induction h with
  | nil => simp
  | pos h hk hr ih => rw [hr.1, ih, List.filter_append]; simp [hk]
  | neg h hk ih => rw [ih, List.filter_append]; simp [hk]
theorem turnK {sh : Int} {t : V} {a a' : KS} {v : V} (h : TurnR RlK sh t a a' v) : a'.2.2.2 = a.2.2.2 ++ kidsOf sh t := by
 have al : AllR RlK t a a' v → a'.2.2.2 = a.2.2.2 ++ t.items.filter (fun x => decide (x.kind = 5)) := fun ⟨ts, h, _⟩ => foldK h
 unfold TurnR at h
 unfold kidsOf
 split at h
 ·rename_i h5; rw [if_pos h5]; exact h.1
 rename_i h5; rw [if_neg h5]
 split at h
 ·rename_i h6
  rw [if_pos h6]
  split at h
  ·rename_i hk; rw [if_pos hk]; exact h.1
  ·rename_i hk; rw [if_neg hk, h.1]; simp
 rename_i h6; rw [if_neg h6]
 split at h
 ·rename_i h7
  rw [if_pos h7]
  split at h
  ·rename_i hk; rw [if_pos hk]; exact h.1
  ·rename_i hk; rw [if_neg hk]; exact al h
 rename_i h7; rw [if_neg h7]
 split at h
 ·rename_i h9; rw [if_pos h9]; exact al h
 ·rename_i h9; rw [if_neg h9, h.1]; simp
theorem c112 (b3 : Nat) (own : V) : FnR (XK b3) DK OkK RlK 112 #[] #[ptr b3] own := by
 intro k a x hO
 obtain ⟨A, ca, xs, out⟩ := a
 have hO : out.length + (k + 1) ≤ 1000000 := hO
 change Ct Tryz.prog 112 #[x, ptr b3] [.blk b3 [.slice A out.length ca] 23, .row A out.length ca 25 5 xs] [.val x own, .its xs out] _
 refine Ct.of_run (args := [x, ptr b3]) Tryz.func112 (by kernel_rfl) rfl Tryz.ntmps112 rfl (fun c => ?_)
 refine yV 0 rfl (fun A1 c1 A2 c2 hx hsz hk1 hk2 hi1 hi2 => ?_)
 subst hx
 refine rO 3 rfl (yK rfl rfl rfl (fun b2 => ?_))
 refine zA (zS ze25 rfl (fun b3 => ?_))
 change RunOps _ _ _ _ _ _ _ _ (HA.blk _ [_, _, _, _, _] _ :: _) _
 refine oR 2 rfl (yU yJ ?_)
 refine tM 0 rfl wanted0 (yY 2 sc23 rfl rfl rfl) (tM 1 rfl wanted0 (pI 1 rfl ag25 rfl) ?_)
 refine tM 2 rfl wanted0 (st_lenSl sl23 rfl) (zP 3 (by decide +kernel) ?_)
 refine zQ (I2 := [[2, 1, 0]]) rfl wanted0 (by decide +kernel) (fun Kd hKd => ?_)
 refine zL sl23 rfl rfl rfl rfl rfl (fun b7 => ?_)
 refine hKd _ _ _ (vK (by repeat (first | exact List.nil_sublist _ | exact List.Sublist.refl _ | apply List.Sublist.cons)) sQ (zR)) (zP 4 (by decide +kernel) ?_)
 refine zQ (I2 := [[]]) rfl wanted0 (by decide +kernel) (fun Kd hKd => ?_)
 refine op_apd 4 0 sl23 (fun A8 c8 => ?_)
 refine hKd _ _ _ (zE (zR)) (any_grpG (zD 4 rfl (yM _)) ?_)
 refine tF (zD 4 rfl (yM _)) 5 (xO _ _ _ _) rfl wanted0 (by decide +kernel) (by decide +kernel) (by decide +kernel) rfl (st_idxRowL 0 sl23 rfl rfl rfl (by omega)) (uM (rs := [6, 7]) (by decide +kernel) (by simp) ?_)
 intro j hj
 simp only [List.mem_cons, List.not_mem_nil, or_false] at hj
 rcases hj with rfl | rfl
 ·refine zQ (I2 := [[], []]) rfl wanted0 (by decide +kernel) (fun Kd hKd => ?_)
  refine op_storeRow 4 rfl rfl rfl rfl rfl rfl si25 rfl (hKd _ _ _ (zE (zE (zR))) ?_)
  refine zP 7 (by decide +kernel) ?_
  refine zQ (I2 := [[], []]) rfl wanted0 (by decide +kernel) (fun Kd hKd => ?_)
  refine zF 3 (M' := [_, _, _, HA.blk _ [_] _, _]) rfl rfl rfl rfl si23 rfl rfl rfl (hKd _ _ _ (zE (zE (zR))) ?_)
  refine yH (by decide +kernel) (rO 3 rfl ?_)
  refine zM 2 rfl ag25 rfl rfl (zA ?_)
  refine zF 1 (M' := [_, HA.blk _ [_, _, _, _, _] _, _, _, _]) rfl rfl rfl rfl si25 rfl rfl rfl (oK 1 [3] rfl rfl ?_)
  refine wL 3 2 rfl rfl rfl ?_
  have e : out.length + 1 = (out ++ [own]).length := by simp
  rw [e]
  exact xL 1 Tryz.results112 rfl rfl ag25 ⟨(A8, c8, _, out ++ [own]), own, _, ⟨rfl, rfl⟩, (by show (out ++ [own]).length + k ≤ _; rw [← e]; omega), rfl, ⟨_, _, _, _, rfl, rfl⟩, rfl⟩ (by repeat (first | exact List.nil_sublist _ | exact List.Sublist.refl _ | apply List.Sublist.cons)) (sub2 3 0 rfl rfl)
 refine zQ (I2 := [[5], []]) rfl wanted0 (by decide +kernel) (fun Kd hKd => ?_)
 refine zF 3 (M' := [_, _, _, HA.blk _ [_] _, _]) rfl rfl rfl rfl si23 rfl rfl rfl ?_
 refine hKd _ _ _ (vY (by repeat (first | exact xX _ | exact yM _ | refine zD 0 rfl ?_ | refine zD 1 rfl ?_ | refine zD 2 rfl ?_ | refine zD 3 rfl ?_ | refine zD 4 rfl ?_ | refine zD 5 rfl ?_ | refine zD 6 rfl ?_ | refine zD 7 rfl ?_ | refine zD 8 rfl ?_ | refine tN ?_)) sQ (zE (zR))) ?_
 refine zP 6 (by decide +kernel) ?_
 refine zQ (I2 := [[], []]) rfl wanted0 (by decide +kernel) (fun Kd hKd => ?_)
 refine op_storeRow 4 rfl rfl rfl rfl rfl rfl si25 rfl (hKd _ _ _ (zE (zE (zR))) ?_)
 refine yH (by decide +kernel) (rO 3 rfl ?_)
 refine zM 2 rfl ag25 rfl rfl (zA ?_)
 refine zF 1 (M' := [_, HA.blk _ [_, _, _, _, _] _, _, _, _]) rfl rfl rfl rfl si25 rfl rfl rfl (oK 1 [3] rfl rfl ?_)
 refine wL 3 2 rfl rfl rfl ?_
 have e : out.length + 1 = (out ++ [own]).length := by simp
 rw [e]
 exact xL 1 Tryz.results112 rfl rfl ag25 ⟨(A8, c8, _, out ++ [own]), own, _, ⟨rfl, rfl⟩, (by show (out ++ [own]).length + k ≤ _; rw [← e]; omega), rfl, ⟨_, _, _, _, rfl, rfl⟩, rfl⟩ (by repeat (first | exact List.nil_sublist _ | exact List.Sublist.refl _ | apply List.Sublist.cons)) (sub2 3 0 rfl rfl)
def kidsTo (v : V) (i : Nat) : List V := ((v.keys.zip v.items).take i).flatMap (fun p => kidsOf (shapeOf p.1) p.2)
theorem kidsTo_step {v : V} {i : Nat} (h1 : i < v.keys.length) (h2 : i < v.items.length) : kidsTo v (i + 1) = kidsTo v i ++ kidsOf (shapeOf v.keys[i]) v.items[i] := by
 unfold kidsTo
 rw [List.take_add_one, (by rw [List.getElem?_zip_eq_some]; exact ⟨List.getElem?_eq_getElem h1, List.getElem?_eq_getElem h2⟩ : (v.keys.zip v.items)[i]? = some (v.keys[i], v.items[i])), List.flatMap_append]
 simp
theorem kidsTo_all {v : V} {i : Nat} (h : v.keys.length ≤ i) : kidsTo v i = kidsV v := by
 unfold kidsTo kidsV
 rw [List.take_of_length_le (by rw [List.length_zip]; omega)]
theorem kidsOf_len (sh : Int) (x : V) : (kidsOf sh x).length ≤ x.items.length + 1 := by
 have := List.length_filter_le (fun x : V => decide (x.kind = 5)) x.items
 unfold kidsOf
 (repeat' split) <;> simp <;> omega
theorem kidsTo_len {v : V} (hp : Pl v) (i : Nat) (h1 : i ≤ v.keys.length) (h2 : v.keys.length ≤ v.items.length) : (kidsTo v i).length ≤ 61 * i := by
  induction i with
  | zero => simp [kidsTo]
  | succ i ih =>
    rw [kidsTo_step (by omega) (by omega), List.length_append]
    have := ih (by omega)
    have h3 := kidsOf_len (shapeOf (v.keys[i]'(by omega))) (v.items[i]'(by omega))
    have h4 := (hp.item _ (List.getElem_mem (by omega : i < v.items.length))).len
    omega
theorem find_get {z : V} {key : ByteArray} (h : z.keys.length ≤ z.items.length) : (0 ≤ findI z.keys key) ↔ (getV z key).isSome = true := by
 rcases sR z.keys key with h1 | ⟨i, h1, h2⟩
 ·rw [getV_no (by omega), h1]; simp
 ·rw [qP h1 (by omega), h1]; simp
theorem deep_not {p : V → Prop} {v : V} (h : p v) : ¬ DeepV (fun z => ¬ p z) v := fun hd => ((deep_iff _ _).1 hd).1 h
theorem deep_kid {p : V → Prop} {v z : V} (hz : z ∈ kidsV v) (h : ¬ DeepV (fun z => ¬ p z) z) : ¬ DeepV (fun z => ¬ p z) v := fun hd => h (((deep_iff _ _).1 hd).2 z hz)
theorem c69 (v : V) (x : Value) (hp : Pl v) : CtR Tryz.prog 69 #[x] [.val x v] (fun u D' => ∃ A c, u = .slice A (kidsV v).length c ∧ D' = [.vals u (kidsV v)]) := by
 refine Ct.of_run (args := [x]) Tryz.func69 (by kernel_rfl) rfl Tryz.ntmps69 rfl (fun c => ?_)
 refine yV 0 rfl (fun A1 c1 A2 c2 hx hsz hk1 hk2 hi1 hi2 => ?_)
 subst hx
 unfold maxLen at hi2 hk2
 have hw := hp.wf
 have hkl := hw.kl
 have hil := hw.il
 have hlen := hw.le
 have h60 := hp.len
 refine rO 3 rfl (yK rfl rfl rfl (fun b1 => ?_))
 refine oO 6 rfl (vF sl23 rfl (fun b6 => ?_))
 refine zA (zS ze23 rfl (fun b3 => ?_))
 change RunOps _ _ _ _ _ _ _ _ (HA.blk _ [_] _ :: _) _
 refine zA (zF 0 (M' := [HA.blk _ [_] _, _, _]) rfl rfl rfl rfl si23 rfl rfl rfl ?_)
 refine oO 5 rfl (zB xP rfl rfl ?_)
 refine zA (zI 2 sc22 rfl rfl rfl rfl ?_)
 refine zA (zW sl22 rfl rfl ?_)
 refine oK 4 [10, 9, 8, 3, 1] rfl rfl (sP ?_)
 refine yX 1 (fun (⟨i, A, ca, xs, out⟩ : Nat × Option Addr × Nat × List Value × List V) => i ≤ v.keys.length ∧ out = kidsTo v i) (fun (⟨i, A, ca, xs, out⟩ : Nat × Option Addr × Nat × List Value × List V) => [(10, .int .i64 ((i : Nat) : Int))]) (fun (⟨i, A, ca, xs, out⟩ : Nat × Option Addr × Nat × List Value × List V) => HA.blk b3 [.slice A out.length ca] 23 :: HA.row A out.length ca 25 5 xs :: HA.blk b1 [.int .i64 v.kind, .int .i64 v.num, .string v.text, .slice A1 v.keys.length c1, .slice A2 v.items.length c2] 25 :: []) (fun (⟨i, A, ca, xs, out⟩ : Nat × Option Addr × Nat × List Value × List V) => .its xs out :: .strs (.slice A1 v.keys.length c1) v.keys :: .vals (.slice A2 v.items.length c2) v.items :: .val (.agg #[.int .i64 v.kind, .int .i64 v.num, .string v.text, .slice A1 v.keys.length c1, .slice A2 v.items.length c2]) v :: []) (fun (⟨i, A, ca, xs, out⟩ : Nat × Option Addr × Nat × List Value × List V) => v.keys.length - i) (0, some ⟨b6, 0, none⟩, 0, [], []) (⟨Nat.zero_le _, rfl⟩) (eC rfl (eN _)) rfl rfl ?_ (eC rfl (eC rfl (eC rfl (eC rfl (eN _)))))
 intro ⟨i, A, ca, xs, out⟩ hI K hK
 change Run _ _ _ _ _ [(10, _), (9, _), (8, _), (3, _), (1, _)] [_, _, _] [_, _, _, _]
 obtain ⟨hi, ho⟩ := hI
 have hol : out.length ≤ 61 * i := by rw [ho]; exact kidsTo_len hp i hi hlen
 refine rO 3 rfl (yO rfl rfl rfl ?_)
 refine oR 2 rfl (zK rfl (fun h11 => ?_) (fun h11 => ?_))
 ·refine rO 8 rfl (xQ 1 sl22 rfl rfl rfl rfl h11 ?_)
  have hlt : i < v.items.length := by omega
  refine zA (yF sc9 rfl rfl (fun _ h => xD h (j := 1) rfl (List.getElem?_eq_getElem h11)) ?_)
  refine oO 9 rfl (zB yZ rfl rfl ?_)
  refine zA (zI 2 sc23 rfl rfl rfl rfl ?_)
  refine oO 3 rfl (wD 2 sl23 rfl rfl rfl rfl hlt ?_)
  refine zA (xY 2 ag25 rfl rfl rfl (List.getElem?_eq_getElem hlt) (fun A20 c20 B20 d20 => ?_))
  refine zA (rA rfl rfl rfl ?_)
  refine zA ?_
  have hpi := hp.item _ (List.getElem_mem hlt)
  have hli := hpi.len
  refine tR (M1 := [_, _]) rfl rfl rfl (c54g okK (v.keys[i]'h11) (v.items[i]'hlt) _ 112 #[] #[ptr b3] hpi.wf.kl hpi.wf.il (fun own _ => c112 b3 own) (A, ca, xs, out) (by show out.length + _ ≤ 1000000; omega)) rfl (sub2 0 1 rfl rfl) (fun u22 M22 D22 hv22 => ?_)
  obtain ⟨⟨A22, ca22, xs22, out22⟩, v22, D22, hT, rfl, ⟨A23, c23, B23, d23, rfl, rfl⟩, rfl⟩ := hv22
  have hout : out22 = out ++ kidsOf (shapeOf v.keys[i]) v.items[i] := turnK hT
  refine oK 1 [10, 9, 8, 3, 1] rfl rfl (rO 3 rfl ?_)
  refine yC rfl rfl (by omega) (oR 3 rfl ?_)
  exact kQ (hK (i + 1, A22, ca22, xs22, out22) (⟨by show i + 1 ≤ _; omega, by rw [hout, ho, kidsTo_step h11 hlt]⟩) (by show v.keys.length - (i + 1) < v.keys.length - i; omega)) (eC rfl (eC rfl (eC rfl (eC rfl (eC rfl (eN _)))))) (hD := (by intro d hd; refine (List.mem_cons.1 hd).elim (fun e => e ▸ (by (repeat (first | exact List.mem_cons_self | apply List.mem_cons_of_mem)))) (fun hd => ?_); repeat (first | exact hd | apply List.mem_cons_of_mem)))
 obtain rfl : i = v.keys.length := by omega
 have hov : out = kidsV v := by rw [ho]; exact kidsTo_all (Nat.le_refl _)
 refine rO 4 rfl (zI 0 sc23 rfl rfl rfl rfl ?_)
 refine oR 3 rfl (tI 1 0 out rfl rfl (by intro b h; cases h) rfl ?_)
 subst hov
 exact zC Tryz.results69 rfl ⟨rfl, A, ca, rfl, rfl⟩ nS (sub1 0 rfl)
theorem c70 (f : FuncId) (p : V → Prop) (hf : ∀ z, Pl z → ∀ y, CtV Tryz.prog f #[y] [.val y z] (.bool (tb (p z)))) (v : V) : Pl v → ∀ x, CtV Tryz.prog 70 #[x, .func (.func f) #[] #[]] [.val x v] (.bool (tb (¬ DeepV (fun z => ¬ p z) v))) := by
 refine V.indS (p := fun v => Pl v → ∀ x, CtV Tryz.prog 70 #[x, .func (.func f) #[] #[]] [.val x v] (.bool (tb (¬ DeepV (fun z => ¬ p z) v)))) ?_ v
 intro v IH hp x
 refine Ct.of_run (args := [x, .func (.func f) #[] #[]]) Tryz.func70 (by kernel_rfl) rfl Tryz.ntmps70 rfl (fun c => ?_)
 refine yV 0 rfl (fun A1 c1 A2 c2 hx hsz hk1 hk2 hi1 hi2 => ?_)
 subst hx
 unfold maxLen at hi2 hk2
 refine rO 3 rfl (yK rfl rfl rfl (fun b2 => ?_))
 refine oO 9 rfl (zM 0 rfl ag25 rfl rfl ?_)
 refine zA (zJ rfl rfl rfl (hf v hp _) (sub1 2 rfl) ?_)
 refine yB (yG rfl (fun h9 => ?_) (fun h9 => ?_))
 ·refine rR 5 rfl ?_
  exact zC Tryz.results70 rfl ⟨congrArg Value.bool (tb_t (deep_not (yI.1 h9))).symm, rfl, rfl⟩ nS (fun _ h => by cases h)
 refine rO 5 rfl (zM 0 rfl ag25 rfl rfl ?_)
 refine zA (zO rfl rfl rfl (c69 v _ hp) (sub1 2 rfl) (fun u11 D11 hv11 => ?_))
 obtain ⟨A11, c11, rfl, rfl⟩ := hv11
 refine zA (zW sl23 rfl rfl ?_)
 refine oK 4 [13, 12, 11, 1] rfl rfl ?_
 refine uZ (p := (kidsV v).length ≤ 9223372036854775807) (fun w ok h => by obtain ⟨A, c, hv, h1, h2, _⟩ : ValsP w ok (.slice A11 (kidsV v).length c11) (kidsV v) := dget h 0 rfl; unfold maxLen at h2; omega) (fun hkm => ?_)
 refine yS 1 (fun (i : Nat) => i ≤ (kidsV v).length ∧ ∀ j z, (kidsV v)[j]? = some z → j < i → DeepV (fun z => ¬ p z) z) (fun (i : Nat) => [(13, .int .i64 ((i : Nat) : Int))]) (fun (i : Nat) => (kidsV v).length - i) 0 (⟨Nat.zero_le _, fun _ _ _ h => absurd h (by omega)⟩) (eC rfl (eN _)) ?_ (eC rfl (eC rfl (eC rfl (eN _))))
 intro i hI K hK
 change Run _ _ _ _ _ [(13, _), (12, _), (11, _), (1, _)] _ _
 obtain ⟨hi, hno⟩ := hI
 refine rO 3 rfl (yO rfl rfl rfl ?_)
 refine oR 2 rfl (zK rfl (fun h14 => ?_) (fun h14 => ?_))
 ·refine rO 6 rfl ?_
  have hzm := List.getElem_mem h14
  refine wD 0 sl23 rfl rfl rfl rfl h14 (zA ?_)
  refine xY 0 ag25 rfl rfl rfl (List.getElem?_eq_getElem h14) (fun A16 c16 B16 d16 => ?_)
  refine zA (zS ze25 rfl (fun b6 => ?_))
  change RunOps _ _ _ _ _ _ _ _ (HA.blk _ [_, _, _, _, _] _ :: _) _
  refine zA (zF 0 (M' := [HA.blk _ [_, _, _, _, _] _, _]) rfl rfl rfl rfl si25 rfl rfl rfl ?_)
  refine oO 4 rfl (zM 0 rfl ag25 rfl rfl ?_)
  refine oO 3 rfl (zJ rfl rfl rfl (IH _ (qZ hzm) (kid_pl hp hzm) _) (sub1 0 rfl) ?_)
  refine yB (yG rfl (fun h19 => ?_) (fun h19 => ?_))
  ·refine rK 5 [4] rfl rfl ?_
   exact zC Tryz.results70 rfl ⟨congrArg Value.bool (tb_t (deep_kid hzm (yI.1 h19))).symm, rfl, rfl⟩ nS (fun _ h => by cases h)
  refine rO 4 rfl (yC rfl rfl (by omega) ?_)
  refine oR 3 rfl ?_
  exact kQ (hK (i + 1) (⟨by omega, all_step hno h14 (Classical.not_not.1 (xR.1 h19))⟩) (by omega))
 refine rR 6 rfl ?_
 exact zC Tryz.results70 rfl ⟨congrArg Value.bool (tb_f (fun hn => hn ((deep_iff _ _).2 ⟨xR.1 h9, all_end (by omega) hno⟩))).symm, rfl, rfl⟩ nS (fun _ h => by cases h)
def OkN (b : UInt8) : Prop := (97 ≤ b.toNat ∧ b.toNat ≤ 122) ∨ (65 ≤ b.toNat ∧ b.toNat ≤ 90) ∨ (48 ≤ b.toNat ∧ b.toNat ≤ 57)
def IsName (s : ByteArray) : Prop := (∀ j (h : j < s.size), OkN s[j]) ∧ s ≠ ⟨#[]⟩
theorem allP {p : UInt8 → Prop} {s : ByteArray} {i : Nat} (h : ∀ j (h : j < s.size), j < i → p s[j]) (hi : i < s.size) (h0 : p s[i]) : ∀ j (h : j < s.size), j < i + 1 → p s[j] := fun j hj hlt => by
  rcases Nat.lt_or_ge j i with h1 | h1
  · exact h j hj h1
  · have : j = i := by omega
    subst this
    exact h0

theorem c113 (s : ByteArray) (hs : s.size ≤ maxLen) : CtV Tryz.prog 113 #[.string s] [] (.bool (tb (IsName s))) := by
 refine Ct.of_run (args := [.string s]) Tryz.func113 (by kernel_rfl) rfl Tryz.ntmps113 rfl (fun c => ?_)
 unfold maxLen at hs
 refine rK 12 [3, 0] rfl rfl ?_
 refine yS 1 (fun (i : Nat) => i ≤ s.size ∧ ∀ j (h : j < s.size), j < i → OkN s[j]) (fun (i : Nat) => [(3, .int .i64 ((i : Nat) : Int))]) (fun (i : Nat) => s.size - i) 0 (⟨by omega, fun _ _ h => absurd h (by omega)⟩) (eC rfl (eN _)) ?_ (eC rfl (eN _))
 intro i hI K hK
 change Run _ _ _ _ _ [(3, _), (0, _)] _ _
 obtain ⟨hi, hno⟩ := hI
 refine rO 8 rfl (xC st9 rfl rfl ?_)
 refine zA (yO rfl rfl rfl ?_)
 refine yB (zK rfl (fun h8 => ?_) (fun h8 => ?_))
 ·refine rO 10 rfl (vD st9 rfl rfl rfl (by omega) ?_)
  refine oO 8 rfl (wF rfl rfl rfl ?_)
  refine oS 2 rfl (zX (s := 16) rfl (fun h16 => ?_) (fun h16 => ?_))
  ·refine oO 9 rfl (wF rfl rfl rfl ?_)
   refine oS 2 rfl (zX (s := 23) rfl (fun h23 => ?_) (fun h23 => ?_))
   ·refine oO 11 rfl (wF rfl rfl rfl ?_)
    refine oS 2 rfl (zX (s := 31) rfl (fun h31 => ?_) (fun h31 => ?_))
    ·refine oK 7 [35, 3, 0] rfl rfl (rR 6 rfl ?_)
     exact zC Tryz.results113 rfl ⟨zT (by simp only [Bool.false_eq_true, false_iff]; intro h; have := h.1 i h8; unfold OkN at this; (try simp only [decide_eq_true_eq, decide_eq_false_iff_not, ne_eq, Decidable.not_not] at *); omega), rfl, rfl⟩ nS (fun _ h => by cases h)
    refine oO 3 rfl (xU rfl rfl rfl ?_)
    refine oK 5 [35, 3, 0] rfl rfl (yG rfl (fun h35 => ?_) (fun h35 => ?_))
    ·refine rR 5 rfl ?_
     exact zC Tryz.results113 rfl ⟨zT (by simp only [Bool.false_eq_true, false_iff]; intro h; have := h.1 i h8; unfold OkN at this; (try simp only [decide_eq_true_eq, decide_eq_false_iff_not, ne_eq, Decidable.not_not] at *); omega), rfl, rfl⟩ nS (fun _ h => by cases h)
    refine rO 6 rfl (yC rfl rfl (by omega) ?_)
    refine oR 3 rfl ?_
    exact kQ (hK (i + 1) (⟨by omega, allP hno (hi := h8) (by unfold OkN; (try simp only [decide_eq_true_eq, decide_eq_false_iff_not, ne_eq, Decidable.not_not] at *); omega)⟩) (by omega))
   refine oO 3 rfl (xU rfl rfl rfl ?_)
   refine oS 6 rfl (zX (s := 28) rfl (fun h28 => ?_) (fun h28 => ?_))
   ·refine oO 3 rfl (wF rfl rfl rfl ?_)
    refine oS 2 rfl (zX (s := 31) rfl (fun h31 => ?_) (fun h31 => ?_))
    ·refine oK 7 [35, 3, 0] rfl rfl (rR 6 rfl ?_)
     exact zC Tryz.results113 rfl ⟨zT (by simp only [Bool.false_eq_true, false_iff]; intro h; have := h.1 i h8; unfold OkN at this; (try simp only [decide_eq_true_eq, decide_eq_false_iff_not, ne_eq, Decidable.not_not] at *); omega), rfl, rfl⟩ nS (fun _ h => by cases h)
    refine oO 3 rfl (xU rfl rfl rfl ?_)
    refine oK 5 [35, 3, 0] rfl rfl (yG rfl (fun h35 => ?_) (fun h35 => ?_))
    ·refine rR 5 rfl ?_
     exact zC Tryz.results113 rfl ⟨zT (by simp only [Bool.false_eq_true, false_iff]; intro h; have := h.1 i h8; unfold OkN at this; (try simp only [decide_eq_true_eq, decide_eq_false_iff_not, ne_eq, Decidable.not_not] at *); omega), rfl, rfl⟩ nS (fun _ h => by cases h)
    refine rO 6 rfl (yC rfl rfl (by omega) ?_)
    refine oR 3 rfl ?_
    exact kQ (hK (i + 1) (⟨by omega, allP hno (hi := h8) (by unfold OkN; (try simp only [decide_eq_true_eq, decide_eq_false_iff_not, ne_eq, Decidable.not_not] at *); omega)⟩) (by omega))
   refine oS 3 rfl (yP rfl rfl rfl ?_)
   refine yP rfl rfl rfl (oK 4 [35, 3, 0] rfl rfl ?_)
   refine rO 7 rfl (yC rfl rfl (by omega) ?_)
   refine oR 3 rfl ?_
   exact kQ (hK (i + 1) (⟨by omega, allP hno (hi := h8) (by unfold OkN; (try simp only [decide_eq_true_eq, decide_eq_false_iff_not, ne_eq, Decidable.not_not] at *); omega)⟩) (by omega))
  refine oO 3 rfl (xU rfl rfl rfl ?_)
  refine oS 4 rfl (zX (s := 20) rfl (fun h20 => ?_) (fun h20 => ?_))
  ·refine oO 3 rfl (wF rfl rfl rfl ?_)
   refine oS 2 rfl (zX (s := 23) rfl (fun h23 => ?_) (fun h23 => ?_))
   ·refine oO 11 rfl (wF rfl rfl rfl ?_)
    refine oS 2 rfl (zX (s := 31) rfl (fun h31 => ?_) (fun h31 => ?_))
    ·refine oK 7 [35, 3, 0] rfl rfl (rR 6 rfl ?_)
     exact zC Tryz.results113 rfl ⟨zT (by simp only [Bool.false_eq_true, false_iff]; intro h; have := h.1 i h8; unfold OkN at this; (try simp only [decide_eq_true_eq, decide_eq_false_iff_not, ne_eq, Decidable.not_not] at *); omega), rfl, rfl⟩ nS (fun _ h => by cases h)
    refine oO 3 rfl (xU rfl rfl rfl ?_)
    refine oK 5 [35, 3, 0] rfl rfl (yG rfl (fun h35 => ?_) (fun h35 => ?_))
    ·refine rR 5 rfl ?_
     exact zC Tryz.results113 rfl ⟨zT (by simp only [Bool.false_eq_true, false_iff]; intro h; have := h.1 i h8; unfold OkN at this; (try simp only [decide_eq_true_eq, decide_eq_false_iff_not, ne_eq, Decidable.not_not] at *); omega), rfl, rfl⟩ nS (fun _ h => by cases h)
    refine rO 6 rfl (yC rfl rfl (by omega) ?_)
    refine oR 3 rfl ?_
    exact kQ (hK (i + 1) (⟨by omega, allP hno (hi := h8) (by unfold OkN; (try simp only [decide_eq_true_eq, decide_eq_false_iff_not, ne_eq, Decidable.not_not] at *); omega)⟩) (by omega))
   refine oO 3 rfl (xU rfl rfl rfl ?_)
   refine oS 6 rfl (zX (s := 28) rfl (fun h28 => ?_) (fun h28 => ?_))
   ·refine oO 3 rfl (wF rfl rfl rfl ?_)
    refine oS 2 rfl (zX (s := 31) rfl (fun h31 => ?_) (fun h31 => ?_))
    ·refine oK 7 [35, 3, 0] rfl rfl (rR 6 rfl ?_)
     exact zC Tryz.results113 rfl ⟨zT (by simp only [Bool.false_eq_true, false_iff]; intro h; have := h.1 i h8; unfold OkN at this; (try simp only [decide_eq_true_eq, decide_eq_false_iff_not, ne_eq, Decidable.not_not] at *); omega), rfl, rfl⟩ nS (fun _ h => by cases h)
    refine oO 3 rfl (xU rfl rfl rfl ?_)
    refine oK 5 [35, 3, 0] rfl rfl (yG rfl (fun h35 => ?_) (fun h35 => ?_))
    ·refine rR 5 rfl ?_
     exact zC Tryz.results113 rfl ⟨zT (by simp only [Bool.false_eq_true, false_iff]; intro h; have := h.1 i h8; unfold OkN at this; (try simp only [decide_eq_true_eq, decide_eq_false_iff_not, ne_eq, Decidable.not_not] at *); omega), rfl, rfl⟩ nS (fun _ h => by cases h)
    refine rO 6 rfl (yC rfl rfl (by omega) ?_)
    refine oR 3 rfl ?_
    exact kQ (hK (i + 1) (⟨by omega, allP hno (hi := h8) (by unfold OkN; (try simp only [decide_eq_true_eq, decide_eq_false_iff_not, ne_eq, Decidable.not_not] at *); omega)⟩) (by omega))
   refine oS 3 rfl (yP rfl rfl rfl ?_)
   refine yP rfl rfl rfl (oK 4 [35, 3, 0] rfl rfl ?_)
   refine rO 7 rfl (yC rfl rfl (by omega) ?_)
   refine oR 3 rfl ?_
   exact kQ (hK (i + 1) (⟨by omega, allP hno (hi := h8) (by unfold OkN; (try simp only [decide_eq_true_eq, decide_eq_false_iff_not, ne_eq, Decidable.not_not] at *); omega)⟩) (by omega))
  refine oS 3 rfl (yP rfl rfl rfl ?_)
  refine yP rfl rfl rfl (oS 8 rfl ?_)
  refine yP rfl rfl rfl (yP rfl rfl rfl ?_)
  refine oK 4 [35, 3, 0] rfl rfl (rO 7 rfl ?_)
  refine yC rfl rfl (by omega) (oR 3 rfl ?_)
  exact kQ (hK (i + 1) (⟨by omega, allP hno (hi := h8) (by unfold OkN; (try simp only [decide_eq_true_eq, decide_eq_false_iff_not, ne_eq, Decidable.not_not] at *); omega)⟩) (by omega))
 refine rO 6 rfl (op_sneq rfl rfl rfl ?_)
 refine oR 3 rfl ?_
 exact zC Tryz.results113 rfl ⟨zT (by simp only [decide_eq_true_eq, IsName]; exact ⟨fun h => ⟨fun j hj => hno j hj (by omega), h⟩, fun h => h.2⟩), rfl, rfl⟩ nS (fun _ h => by cases h)
end Go.Jw

namespace Go.Jw
open Go Go.RowKit
abbrev kHash : ByteArray := ⟨#[35]⟩
abbrev kSl : ByteArray := ⟨#[47]⟩
abbrev kDefs : ByteArray := ⟨#[100, 101, 102, 105, 110, 105, 116, 105, 111, 110, 115]⟩
abbrev kProps : ByteArray := ⟨#[112, 114, 111, 112, 101, 114, 116, 105, 101, 115]⟩
def hdB (base part : ByteArray) : ByteArray := base ++ kSl ++ part ++ kSl
def nmB (ref base part : ByteArray) : ByteArray := ref.extract (hdB base part).size ref.size
def Mat (ref base part : ByteArray) : Prop := (hdB base part).size < ref.size ∧ ref.extract 0 (hdB base part).size = hdB base part ∧ IsName (nmB ref base part)
def heads (id : ByteArray) : List (ByteArray × ByteArray) := [(kHash, kDefs), (kHash, kProps), (id, kDefs), (id, kProps)]
noncomputable def idT (v : V) : ByteArray := ((getV v kId).getD zV).text
noncomputable def headOf (id ref : ByteArray) : Option (ByteArray × ByteArray) := (heads id).find? (fun p => tb (Mat ref p.1 p.2))
noncomputable def whereV (id ref : ByteArray) : Value := match headOf id ref with
  | some p => .tuple #[.string p.2, .string (nmB ref p.1 p.2), .bool true]
  | none => .tuple #[.string ⟨#[]⟩, .string ⟨#[]⟩, .bool false]
theorem heads_at {id base part : ByteArray} {i j : Nat} (hb : [kHash, id][i]? = some base) (hp : [kDefs, kProps][j]? = some part) : (heads id)[2 * i + j]? = some (base, part) ∧ i < 2 ∧ j < 2 := by
  match i, j, hb, hp with
  | 0, 0, hb, hp => cases hb; cases hp; exact ⟨rfl, by omega, by omega⟩
  | 0, 1, hb, hp => cases hb; cases hp; exact ⟨rfl, by omega, by omega⟩
  | 1, 0, hb, hp => cases hb; cases hp; exact ⟨rfl, by omega, by omega⟩
  | 1, 1, hb, hp => cases hb; cases hp; exact ⟨rfl, by omega, by omega⟩
  | _ + 2, _, hb, hp => simp at hb
  | 0, _ + 2, hb, hp => simp at hp
  | 1, _ + 2, hb, hp => simp at hp
def NoHead (id ref : ByteArray) (m : Nat) : Prop := ∀ q, q < m → ∀ p, (heads id)[q]? = some p → ¬ Mat ref p.1 p.2
theorem NoHead.zero (id ref : ByteArray) : NoHead id ref 0 := fun q hq => absurd hq (Nat.not_lt_zero _)
theorem NoHead.step {id ref : ByteArray} {m : Nat} {p : ByteArray × ByteArray} (h : NoHead id ref m) (hp : (heads id)[m]? = some p) (hn : ¬ Mat ref p.1 p.2) : NoHead id ref (m + 1) := fun q hq p' hp' => by
  rcases Nat.lt_or_ge q m with h1 | h1
  · exact h q h1 p' hp'
  · have : q = m := by omega
    subst this
    rw [hp] at hp'
    cases hp'
    exact hn
theorem find_first {α : Type} {p : α → Bool} : ∀ {l : List α} {m : Nat} {x : α}, (∀ q, q < m → ∀ y, l[q]? = some y → p y = false) → l[m]? = some x → p x = true → l.find? p = some x
  | [], m, x, _, h, _ => by simp at h
  | y :: l, 0, x, _, h, hx => by
    have : y = x := by simpa using h
    subst this
    simp [hx]
  | y :: l, m + 1, x, hno, h, hx => by
    have hy : p y = false := hno 0 (Nat.succ_pos _) y rfl
    rw [List.find?_cons, hy]
    exact find_first (m := m) (fun q hq z hz => hno (q + 1) (Nat.succ_lt_succ hq) z (by simpa using hz)) (by simpa using h) hx
theorem head_some {id ref : ByteArray} {m : Nat} {p : ByteArray × ByteArray} (h : NoHead id ref m) (hp : (heads id)[m]? = some p) (hm : Mat ref p.1 p.2) : headOf id ref = some p :=
 find_first (fun q hq y hy => tb_f (h q hq y hy)) hp (tb_t hm)
theorem head_none {id ref : ByteArray} (h : NoHead id ref 4) : headOf id ref = none := by
 unfold headOf
 rw [List.find?_eq_none]
 intro p hp
 obtain ⟨q, hq⟩ := List.getElem?_of_mem hp
 have hlt : q < 4 := by
  have := (List.getElem?_eq_some_iff.1 hq).1
  simpa [heads] using this
 rw [tb_f (h q hlt p hq)]
 decide
end Go.Jw

namespace Go.Jw
open Go Go.RowKit Go.Proofs
set_option maxRecDepth 8000
section rules
variable {P : Program} {n : Nat} {F : List Nat} {c : Ctx F} {ops : Array Oper} {d : Option Tmp} {op : Op} {T : TypeId} {l : List Oper} {k : List KI} {Q : Post} {e : Env} {M : List HA} {D : List DA}
theorem ops_strs2 (i : Nat) {b : Nat} {s t : ByteArray} {E : TypeId} (hi : M[i]? = some (.blk b [.string s, .string t] E)) (hF : F = []) (h1 : s.size ≤ maxLen) (h2 : t.size ≤ maxLen) (next : RunOps P n c ops l k Q e (M.eraseIdx i) (.strs (.slice (some ⟨b, 0, none⟩) 2 2) [s, t] :: D)) : RunOps P n c ops l k Q e M D :=
  ops_freeze (h := .blk b [.string s, .string t] E) [.strs (.slice (some ⟨b, 0, none⟩) 2 2) [s, t]] (fun x _ h => by rw [hF] at h; cases h) (wM hi) (fun w ok h hok hD d hd => by
    rcases List.mem_singleton.1 hd with rfl
    refine ⟨some ⟨b, 0, none⟩, 2, rfl, Nat.le_refl _, by decide, fun x hx => ?_, fun q x hx => ⟨⟨b, 0, none⟩, rfl, hok _ (by simp [HA.foot]), ?_⟩⟩
    · rcases List.mem_cons.1 hx with rfl | hx
      · exact h1
      · rw [List.mem_singleton.1 hx]; exact h2
    · rw [wG, vN h, Nat.zero_add, Nat.mul_one]
      match q, hx with
      | 0, hx => cases hx; rfl
      | 1, hx => cases hx; rfl
      | _ + 2, hx => simp at hx) next
end rules
theorem pl_text {v : V} (h : Pl v) : v.text.size ≤ 200 := by
  obtain ⟨d, h⟩ := h
  have h0 : (⟨#[]⟩ : ByteArray).size ≤ 200 := by decide
  have key : IsScal v.kind v.num v.text v.keys v.items → v.text.size ≤ 200 := fun h => by
    rcases h.2.2 with h | h | h | h | h
    · rw [h.2.2]; exact h0
    · rw [h.2.2]; exact h0
    · rw [h.2.2.2]; exact h0
    · rw [h.2.2.2.2]; exact h0
    · exact h.2.2.2
  cases d with
  | zero => exact key h
  | succ d =>
    rcases h with h | h
    · exact key h
    · rw [h.1.2.1]; exact h0
theorem id_size {v : V} (hp : Pl v) : ((getV v kId).getD zV).text.size ≤ 200 := by
  cases hg : getV v kId with
  | none => show zV.text.size ≤ 200; decide
  | some a => exact pl_text (hp.item _ (tY hg))

theorem mem_two {α : Type} {a b x : α} {i : Nat} (h : [a, b][i]? = some x) : x = a ∨ x = b := by have := List.mem_of_getElem? h; simpa using this
theorem c72 (v : V) (x : Value) (ref : ByteArray) (hp : Pl v) (hrf : ref.size ≤ maxLen) : CtV Tryz.prog 72 #[x, .string ref] [.val x v] (whereV (idT v) ref) := by
 refine Ct.of_run (args := [x, .string ref]) Tryz.func72 (by kernel_rfl) rfl Tryz.ntmps72 rfl (fun c => ?_)
 refine yV 0 rfl (fun A1 c1 A2 c2 hx hsz1 hk1 hk2 hi1 hi2 => ?_)
 subst hx
 have hlen := hp.wf.le
 unfold maxLen at hrf
 refine rO 3 rfl (yK rfl rfl rfl (fun b2 => ?_))
 refine oO 10 rfl (zM 0 rfl ag25 rfl rfl ?_)
 refine zA ?_
 refine zO rfl rfl rfl (c62v _ v kId hlen) (by first | exact sub1 0 rfl | exact sub1 1 rfl | exact sub1 2 rfl | exact sub1 3 rfl | exact sub1 4 rfl | exact sub1 5 rfl | exact sub1 6 rfl | exact sub1 7 rfl) (fun u16 D16 hv16 => ?_)
 obtain ⟨idv, hidv⟩ : ∃ z, z = (getV v kId).getD zV := ⟨_, rfl⟩
 rw [← hidv] at hv16
 obtain ⟨_, rfl, A16, m16, B16, d16, rfl, rfl⟩ := hv16
 refine oO 7 rfl (zS ze25 rfl (fun b7 => ?_))
 change RunOps _ _ _ _ _ _ _ _ (HA.blk _ [_, _, _, _, _] _ :: _) _
 refine zA (zF 0 (M' := [HA.blk _ [_, _, _, _, _] _, _]) rfl rfl rfl rfl si25 rfl rfl rfl ?_)
 refine oK 3 [7, 1] rfl rfl (rO 4 rfl ?_)
 refine zB sB rfl rfl (zA ?_)
 refine zI 0 sc9 rfl rfl rfl rfl (zA ?_)
 have hidz : idv.text.size ≤ 200 := hidv ▸ id_size hp
 refine tB sl22 rfl rfl rfl rfl rfl (fun b21 => ?_)
 refine ops_strs2 0 rfl rfl (by decide) (by unfold maxLen; omega) (zA ?_)
 refine zW sl22 rfl rfl (oK 4 [23, 22, 21, 1] rfl rfl ?_)
 refine yS 1 (fun (i : Nat) => i ≤ 2 ∧ NoHead idv.text ref (2 * i)) (fun (i : Nat) => [(23, .int .i64 ((i : Nat) : Int))]) (fun (i : Nat) => 2 - i) 0 (⟨by omega, NoHead.zero _ _⟩) (eC rfl (eN _)) ?_ (eC rfl (eC rfl (eC rfl (eN _))))
 intro i hI K hK
 change Run _ _ _ _ _ [(23, _), (22, _), (21, _), (1, _)] _ _
 obtain ⟨hi, hno⟩ := hI
 refine rO 3 rfl (yO rfl rfl rfl ?_)
 refine oR 2 rfl (zK rfl (fun h24 => ?_) (fun h24 => ?_))
 ·refine rO 6 rfl ?_
  obtain ⟨base, hb⟩ : ∃ base, [kHash, idv.text][i]? = some base := ⟨_, List.getElem?_eq_getElem (show i < [kHash, idv.text].length from h24)⟩
  have hbz : base.size ≤ 200 := (mem_two hb).elim (fun e => e ▸ by decide) (fun e => e ▸ hidz)
  refine xQ 0 sl22 rfl rfl rfl rfl h24 (zA ?_)
  refine yF sc9 rfl rfl (fun _ h => xD h (j := 0) rfl hb) (oO 6 rfl ?_)
  refine tB sl22 rfl rfl rfl rfl rfl (fun b27 => ?_)
  refine ops_strs2 0 rfl rfl (by decide) (by decide) (zA ?_)
  refine zW sl22 rfl rfl (oK 4 [29, 28, 27, 10, 23, 22, 21, 1] rfl rfl ?_)
  refine yS 1 (fun (j : Nat) => j ≤ 2 ∧ NoHead idv.text ref (2 * i + j)) (fun (j : Nat) => [(29, .int .i64 ((j : Nat) : Int))]) (fun (j : Nat) => 2 - j) 0 (⟨by omega, hno⟩) (eC rfl (eN _)) ?_ (eC rfl (eC rfl (eC rfl (eC rfl (eC rfl (eC rfl (eC rfl (eN _))))))))
  intro j hI K hK1
  change Run _ _ _ _ _ [(29, _), (28, _), (27, _), (10, _), (23, _), (22, _), (21, _), (1, _)] _ _
  obtain ⟨hj, hnoj⟩ := hI
  refine rO 3 rfl (yO rfl rfl rfl ?_)
  refine oR 2 rfl (zK rfl (fun h30 => ?_) (fun h30 => ?_))
  ·refine rO 6 rfl ?_
   obtain ⟨part, hpt⟩ : ∃ part, [kDefs, kProps][j]? = some part := ⟨_, List.getElem?_eq_getElem (show j < [kDefs, kProps].length from h30)⟩
   obtain ⟨hh, _, _⟩ := heads_at hb hpt
   have hpz : part.size ≤ 11 := (mem_two hpt).elim (fun e => e ▸ by decide) (fun e => e ▸ by decide)
   refine xQ 0 sl22 rfl rfl rfl rfl h30 (zA ?_)
   refine yF sc9 rfl rfl (fun _ h => xD h (j := 0) rfl hpt) (oO 8 rfl ?_)
   refine op_sadd rfl rfl rfl (by show base.size + 1 ≤ _; omega) (oO 3 rfl ?_)
   refine op_sadd rfl rfl rfl (by rw [ByteArray.size_append]; show base.size + 1 + part.size ≤ _; omega) (zA ?_)
   refine op_sadd rfl rfl rfl (by rw [ByteArray.size_append, ByteArray.size_append]; show base.size + 1 + part.size + 1 ≤ _; omega) (oK 3 [13, 12, 29, 28, 27, 10, 23, 22, 21, 1] rfl rfl ?_)
   refine rO 5 rfl (xC st9 rfl rfl ?_)
   refine oO 3 rfl (xC st9 rfl rfl ?_)
   refine zA (op_gtrN rfl rfl rfl ?_)
   refine oS 2 rfl (zX (s := 43) rfl (fun h43 => ?_) (fun h43 => ?_))
   ·refine oO 5 rfl (xC st9 rfl rfl ?_)
    refine zH rfl rfl (op_sliceStrHi st9 rfl rfl rfl (by omega) ?_)
    refine oS 8 rfl (zX (s := 51) rfl (fun h51 => ?_) (fun h51 => ?_))
    ·refine oO 5 rfl (xC st9 rfl rfl ?_)
     refine zH rfl rfl (rM st9 rfl rfl rfl (by omega) ?_)
     refine zH rfl rfl (zJ rfl rfl rfl (c113 _ (by rw [ByteArray.size_extract]; unfold maxLen; omega)) sub0 ?_)
     refine oK 3 [57, 13, 12, 29, 28, 27, 10, 23, 22, 21, 1] rfl rfl (yG rfl (fun h57 => ?_) (fun h57 => ?_))
     ·refine run_seq (yU yJ ?_)
      refine zU (tP 0 rfl wanted0 (zY rfl) ?_)
      refine tP 1 rfl wanted0 (zY rfl) (tP 2 rfl wanted0 (zY rfl) ?_)
      refine tP 5 rfl wanted0 (xH rfl) (yD ?_)
      refine tM 3 rfl wanted0 (st_lenStr st9 rfl) (tM 4 rfl wanted0 (st_sliceStrLo st9 rfl rfl (by omega)) ?_)
      refine zU (tP 6 rfl wanted0 (xH rfl) ?_)
      refine tP 7 rfl wanted0 (xH rfl) (yH (by decide +kernel) ?_)
      refine rK 0 [6, 5, 4] rfl rfl ?_
      exact rT Tryz.results72 rfl rfl rfl ⟨by unfold whereV idT; rw [← hidv, head_some hnoj hh ⟨(by unfold hdB; omega), h51, yI.1 h57⟩]; rfl, rfl, rfl⟩ nS (fun _ h => by cases h)
     refine rO 4 rfl (yC rfl rfl (by omega) ?_)
     refine oR 3 rfl ?_
     exact kQ (hK1 (j + 1) (⟨by omega, hnoj.step hh (fun hm => Bool.noConfusion ((tb_t hm.2.2).symm.trans h57))⟩) (by omega))
    refine oK 8 [57, 13, 12, 29, 28, 27, 10, 23, 22, 21, 1] rfl rfl (rO 5 rfl ?_)
    refine yC rfl rfl (by omega) (oR 3 rfl ?_)
    exact kQ (hK1 (j + 1) (⟨by omega, hnoj.step hh (fun hm => h51 hm.2.1)⟩) (by omega))
   refine oK 18 [57, 13, 12, 29, 28, 27, 10, 23, 22, 21, 1] rfl rfl (rO 5 rfl ?_)
   refine yC rfl rfl (by omega) (oR 3 rfl ?_)
   exact kQ (hK1 (j + 1) (⟨by omega, hnoj.step hh (fun hm => absurd hm.1 (by unfold hdB; omega))⟩) (by omega))
  refine rO 4 rfl (yC rfl rfl (by omega) ?_)
  refine oR 3 rfl ?_
  exact kQ (hK (i + 1) (⟨by omega, (by have e : j = 2 := (by omega); subst e; exact hnoj)⟩) (by omega))
 refine rR 10 rfl ?_
 obtain rfl : i = 2 := by omega
 exact rT Tryz.results72 rfl rfl rfl ⟨by unfold whereV idT; rw [← hidv, head_none hno], rfl, rfl⟩ nS (fun _ h => by cases h)
theorem c72r (v : V) (x : Value) (ref : ByteArray) (hp : Pl v) (hrf : ref.size ≤ maxLen) : CtR Tryz.prog 72 #[x, .string ref] [.val x v] (fun u D' => ∃ part nm ok, u = .tuple #[.string part, .string nm, .bool ok] ∧ D' = [] ∧ (ok = true → ∃ p, headOf (idT v) ref = some p ∧ part = p.2 ∧ nm = nmB ref p.1 p.2) ∧ (ok = false → headOf (idT v) ref = none)) :=
  (c72 v x ref hp hrf).mono (fun u M' D' ⟨h1, h2, h3⟩ => ⟨h2, by
    subst h1
    unfold whereV
    cases hh : headOf (idT v) ref with
    | none => exact ⟨_, _, false, rfl, h3, fun h => Bool.noConfusion h, fun _ => rfl⟩
    | some p => exact ⟨_, _, true, rfl, h3, fun _ => ⟨p, rfl, rfl, rfl⟩, fun h => Bool.noConfusion h⟩⟩)
def IsRefV (v : V) (ref : ByteArray) : Prop := ∃ p, headOf (idT v) ref = some p ∧ (getV v p.2).isSome = true
noncomputable def PtV (v : V) (ref : ByteArray) : Option V := (headOf (idT v) ref).bind fun p => (getV v p.2).bind fun all => getV all (nmB ref p.1 p.2)
theorem get_z (key : ByteArray) : getV zV key = none := by
  cases h : getV zV key with
  | none => rfl
  | some a => have := tY h; cases this
theorem c34 (v : V) (x : Value) (ref : ByteArray) (hp : Pl v) (hrf : ref.size ≤ maxLen) : CtV Tryz.prog 34 #[x, .string ref] [.val x v] (.bool (tb (IsRefV v ref))) := by
 refine Ct.of_run (args := [x, .string ref]) Tryz.func34 (by kernel_rfl) rfl Tryz.ntmps34 rfl (fun c => ?_)
 refine yV 0 rfl (fun A1 c1 A2 c2 hx hsz1 hk1 hk2 hi1 hi2 => ?_)
 subst hx
 have hlen := hp.wf.le
 refine rO 3 rfl (yK rfl rfl rfl (fun b2 => ?_))
 refine oO 6 rfl (zM 0 rfl ag25 rfl rfl ?_)
 refine oO 3 rfl ?_
 refine zO rfl rfl rfl (c72r v _ ref hp hrf) (by first | exact sub1 0 rfl | exact sub1 1 rfl | exact sub1 2 rfl | exact sub1 3 rfl | exact sub1 4 rfl | exact sub1 5 rfl | exact sub1 6 rfl | exact sub1 7 rfl) (fun u13 D13 hv13 => ?_)
 obtain ⟨part, nm, ok, rfl, rfl, hyes, hnone⟩ := hv13
 refine oK 15 [7, 5, 2] rfl rfl (rO 3 rfl ?_)
 refine zM 0 rfl ag25 rfl rfl (oO 3 rfl ?_)
 refine zO rfl rfl rfl (c62v _ v part hlen) (by first | exact sub1 0 rfl | exact sub1 1 rfl | exact sub1 2 rfl | exact sub1 3 rfl | exact sub1 4 rfl | exact sub1 5 rfl | exact sub1 6 rfl | exact sub1 7 rfl) (fun u20 D20 hv20 => ?_)
 obtain ⟨_, rfl, A20, m20, B20, d20, rfl, rfl⟩ := hv20
 refine oO 7 rfl (zS ze25 rfl (fun b8 => ?_))
 change RunOps _ _ _ _ _ _ _ _ (HA.blk _ [_, _, _, _, _] _ :: _) _
 refine zA (zF 0 (M' := [HA.blk _ [_, _, _, _, _] _, _]) rfl rfl rfl rfl si25 rfl rfl rfl ?_)
 refine oK 3 [9, 7] rfl rfl (rS 6 rfl ?_)
 refine yA (s := 24) rfl (fun h24 => ?_) (fun h24 => ?_)
 ·refine oR 7 rfl ?_
  obtain ⟨p, hp1, rfl, rfl⟩ := hyes (by simpa using h24)
  exact zC Tryz.results34 rfl ⟨zT ⟨fun h => ⟨p, hp1, h⟩, fun ⟨q, hq, h⟩ => by rw [hp1] at hq; cases hq; exact h⟩, rfl, rfl⟩ nS (fun _ h => by cases h)
 refine oR 6 rfl ?_
 exact zC Tryz.results34 rfl ⟨zT (by simp only [Bool.false_eq_true, false_iff]; rintro ⟨q, hq, _⟩; rw [hnone (by simpa using h24)] at hq; cases hq), rfl, rfl⟩ nS (fun _ h => by cases h)
theorem c35 (v : V) (x : Value) (ref : ByteArray) (hp : Pl v) (hrf : ref.size ≤ maxLen) : CtR Tryz.prog 35 #[x, .string ref] [.val x v] (fun u D' => ∃ y, u = .tuple #[y, .bool (PtV v ref).isSome] ∧ RV ((PtV v ref).getD zV) y D') := by
 refine Ct.of_run (args := [x, .string ref]) Tryz.func35 (by kernel_rfl) rfl Tryz.ntmps35 rfl (fun c => ?_)
 refine yV 0 rfl (fun A1 c1 A2 c2 hx hsz1 hk1 hk2 hi1 hi2 => ?_)
 subst hx
 have hlen := hp.wf.le
 refine rO 3 rfl (yK rfl rfl rfl (fun b2 => ?_))
 refine zA (zS ze25 rfl (fun b4 => ?_))
 change RunOps _ _ _ _ _ _ _ _ (HA.blk _ [_, _, _, _, _] _ :: _) _
 refine oO 6 rfl (zM 1 rfl ag25 rfl rfl ?_)
 refine oO 3 rfl ?_
 refine zO rfl rfl rfl (c72r v _ ref hp hrf) (by first | exact sub1 0 rfl | exact sub1 1 rfl | exact sub1 2 rfl | exact sub1 3 rfl | exact sub1 4 rfl | exact sub1 5 rfl | exact sub1 6 rfl | exact sub1 7 rfl) (fun u14 D14 hv14 => ?_)
 obtain ⟨part, nm, ok, rfl, rfl, hyes, hnone⟩ := hv14
 refine oK 15 [8, 7, 6, 4, 2] rfl rfl (rR 8 rfl ?_)
 refine yG rfl (fun h19 => ?_) (fun h19 => ?_)
 ·refine rO 3 rfl (yQ rfl rfl (bu25 ..) ?_)
  refine zA (zF 0 (M' := [HA.blk _ [_, _, _, _, _] _, _]) rfl rfl rfl rfl si25 rfl rfl rfl ?_)
  refine oR 3 rfl ?_
  have hpt : PtV v ref = none := by unfold PtV; rw [hnone (by simpa using h19)]; rfl
  refine vW (M' := [HA.blk b4 [_, _, _, _, _] 25]) (by repeat (first | exact yM _ | refine zD 0 rfl ?_ | refine zD 1 rfl ?_ | refine zD 2 rfl ?_ | refine zD 3 rfl ?_ | refine zD 4 rfl ?_)) ?_
  refine yL (.val (.agg #[.int .i64 0, .int .i64 0, .string ⟨#[]⟩, .slice none 0 0, .slice none 0 0]) zV) (fun w ok _ => val_zero w ok) ?_
  exact wO 0 Tryz.results35 rfl rfl rfl ag25 ⟨rfl, .agg #[.int .i64 0, .int .i64 0, .string ⟨#[]⟩, .slice none 0 0, .slice none 0 0], by rw [hpt]; rfl, by rw [hpt]; exact ⟨none, 0, none, 0, rfl, rfl⟩⟩ nS (sub1 0 rfl)
 refine rO 4 rfl (zM 1 rfl ag25 rfl rfl ?_)
 refine oO 3 rfl ?_
 refine zO rfl rfl rfl (c62v _ v part hlen) (by first | exact sub1 0 rfl | exact sub1 1 rfl | exact sub1 2 rfl | exact sub1 3 rfl | exact sub1 4 rfl | exact sub1 5 rfl | exact sub1 6 rfl | exact sub1 7 rfl) (fun u24 D24 hv24 => ?_)
 obtain ⟨all, hall⟩ : ∃ z, z = (getV v part).getD zV := ⟨_, rfl⟩
 have hal : all.keys.length ≤ all.items.length := by
  cases hg : getV v part with
  | none => rw [hall, hg]; exact Nat.le_refl _
  | some a => rw [hall, hg]; exact (hp.item _ (tY hg)).wf.le
 rw [← hall] at hv24
 obtain ⟨_, rfl, A24, m24, B24, d24, rfl, rfl⟩ := hv24
 refine oO 7 rfl (zS ze25 rfl (fun b9 => ?_))
 change RunOps _ _ _ _ _ _ _ _ (HA.blk _ [_, _, _, _, _] _ :: _) _
 refine zA (zF 0 (M' := [HA.blk _ [_, _, _, _, _] _, _, _]) rfl rfl rfl rfl si25 rfl rfl rfl ?_)
 refine oK 3 [9, 7, 4] rfl rfl (rO 3 rfl ?_)
 refine zM 0 rfl ag25 rfl rfl (oO 3 rfl ?_)
 refine zO rfl rfl rfl (c62v _ all nm hal) (by first | exact sub1 0 rfl | exact sub1 1 rfl | exact sub1 2 rfl | exact sub1 3 rfl | exact sub1 4 rfl | exact sub1 5 rfl | exact sub1 6 rfl | exact sub1 7 rfl) (fun u29 D29 hv29 => ?_)
 obtain ⟨_, rfl, A29, m29, B29, d29, rfl, rfl⟩ := hv29
 refine oO 5 rfl (zF 1 (M' := [_, HA.blk _ [_, _, _, _, _] _, _]) rfl rfl rfl rfl si25 rfl rfl rfl ?_)
 refine oR 3 rfl ?_
 obtain ⟨p, hp1, rfl, rfl⟩ := hyes (by simpa using h19)
 have hpt : PtV v ref = getV all (nmB ref p.1 p.2) := by
  unfold PtV
  rw [hp1]
  show (getV v p.2).bind (fun a => getV a _) = _
  cases hg : getV v p.2 with
  | none => rw [hall, hg]; exact (get_z _).symm
  | some a => rw [hall, hg]; rfl
 refine vW (M' := [HA.blk b4 [_, _, _, _, _] 25]) (by repeat (first | exact yM _ | refine zD 0 rfl ?_ | refine zD 1 rfl ?_ | refine zD 2 rfl ?_ | refine zD 3 rfl ?_ | refine zD 4 rfl ?_)) ?_
 exact wO 0 Tryz.results35 rfl rfl rfl ag25 ⟨rfl, .agg #[.int .i64 ((getV all (nmB ref p.1 p.2)).getD zV).kind, .int .i64 ((getV all (nmB ref p.1 p.2)).getD zV).num, .string ((getV all (nmB ref p.1 p.2)).getD zV).text, .slice A29 ((getV all (nmB ref p.1 p.2)).getD zV).keys.length m29, .slice B29 ((getV all (nmB ref p.1 p.2)).getD zV).items.length d29], by rw [hpt]; rfl, by rw [hpt]; exact ⟨A29, m29, B29, d29, rfl, rfl⟩⟩ nS (by first | exact sub1 0 rfl | exact sub1 1 rfl | exact sub1 2 rfl | exact sub1 3 rfl | exact sub1 4 rfl | exact sub1 5 rfl | exact sub1 6 rfl | exact sub1 7 rfl)
abbrev IdS (z : V) : Prop := (getV z kId).isSome = true ∨ (getV z k1).isSome = true
def IsRootV (v : V) : Prop := 2 ≤ (idT v).size ∧ (∀ h : (idT v).size - 1 < (idT v).size, (idT v)[(idT v).size - 1] = 35) ∧ (∀ j (h : j < (idT v).size), j < (idT v).size - 1 → (idT v)[j] ≠ 35) ∧ ∀ z ∈ kidsV v, DeepV (fun z => ¬ IdS z) z
theorem u8i (b : UInt8) (m : Nat) (hm : m < 256) : (((b.toNat : Nat) : Int) = (m : Nat)) ↔ b = UInt8.ofNat m := by
 constructor
 ·intro h
  have h1 : b.toNat = m := by omega
  rw [← h1]
  simp
 ·intro h
  subst h
  simp only [UInt8.toNat_ofNat']
  omega
theorem stepK {p : V → Prop} {l : List V} {i : Nat} {z : V} (h : ∀ j z, j < i → l[j]? = some z → p z) (hz : l[i]? = some z) (hd : p z) : ∀ j z, j < i + 1 → l[j]? = some z → p z := fun j z2 hj hz2 => by
  rcases Nat.lt_or_ge j i with h1 | h1
  · exact h j z2 h1 hz2
  · have e : j = i := by omega
    subst e
    rw [hz] at hz2
    cases hz2
    exact hd

theorem c71 (z : V) (hp : Pl z) (y : Value) : CtV Tryz.prog 71 #[y] [.val y z] (.bool (tb (IdS z))) := by
 refine Ct.of_run (args := [y]) Tryz.func71 (by kernel_rfl) rfl Tryz.ntmps71 rfl (fun c => ?_)
 refine yV 0 rfl (fun A1 c1 A2 c2 hx hsz hk1 hk2 hi1 hi2 => ?_)
 subst hx
 have hle := hp.wf.le
 refine rO 3 rfl (yK rfl rfl rfl (fun b1 => ?_))
 refine oO 6 rfl (zM 0 rfl ag25 rfl rfl ?_)
 refine zA (zJ rfl rfl rfl (c63 _ z _) (sub1 2 rfl) ?_)
 refine zA (rL rfl rfl rfl ?_)
 refine oS 2 rfl (zX (s := 6) rfl (fun h6 => ?_) (fun h6 => ?_))
 ·refine oK 8 [2] rfl rfl ?_
  exact zC Tryz.results71 rfl ⟨congrArg Value.bool (tb_t (p := IdS z) (.inl ((find_get hle).1 (by simpa [kId] using h6)))).symm, rfl, rfl⟩ nS (fun _ h => by cases h)
 refine zH rfl rfl (zM 0 rfl ag25 rfl rfl ?_)
 refine zH rfl rfl (zJ rfl rfl rfl (c63 _ z _) (sub1 2 rfl) ?_)
 refine zH rfl rfl (rL rfl rfl rfl ?_)
 refine oK 5 [2] rfl rfl ?_
 exact zC Tryz.results71 rfl ⟨congrArg Value.bool (eq_tb (by rw [decide_eq_true_iff]; unfold IdS; rw [← find_get hle, ← find_get hle]; exact ⟨fun h => .inr h, fun h => h.resolve_left (by simpa [kId] using h6)⟩)), rfl, rfl⟩ nS (fun _ h => by cases h)
theorem c33 (v : V) (x : Value) (hp : Pl v) : CtV Tryz.prog 33 #[x] [.val x v] (.bool (tb (IsRootV v))) := by
 refine Ct.of_run (args := [x]) Tryz.func33 (by kernel_rfl) rfl Tryz.ntmps33 rfl (fun c => ?_)
 refine yV 0 rfl (fun A1 c1 A2 c2 hx hsz1 hk1 hk2 hi1 hi2 => ?_)
 subst hx
 have hlen := hp.wf.le
 have hkz : (kidsV v).length ≤ 61000000 := by have h1 := kidsTo_len hp v.keys.length (Nat.le_refl _) hlen; rw [kidsTo_all (Nat.le_refl _)] at h1; have := hp.wf.kl; omega
 refine rO 3 rfl (yK rfl rfl rfl (fun b1 => ?_))
 refine oO 6 rfl (zM 0 rfl ag25 rfl rfl ?_)
 refine zA ?_
 refine zO rfl rfl rfl (c62v _ v kId hlen) (by first | exact sub1 0 rfl | exact sub1 1 rfl | exact sub1 2 rfl | exact sub1 3 rfl | exact sub1 4 rfl | exact sub1 5 rfl | exact sub1 6 rfl | exact sub1 7 rfl) (fun u11 D11 hv11 => ?_)
 obtain ⟨idv, hidv⟩ : ∃ z, z = (getV v kId).getD zV := ⟨_, rfl⟩
 have hid : idT v = idv.text := by unfold idT; rw [hidv]
 rw [← hidv] at hv11
 obtain ⟨_, rfl, A11, m11, B11, d11, rfl, rfl⟩ := hv11
 refine oO 7 rfl (zS ze25 rfl (fun b3 => ?_))
 change RunOps _ _ _ _ _ _ _ _ (HA.blk _ [_, _, _, _, _] _ :: _) _
 refine zA (zF 0 (M' := [HA.blk _ [_, _, _, _, _] _, _]) rfl rfl rfl rfl si25 rfl rfl rfl ?_)
 refine oO 6 rfl (zB sB rfl rfl ?_)
 refine zA (zI 0 sc9 rfl rfl rfl rfl ?_)
 refine zA ?_
 have hidz : idv.text.size ≤ 200 := hidv ▸ id_size hp
 refine xC st9 rfl rfl (oK 3 [5, 3, 1] rfl rfl ?_)
 refine rO 6 rfl (wF rfl rfl rfl ?_)
 refine oS 2 rfl (zX (s := 19) rfl (fun h19 => ?_) (fun h19 => ?_))
 ·refine oK 9 [26, 5, 3, 1] rfl rfl (rR 6 rfl ?_)
  exact zC Tryz.results33 rfl ⟨congrArg Value.bool (tb_f (p := IsRootV v) (fun hc => by have := hc.1; rw [hid] at this; omega)).symm, rfl, rfl⟩ nS (fun _ h => by cases h)
 refine zH rfl rfl (zB sB rfl rfl ?_)
 refine zH rfl rfl (zI 0 sc9 rfl rfl rfl rfl ?_)
 refine oO 3 rfl (xG (s := ((idv.text.size - 1 : Nat) : Int)) rfl rfl rfl (by omega) (by omega) (by omega) ?_)
 refine zH rfl rfl (vD st9 rfl rfl rfl (by omega) ?_)
 refine zH rfl rfl (uH rfl rfl rfl ?_)
 refine oK 3 [26, 5, 3, 1] rfl rfl (yG rfl (fun h26 => ?_) (fun h26 => ?_))
 ·refine rR 5 rfl ?_
  exact zC Tryz.results33 rfl ⟨congrArg Value.bool (tb_f (p := IsRootV v) (fun hc => by have h1 := hc.2.1; rw [hid] at h1; have h2 := h1 (by omega); simp only [decide_eq_true_eq, decide_eq_false_iff_not, ne_eq, Decidable.not_not] at *; exact h26 ((u8i _ 35 (by omega)).2 h2))).symm, rfl, rfl⟩ nS (fun _ h => by cases h)
 have h2 : 2 ≤ idv.text.size := by omega
 have hlast : ∀ h : idv.text.size - 1 < idv.text.size, idv.text[idv.text.size - 1] = 35 := fun h => (u8i _ 35 (by omega)).1 (by simpa using h26)
 refine rK 8 [6, 5, 3, 1] rfl rfl ?_
 refine yS 1 (fun (i : Nat) => i ≤ idv.text.size ∧ ∀ j (h : j < idv.text.size), j < i → idv.text[j] ≠ 35) (fun (i : Nat) => [(6, .int .i64 ((i : Nat) : Int))]) (fun (i : Nat) => idv.text.size - i) 0 (⟨by omega, fun _ _ h => absurd h (by omega)⟩) (eC rfl (eN _)) ?_ (eC rfl (eC rfl (eC rfl (eN _))))
 intro i hI K hK
 change Run _ _ _ _ _ [(6, _), (5, _), (3, _), (1, _)] _ _
 obtain ⟨hi, hno⟩ := hI
 refine rO 8 rfl (xG (s := ((idv.text.size - 1 : Nat) : Int)) rfl rfl rfl (by omega) (by omega) (by omega) ?_)
 refine zA (yO rfl rfl rfl ?_)
 refine yB (zK rfl (fun h30 => ?_) (fun h30 => ?_))
 ·refine rO 6 rfl (zB sB rfl rfl ?_)
  refine zA (zI 0 sc9 rfl rfl rfl rfl ?_)
  refine oO 3 rfl (vD st9 rfl rfl rfl (by omega) ?_)
  refine oR 3 rfl (zK rfl (fun h37 => ?_) (fun h37 => ?_))
  ·refine rK 5 [2] rfl rfl ?_
   exact zC Tryz.results33 rfl ⟨congrArg Value.bool (tb_f (p := IsRootV v) (fun hc => by have h1 := hc.2.2.1; rw [hid] at h1; exact h1 i (by omega) (by omega) ((u8i _ 35 (by omega)).1 h37))).symm, rfl, rfl⟩ nS (fun _ h => by cases h)
  refine rO 6 rfl (yC rfl rfl (by omega) ?_)
  refine oK 3 [6, 5, 3, 1] rfl rfl ?_
  exact kQ (hK (i + 1) (⟨by omega, allP (p := fun b => b ≠ 35) hno (hi := by omega) (fun e => h37 ((u8i _ 35 (by omega)).2 e))⟩) (by omega)) (eC rfl (eC rfl (eC rfl (eC rfl (eN _)))))
 refine rO 5 rfl (zM 1 rfl ag25 rfl rfl ?_)
 refine zA ?_
 refine zO rfl rfl rfl (c69 v _ hp) (by first | exact sub1 0 rfl | exact sub1 1 rfl | exact sub1 2 rfl | exact sub1 3 rfl | exact sub1 4 rfl | exact sub1 5 rfl | exact sub1 6 rfl | exact sub1 7 rfl) (fun u39 D39 hv39 => ?_)
 obtain ⟨A39, c39, rfl, rfl⟩ := hv39
 refine zA (zW sl23 rfl rfl ?_)
 refine oK 3 [41, 40, 39] rfl rfl (rK 1 [41, 40, 39] rfl rfl ?_)
 refine yS 1 (fun (i : Nat) => i ≤ (kidsV v).length ∧ ∀ j z, j < i → (kidsV v)[j]? = some z → DeepV (fun z => ¬ IdS z) z) (fun (i : Nat) => [(41, .int .i64 ((i : Nat) : Int))]) (fun (i : Nat) => (kidsV v).length - i) 0 (⟨by omega, fun _ _ h => absurd h (by omega)⟩) (eC rfl (eN _)) ?_ (eC rfl (eC rfl (eN _)))
 intro i hI K hK1
 change Run _ _ _ _ _ [(41, _), (40, _), (39, _)] _ _
 obtain ⟨hik, hnk⟩ := hI
 refine rO 3 rfl (yO rfl rfl rfl ?_)
 refine oR 2 rfl (zK rfl (fun h42 => ?_) (fun h42 => ?_))
 ·refine rO 6 rfl (wD 0 sl23 rfl rfl rfl rfl (by omega) ?_)
  refine zA ?_
  obtain ⟨z, hz⟩ : ∃ z, (kidsV v)[i]? = some z := ⟨_, List.getElem?_eq_getElem h42⟩
  refine xY 0 ag25 rfl rfl rfl hz (fun A3 c3 A4 c4 => ?_)
  refine zA (zS ze25 rfl (fun b8 => ?_))
  change RunOps _ _ _ _ _ _ _ _ (HA.blk _ [_, _, _, _, _] _ :: _) _
  refine zA (zF 0 (M' := [HA.blk _ [_, _, _, _, _] _, _, _]) rfl rfl rfl rfl si25 rfl rfl rfl ?_)
  refine oO 4 rfl (zM 0 rfl ag25 rfl rfl ?_)
  refine zA (zJ rfl rfl rfl (c70 71 IdS (fun z hz y => c71 z hz y) z (kid_pl hp (List.mem_of_getElem? hz)) _) (by first | exact sub1 0 rfl | exact sub1 1 rfl | exact sub1 2 rfl | exact sub1 3 rfl | exact sub1 4 rfl | exact sub1 5 rfl | exact sub1 6 rfl | exact sub1 7 rfl) ?_)
  refine yB (yG rfl (fun h46 => ?_) (fun h46 => ?_))
  ·refine rK 5 [2] rfl rfl ?_
   exact zC Tryz.results33 rfl ⟨congrArg Value.bool (tb_f (p := IsRootV v) (fun hc => by have h1 := hc.2.2.2 _ (List.mem_of_getElem? hz); exact (yI.1 h46) h1)).symm, rfl, rfl⟩ nS (fun _ h => by cases h)
  refine rO 4 rfl (yC rfl rfl (by omega) ?_)
  refine oR 3 rfl ?_
  exact kQ (hK1 (i + 1) (⟨by omega, stepK hnk hz (Classical.byContradiction fun hc => by rw [tb_t (p := ¬ DeepV (fun z => ¬ IdS z) z) hc] at h46; cases h46)⟩) (by omega))
 refine rR 6 rfl ?_
 exact zC Tryz.results33 rfl ⟨congrArg Value.bool (tb_t (p := IsRootV v) ⟨by rw [hid]; omega, by rw [hid]; exact hlast, by rw [hid]; exact fun j hj hlt => hno j hj (by omega), fun z hz => by obtain ⟨j, hj⟩ := List.getElem?_of_mem hz; exact hnk j z (by have := (List.getElem?_eq_some_iff.1 hj).1; omega) hj⟩).symm, rfl, rfl⟩ nS (fun _ h => by cases h)
end Go.Jw

namespace Go.Jw
open Go Go.RowKit
abbrev bl (s : ByteArray) : List UInt8 := s.data.toList
theorem bl_inj {s t : ByteArray} (h : bl s = bl t) : s = t := by
 obtain ⟨⟨a⟩⟩ := s
 obtain ⟨⟨b⟩⟩ := t
 have : a = b := h
 rw [this]
theorem sC (s : ByteArray) : (bl s).length = s.size := by
 show s.data.toList.length = s.data.size
 rw [Array.length_toList]
theorem qM (s t : ByteArray) : bl (s ++ t) = bl s ++ bl t := by
 show (s ++ t).data.toList = _
 rw [ByteArray.data_append, Array.toList_append]
theorem map_bl {l l' : List ByteArray} (h : l.map bl = l'.map bl) : l = l' := by
  induction l generalizing l' with
  | nil => cases l' with
    | nil => rfl
    | cons y l' => cases h
  | cons x l ih => cases l' with
    | nil => cases h
    | cons y l' =>
      simp only [List.map_cons, List.cons.injEq] at h
      rw [bl_inj h.1, ih h.2]
theorem uR (s : ByteArray) (i j : Nat) : bl (s.extract i j) = ((bl s).take j).drop i := by simp [bl, List.drop_take]
theorem bl_get (s : ByteArray) (i : Nat) (h : i < s.size) : (bl s)[i]? = some s[i] := by
 have h2 : i < s.data.size := h
 simp only [bl]
 rw [Array.getElem?_toList, Array.getElem?_eq_getElem h2]
 rfl
inductive SplL (c : UInt8) : List UInt8 → List (List UInt8) → Prop
  | last {s : List UInt8} (h : c ∉ s) : SplL c s [s]
  | cut {a b : List UInt8} {l : List (List UInt8)} (h : c ∉ a) (t : SplL c b l) : SplL c (a ++ c :: b) (a :: l)
theorem app_cut {c : UInt8} : ∀ {a a' b b' : List UInt8}, c ∉ a → c ∉ a' → a ++ c :: b = a' ++ c :: b' → a = a' ∧ b = b'
  | [], [], b, b', _, _, h => ⟨rfl, by injection h⟩
  | [], x :: a', b, b', _, h2, h => by injection h with h _; subst h; exact absurd List.mem_cons_self h2
  | x :: a, [], b, b', h1, _, h => by injection h with h _; subst h; exact absurd List.mem_cons_self h1
  | x :: a, y :: a', b, b', h1, h2, h => by
    injection h with h h'
    obtain ⟨e1, e2⟩ := app_cut (fun hm => h1 (List.mem_cons_of_mem _ hm)) (fun hm => h2 (List.mem_cons_of_mem _ hm)) h'
    exact ⟨by rw [h, e1], e2⟩
theorem SplL.no {c : UInt8} {s : List UInt8} {l : List (List UInt8)} (h : SplL c s l) (hn : c ∉ s) : l = [s] := by
  cases h with
  | last _ => rfl
  | cut h t => exact absurd (by simp) hn
theorem SplL.at {c : UInt8} {a b : List UInt8} {l : List (List UInt8)} (h : SplL c (a ++ c :: b) l) (hn : c ∉ a) : ∃ l', l = a :: l' ∧ SplL c b l' := by
  generalize hs : a ++ c :: b = s at h
  cases h with
  | last h => exact absurd (by rw [← hs]; simp) h
  | cut h t =>
    obtain ⟨rfl, rfl⟩ := app_cut hn h hs
    exact ⟨_, rfl, t⟩
def Spl (c : UInt8) (s : ByteArray) (l : List ByteArray) : Prop := SplL c (bl s) (l.map bl)
theorem spl_two {c : UInt8} {s a b : ByteArray} {l : List ByteArray} (h : Spl c s l) (hs : bl s = bl a ++ c :: bl b) (ha : c ∉ bl a) (hb : c ∉ bl b) : l = [a, b] := by
 unfold Spl at h
 rw [hs] at h
 obtain ⟨l', h1, h2⟩ := h.at ha
 have h3 := h2.no hb
 subst h3
 exact map_bl (l' := [a, b]) h1
theorem spl_three {c : UInt8} {s a b d : ByteArray} {l : List ByteArray} (h : Spl c s l) (hs : bl s = bl a ++ c :: (bl b ++ c :: bl d)) (ha : c ∉ bl a) (hb : c ∉ bl b) (hd : c ∉ bl d) : l = [a, b, d] := by
 unfold Spl at h
 rw [hs] at h
 obtain ⟨l', h1, h2⟩ := h.at ha
 obtain ⟨l2, rfl, h3⟩ := h2.at hb
 have h4 := h3.no hd
 subst h4
 exact map_bl (l' := [a, b, d]) h1
def SplK (c : UInt8) (s0 : ByteArray) (acc : List ByteArray) (s : ByteArray) : Prop := ∀ l : List (List UInt8), SplL c (bl s) l → SplL c (bl s0) (acc.map bl ++ l)
theorem SplK.zero (c : UInt8) (s : ByteArray) : SplK c s [] s := fun l h => h
theorem pA {c : UInt8} {s : ByteArray} {i : Nat} (h : ∀ j (h : j < s.size), j < i → s[j] ≠ c) : c ∉ (bl s).take i := fun hm => by
 obtain ⟨j, hj⟩ := List.getElem?_of_mem hm
 rw [List.getElem?_take] at hj
 split at hj
 ·rename_i hlt
  have hs : j < s.size := by
   have := (List.getElem?_eq_some_iff.1 hj).1
   rwa [sC] at this
  rw [bl_get s j hs] at hj
  injection hj with hj
  exact h j hs hlt hj
 ·cases hj
theorem SplK.cut {c : UInt8} {s0 s : ByteArray} {acc : List ByteArray} {i : Nat} (h : SplK c s0 acc s) (hi : i < s.size) (hc : s[i] = c) (hno : ∀ j (h : j < s.size), j < i → s[j] ≠ c) : SplK c s0 (acc ++ [s.extract 0 i]) (s.extract (i + 1) s.size) := fun l hl => by
  have e : bl s = bl (s.extract 0 i) ++ c :: bl (s.extract (i + 1) s.size) := by
    rw [uR, uR, List.drop_zero, ← sC, List.take_length]
    have h1 : (bl s)[i]'(by rw [sC]; exact hi) = c := by
      have := bl_get s i hi
      rw [List.getElem?_eq_getElem (by rw [sC]; exact hi)] at this
      injection this with this
    first | rw [← h1, List.getElem_cons_drop, List.take_append_drop] | rw [← h1, List.getElem_cons_drop]
  have h2 := h (bl (s.extract 0 i) :: l) (by
    rw [e]
    refine SplL.cut ?_ hl
    rw [uR, List.drop_zero]
    exact pA hno)
  simpa using h2
theorem SplK.done {c : UInt8} {s0 s : ByteArray} {acc : List ByteArray} (h : SplK c s0 acc s) (hno : ∀ j (h : j < s.size), s[j] ≠ c) : Spl c s0 (acc ++ [s]) := by
 have := h [bl s] (SplL.last fun hm => by
  have := pA (c := c) (s := s) (i := s.size) (fun j hj _ => hno j hj)
  rw [← sC, List.take_length] at this
  exact this hm)
 unfold Spl
 simpa using this
end Go.Jw

namespace Go.Jw
open Go Go.RowKit Go.Proofs
set_option maxRecDepth 8000
theorem ext_one {s : ByteArray} {c : UInt8} {i : Nat} (hi : i < s.size) : s.extract i (i + 1) = ⟨#[c]⟩ ↔ s[i] = c := by
 have h1 : bl (s.extract i (i + 1)) = [s[i]] := by
  rw [uR]
  have hl : i < (bl s).length := by rw [sC]; exact hi
  have hg : (bl s)[i] = s[i] := by
   have := bl_get s i hi
   rw [List.getElem?_eq_getElem hl] at this
   injection this
  rw [List.drop_take, Nat.add_sub_cancel_left, List.drop_eq_getElem_cons hl, hg]
  rfl
 constructor
 ·intro h
  rw [h] at h1
  have : [c] = [s[i]] := h1
  injection this with this
  exact this.symm
 ·intro h
  refine bl_inj ?_
  rw [h1, h]
abbrev SpI (c0 : UInt8) (s : ByteArray) (i : Nat) (s1 : ByteArray) (n : Nat) (xs : List Value) (acc : List ByteArray) : Prop := i ≤ s1.size ∧ s1.size ≤ 2147483648 ∧ n = acc.length ∧ xs = acc.map Value.string ∧ SplK c0 s acc s1 ∧ (∀ j (h : j < s1.size), j < i → s1[j] ≠ c0) ∧ n + s1.size ≤ 2147483648 ∧ ∀ p ∈ acc, p.size ≤ maxLen

theorem c168 (s : ByteArray) (c0 : UInt8) (hs : s.size ≤ 2147483648) : CtR Tryz.prog 168 #[.string s, .string ⟨#[c0]⟩] [] (fun u D' => ∃ A cap l, u = .slice A l.length cap ∧ D' = [.strs u l] ∧ Spl c0 s l) := by
 refine Ct.of_run (args := [.string s, .string ⟨#[c0]⟩]) Tryz.func168 (by kernel_rfl) rfl Tryz.ntmps168 rfl (fun c => ?_)
 refine rK 17 [0, 5, 6, 1] rfl rfl (wN 9 1 ?_)
 refine yX 3 (fun (⟨i, s1, n, A, ca, xs, acc⟩ : Nat × ByteArray × Nat × Option Addr × Nat × List Value × List ByteArray) => SpI c0 s i s1 n xs acc) (fun (⟨i, s1, n, A, ca, xs, acc⟩ : Nat × ByteArray × Nat × Option Addr × Nat × List Value × List ByteArray) => [(0, .string s1), (5, .slice A n ca), (6, .int .i64 ((i : Nat) : Int))]) (fun (⟨i, s1, n, A, ca, xs, acc⟩ : Nat × ByteArray × Nat × Option Addr × Nat × List Value × List ByteArray) => HA.row A n ca 9 1 xs :: []) (fun (⟨i, s1, n, A, ca, xs, acc⟩ : Nat × ByteArray × Nat × Option Addr × Nat × List Value × List ByteArray) => ([] : List DA)) (fun (⟨i, s1, n, A, ca, xs, acc⟩ : Nat × ByteArray × Nat × Option Addr × Nat × List Value × List ByteArray) => s1.size - i) (0, s, 0, none, 0, [], []) (show SpI c0 s 0 s 0 [] [] from ⟨Nat.zero_le _, hs, rfl, rfl, SplK.zero _ _, fun j h hj => absurd hj (Nat.not_lt_zero _), (by show 0 + s.size ≤ _; omega), fun p hp => (by cases hp)⟩) (eC rfl (eC rfl (eC rfl (eN _)))) rfl rfl ?_ (eC rfl (eN _))
 intro ⟨i, s1, n, A, ca, xs, acc⟩ hI K hK
 change Run _ _ _ _ _ [(0, _), (5, _), (6, _), (1, _)] [_] (([] : List DA))
 obtain ⟨hi, hs1, hn, hxs, hK0, hno, hb, hsz⟩ := hI
 refine rO 8 rfl (xC st9 rfl rfl ?_)
 refine zA (xB (s := ((i + 1 : Nat) : Int)) rfl rfl rfl (by show (i : Int) + 1 = _; omega) (by omega) (by omega) ?_)
 refine oO 3 rfl (xC st9 rfl rfl ?_)
 refine zA (pH rfl rfl rfl ?_)
 refine yB (zK rfl (fun h13 => ?_) (fun h13 => ?_))
 ·have hlt : i < s1.size := by omega
  refine rO 14 rfl (xC st9 rfl rfl ?_)
  refine zA (xB (s := ((i + 1 : Nat) : Int)) rfl rfl rfl (by show (i : Int) + 1 = _; omega) (by omega) (by omega) ?_)
  refine zA (op_sliceStr st9 rfl rfl rfl rfl (by omega) (by omega) ?_)
  refine oK 5 [22, 0, 5, 6, 1] rfl rfl (zK rfl (fun h22 => ?_) (fun h22 => ?_))
  ·have heq : s1[i] = c0 := (ext_one hlt).1 h22
   have hse : (s1.extract (i + 1) s1.size).size = s1.size - (i + 1) := by rw [ByteArray.size_extract]; omega
   refine rO 9 rfl (op_sliceStrHi st9 rfl rfl rfl (by omega) ?_)
   refine zA (zL sl22 rfl rfl rfl rfl rfl (fun b27 => ?_))
   refine zA ?_
   refine op_apd 1 0 sl22 (fun A28 c28 => ?_)
   refine oO 12 rfl (xC st9 rfl rfl ?_)
   refine zA (xB (s := ((i + 1 : Nat) : Int)) rfl rfl rfl (by show (i : Int) + 1 = _; omega) (by omega) (by omega) ?_)
   refine zA (rM st9 rfl rfl rfl (by omega) ?_)
   refine oK 5 [6, 0, 5, 1] rfl rfl (run_exit rfl ?_)
   exact kQ (hK (0, s1.extract (i + 1) s1.size, n + 1, _, _, xs ++ [.string (s1.extract 0 i)], acc ++ [s1.extract 0 i]) (⟨Nat.zero_le _, (by rw [hse]; omega), (by rw [List.length_append, ← hn]; rfl), (by rw [List.map_append, hxs]; rfl), hK0.cut hlt heq hno, fun j h hj => absurd hj (Nat.not_lt_zero _), (by rw [hse]; omega), fun p hp => (List.mem_append.1 hp).elim (hsz p) (fun e => by rw [List.mem_singleton.1 e, ByteArray.size_extract]; unfold maxLen; omega)⟩) (by first | (show s1.size - (i + 1) < s1.size - i; omega) | (show (s1.extract (i + 1) s1.size).size - 0 < s1.size - i; rw [hse]; omega))) (eC rfl (eC rfl (eC rfl (eC rfl (eN _))))) (hD := (fun _ h => by cases h))
  refine rO 5 rfl (yC rfl rfl (by omega) ?_)
  refine oR 4 rfl ?_
  exact kQ (hK (i + 1, s1, n, A, ca, xs, acc) (⟨(by omega), hs1, hn, hxs, hK0, allP (p := fun b => b ≠ c0) hno hlt (fun e => h22 ((ext_one hlt).2 e)), hb, hsz⟩) (by first | (show s1.size - (i + 1) < s1.size - i; omega) | (show (s1.extract (i + 1) s1.size).size - 0 < s1.size - i; rw [hse]; omega))) (hD := (fun _ h => by cases h))
 have hie : i = s1.size := by omega
 refine rO 8 rfl (zL sl22 rfl rfl rfl rfl rfl (fun b39 => ?_))
 refine zA ?_
 refine op_apd 1 0 sl22 (fun A40 c40 => ?_)
 refine oK 3 [4] rfl rfl (wI 1 (acc ++ [s1]) rfl (by intro b h; cases h) (by rw [hxs, List.map_append]; rfl) (fun p hp => (List.mem_append.1 hp).elim (hsz p) (fun e => by rw [List.mem_singleton.1 e]; unfold maxLen; omega)) ?_)
 exact zC Tryz.results168 rfl ⟨rfl, _, _, acc ++ [s1], by rw [List.length_append, ← hn]; rfl, rfl, hK0.done (fun j hj => hno j hj (by omega))⟩ nS (sub1 0 rfl)
end Go.Jw

namespace Go.Jw
open Go Go.RowKit
theorem name_mem {s : ByteArray} (h : IsName s) {c : UInt8} (hc : c ∈ bl s) : OkN c := by
 obtain ⟨j, hj⟩ := List.getElem?_of_mem hc
 have hs : j < s.size := by
  have := (List.getElem?_eq_some_iff.1 hj).1
  rwa [sC] at this
 rw [bl_get s j hs] at hj
 injection hj with hj
 rw [← hj]
 exact h.1 j hs
theorem okN_ne {c : UInt8} (h : OkN c) : c ≠ 35 ∧ c ≠ 47 := by
 constructor
 ·intro e; subst e; unfold OkN at h; revert h; decide
 ·intro e; subst e; unfold OkN at h; revert h; decide
theorem mat_bl {ref base part : ByteArray} (h : Mat ref base part) : bl ref = bl base ++ 47 :: (bl part ++ 47 :: bl (nmB ref base part)) := by
 have h1 : (bl ref).take (hdB base part).size = bl (hdB base part) := by
  have := congrArg bl h.2.1
  rw [uR, List.drop_zero] at this
  exact this
 have h2 : (bl ref).drop (hdB base part).size = bl (nmB ref base part) := by
  unfold nmB
  rw [uR, ← sC ref, List.take_length]
 have h3 : bl (hdB base part) = bl base ++ [47] ++ bl part ++ [47] := by
  unfold hdB
  rw [qM, qM, qM]
 rw [← List.take_append_drop (hdB base part).size (bl ref), h1, h2, h3]
 simp
theorem ref_parts {ref base part p0 : ByteArray} (hm : Mat ref base part) (hb : bl base = bl p0 ++ [35]) (h0 : (35 : UInt8) ∉ bl p0) (hpt : part = kDefs ∨ part = kProps) :
    ∃ rest : ByteArray, (∀ l, Spl 35 ref l → l = [p0, rest]) ∧ (∀ l, Spl 47 rest l → l = [⟨#[]⟩, part, nmB ref base part]) ∧ rest.size ≤ ref.size := by
  have e := mat_bl hm
  have hn : ∀ c ∈ bl (nmB ref base part), c ≠ 35 ∧ c ≠ 47 := fun c hc => okN_ne (name_mem hm.2.2 hc)
  have hp : ∀ c ∈ bl part, c ≠ 35 ∧ c ≠ 47 := by
    rcases hpt with rfl | rfl
    · decide
    · decide
  refine ⟨⟨(47 :: (bl part ++ 47 :: bl (nmB ref base part))).toArray⟩, fun l hl => ?_, fun l hl => ?_, ?_⟩
  · refine spl_two hl ?_ h0 ?_
    · rw [e, hb]; simp
    · intro hc
      have hc' : (35 : UInt8) ∈ 47 :: (bl part ++ 47 :: bl (nmB ref base part)) := by simpa using hc
      rcases List.mem_cons.1 hc' with h | h
      · revert h; decide
      · rcases List.mem_append.1 h with h | h
        · exact (hp _ h).1 rfl
        · rcases List.mem_cons.1 h with h | h
          · revert h; decide
          · exact (hn _ h).1 rfl
  · refine spl_three hl ?_ (by decide) (fun h => (hp _ h).2 rfl) (fun h => (hn _ h).2 rfl)
    simp
  · have h1 := congrArg List.length e
    rw [sC] at h1
    have h2 : (⟨(47 :: (bl part ++ 47 :: bl (nmB ref base part))).toArray⟩ : ByteArray).size = (47 :: (bl part ++ 47 :: bl (nmB ref base part))).length := by
      rw [← sC]
    rw [h2]
    simp only [List.length_append, List.length_cons] at h1 ⊢
    omega
def IdOk (s : ByteArray) : Prop := 2 ≤ s.size ∧ (∀ h : s.size - 1 < s.size, s[s.size - 1] = 35) ∧ ∀ j (h : j < s.size), j < s.size - 1 → s[j] ≠ 35
theorem idOk_parts {s : ByteArray} (h : IdOk s) : bl s = bl (s.extract 0 (s.size - 1)) ++ [35] ∧ (35 : UInt8) ∉ bl (s.extract 0 (s.size - 1)) := by
 obtain ⟨h1, h2, h3⟩ := h
 have hlt : s.size - 1 < s.size := by omega
 rw [uR, List.drop_zero]
 refine ⟨?_, pA h3⟩
 have hg : (bl s)[s.size - 1]? = some 35 := by rw [bl_get s _ hlt, h2 hlt]
 have hl : (bl s).drop (s.size - 1) = [35] := by
  have hlen : s.size - 1 < (bl s).length := by rw [sC]; exact hlt
  rw [List.drop_eq_getElem_cons hlen]
  rw [List.getElem?_eq_getElem hlen] at hg
  injection hg with hg
  rw [hg, List.drop_eq_nil_of_le (by rw [sC]; omega)]
 conv => lhs; rw [← List.take_append_drop (s.size - 1) (bl s), hl]
theorem app_hash {p0 base : ByteArray} (h : bl base = bl p0 ++ [35]) : p0 ++ kHash = base := bl_inj (by rw [qM, h])
end Go.Jw

namespace Go.Jw
open Go Go.RowKit Go.Proofs
set_option maxRecDepth 8000

section rules
variable {P : Program} {n : Nat} {F : List Nat} {c : Ctx F} {ops : Array Oper} {d : Nat} {T : TypeId} {l : List Oper} {k : List KI} {Q : Post} {e : Env} {M : List HA} {D : List DA}
theorem op_neqHN {x : Operand} {S S' u : TypeId} {v : Value} (hS : P.underlying S = some (.interface (P.methodsAt S))) (hd : Nat.blt d n = true) (hx : ev e x = some (.iface u v)) (next : RunOps P n c ops l k Q ((d, .bool true) :: e) M D) : RunOp P n c ops (some d) (.binOp .neq S x (.const .nilIface) S') T l k Q e M D :=
 xF hd (fun a w hf => by
  have h1 := run_neq_held_nil (P := P) (w := w) S u v hS
  have h2 : a.eval (.const .nilIface) = .nilIface := rfl
  have h0 : (eqGuard .neq S x (.const .nilIface) (.iface u v) .nilIface).run P w = .ok () w := by simp [eqGuard]
  simp only [execOp, opr, hf.ev hx, h2, h0, Sem.run_bind, Sem.run_pure, Result.andThen_ok, h1]) next
theorem run_lookup1 {w : World} {mty kt et : TypeId} {r ck : Nat} {s : ByteArray} {v : Value} (hm : P.underlying mty = some (.map kt et)) (hk : P.underlying kt = some .string) (hb : w.heap[r]? = some (.map #[{ key := .string s, val := v, born := 0 }] ck)) :
  (Instr.lookup mty (.map (some r)) (.string s) false).run P w = .ok v w := by
 have hc : (Instr.checkKey false 10000 kt (.string s)).run P w = .ok () w := MapKept.run_checkKey (k := .string s) hk (by simp [MapKept.IsKey]) false 9999
 have hf : Instr.findNow .string (.string s) [({ key := .string s, val := v, born := 0 } : MapEntry)] 0 = some (some (0, v)) := by
  have : (s == s) = true := (MapKept.bytes_beq s s).2 rfl
  simp [Instr.findNow, Instr.sameNow, this]
 simp [Instr.lookup, run_underlying hm, MapKept.run_getObj_map hb, hc, MapKept.run_findKey hk hf, Result.andThen]
theorem op_lookup1 (i : Nat) {x y : Operand} {mb ck : Nat} {s : ByteArray} {v : Value} {S kt et : TypeId} (hm : P.underlying S = some (.map kt et)) (hk : P.underlying kt = some .string) (hd : Nat.blt d n = true) (hx : ev e x = some (.map (some mb))) (hy : ev e y = some (.string s))
  (hi : M[i]? = some (.obj mb (.map #[{ key := .string s, val := v, born := 0 }] ck))) (next : RunOps P n c ops l k Q ((d, v) :: e) M D) : RunOp P n c ops (some d) (.lookup S x y false) T l k Q e M D := by
 refine xF hd (fun a w hf => ?_) next
 have hb : w.heap[mb]? = some (.map #[{ key := .string s, val := v, born := 0 }] ck) := hf.toFitsW.mem hi
 simp only [execOp, opr, hf.ev hx, hf.ev hy, Sem.run_bind, run_lookup1 hm hk hb, Result.andThen_ok, Sem.run_pure]
end rules
def FndO (l : List (ByteArray × Nat)) (name : ByteArray) : Option Nat → Prop
  | some b => ∃ q ∈ l, q.1 = name ∧ q.2 = b
  | none => ∀ q ∈ l, q.1 ≠ name
theorem FndO.hit {l : List (ByteArray × Nat)} {name : ByteArray} {i : Nat} (h : i < l.length) (he : l[i].1 = name) : FndO (l.take (i + 1)) name (some l[i].2) := by
 refine ⟨l[i], ?_, he, rfl⟩
 rw [List.take_add_one, List.getElem?_eq_getElem h]
 exact List.mem_append_right _ List.mem_cons_self
theorem FndO.miss {l : List (ByteArray × Nat)} {name : ByteArray} {o : Option Nat} {i : Nat} (h : i < l.length) (he : ¬ l[i].1 = name) (hf : FndO (l.take i) name o) : FndO (l.take (i + 1)) name o := by
  have e : l.take (i + 1) = l.take i ++ [l[i]] := by rw [List.take_add_one, List.getElem?_eq_getElem h]; rfl
  rw [e]
  cases o with
  | some b =>
    obtain ⟨q, hq, h1, h2⟩ := hf
    exact ⟨q, List.mem_append_left _ hq, h1, h2⟩
  | none =>
    intro q hq
    rcases List.mem_append.1 hq with hq | hq
    · exact hf q hq
    · rw [List.mem_singleton.1 hq]; exact he

theorem c169 (s : ByteArray) : CtR Tryz.prog 169 #[.string s] [] (fun u D' => ∃ S v, u = .iface S v ∧ D' = []) := by
 refine Ct.of_run (args := [.string s]) Tryz.func169 (by kernel_rfl) rfl Tryz.ntmps169 rfl (fun c => ?_)
 refine rO 10 rfl (yQ rfl rfl (bu228_0 ..) ?_)
 refine zA (yK rfl rfl rfl (fun b5 => ?_))
 refine zA (op_makeIface (by kernel_rfl) rfl rfl ?_)
 refine oR 3 rfl ?_
 exact zC Tryz.results169 rfl ⟨rfl, _, _, rfl, rfl⟩ nS (fun _ h => by cases h)
theorem c114a (mb b ck : Nat) (G : Gr) (cs : List Value) (f : Flds) (idt ref p0 rest part name : ByteArray) (l : List (ByteArray × Nat)) (hm : (b, cs, f) ∈ G) (hid : f 2 = some (.text idt)) (hr1 : ref.size ≤ 2147483648) (hr2 : rest.size ≤ 2147483648) (hp0 : p0.size ≤ 1000) (hsp : ∀ l, Spl 35 ref l → l = [p0, rest]) (hsp2 : ∀ l, Spl 47 rest l → l = [⟨#[]⟩, part, name]) (hpt : part = kDefs ∨ part = kProps) (hdef : part = kDefs → f 32 = some (.named l)) (hprop : part = kProps → f 23 = some (.named l)) (hbe : p0 ++ (⟨#[35]⟩ : ByteArray) = ⟨#[35]⟩) : Ct Tryz.prog 114 #[ptr b, .string ref] [.many 124 (Gr.blks G), HA.obj mb (.map #[{ key := .string idt, val := ptr b, born := 0 }] ck)] [.graph mb G] (fun u M' D' => M' = [.many 124 (Gr.blks G), HA.obj mb (.map #[{ key := .string idt, val := ptr b, born := 0 }] ck)] ∧ D' = [.graph mb G] ∧ ∃ o er, u = .tuple #[oP o, er] ∧ FndO l name o ∧ ((o.isSome = true ∧ er = .nilIface) ∨ (o = none ∧ ∃ S v, er = .iface S v))) := by
 refine Ct.of_run (args := [ptr b, .string ref]) Tryz.func114 (by kernel_rfl) rfl Tryz.ntmps114 rfl (fun c => ?_)
 refine uZ (p := cs[0]? = some (.map (some mb))) (fun w ok h => ((dget h 0 rfl : (DA.graph mb G).p w ok) _ hm).2.1) (fun hc0 => ?_)
 refine sL 0 2 rfl hm (by decide) (by decide) (fun p2 hc2 hp2 => ?_)
 refine run_gfv 0 2 rfl hm (by decide) (by decide) hc2 hid (pS 0 rfl (fun pt hpt2 hsz2 => ?_))
 cases hpt2
 refine rO 12 rfl (zO rfl rfl rfl (c168 ref 35 hr1) sub0 (fun u18 D18 hv18 => ?_))
 obtain ⟨A18, c18, l18, rfl, rfl, hl18⟩ := hv18
 obtain rfl := hsp _ hl18
 refine oO 9 rfl (zW sl22 rfl rfl ?_)
 refine oO 9 rfl (xQ (i := 0) 0 sl22 rfl rfl rfl rfl (by simp) ?_)
 refine zA (yF sc9 rfl rfl (fun _ h => xD h (j := 0) (i := 0) rfl rfl) ?_)
 refine zA (op_sadd rfl rfl rfl (by show p0.size + 1 ≤ _; omega) ?_)
 rw [hbe]
 refine oK 3 [7, 6, 4, 0] rfl rfl (rS 9 rfl ?_)
 refine rU (s := 28) rfl (rfl) (oO 5 rfl ?_)
 refine zB qO rfl rfl (zH rfl rfl ?_)
 refine tX 0 sc111 rfl rfl rfl (rJ hm) (by rw [Nat.zero_add]; exact hc2) (zH rfl rfl ?_)
 refine xJ pn111 rfl rfl (oO 10 rfl ?_)
 refine zB qO rfl rfl (zA ?_)
 refine tX 0 sc111 rfl rfl rfl (rJ hm) (by rw [Nat.zero_add]; exact hc2) (oO 3 rfl ?_)
 refine yT 1 sc9 rfl rfl rfl (oK 3 [7, 6, 4, 0] rfl rfl ?_)
 refine rO 5 rfl (xQ (i := 1) 0 sl22 rfl rfl rfl rfl (by simp) ?_)
 refine zA (yF sc9 rfl rfl (fun _ h => xD h (j := 0) (i := 1) rfl rfl) ?_)
 refine oO 10 rfl (zB rE rfl rfl ?_)
 refine zA (tX 0 sc104 rfl rfl rfl (rJ hm) (by rw [Nat.zero_add]; exact hc0) ?_)
 refine oO 3 rfl (op_lookup1 1 mp104 st9 rfl rfl rfl rfl ?_)
 refine oK 3 [9, 8, 4] rfl rfl (rO 5 rfl ?_)
 refine zO rfl rfl rfl (c168 rest 47 hr2) sub0 (fun u51 D51 hv51 => ?_)
 obtain ⟨A51, c51, l51, rfl, rfl, hl51⟩ := hv51
 obtain rfl := hsp2 _ hl51
 refine oO 8 rfl (zW sl22 rfl rfl ?_)
 refine oO 9 rfl (zW sl22 rfl rfl ?_)
 refine oO 9 rfl (xQ (i := 1) 0 sl22 rfl rfl rfl rfl (by simp) ?_)
 refine zA (yF sc9 rfl rfl (fun _ h => xD h (j := 0) (i := 1) rfl rfl) ?_)
 refine oK 1 [61, 10, 9, 4] rfl rfl (rR 8 rfl ?_)
 refine zK rfl (fun h62 => ?_) (fun h62 => ?_)
 ·refine sL 4 32 rfl hm (by decide) (by decide) (fun pq hcq hpq => ?_)
  refine run_gfv 4 32 rfl hm (by decide) (by decide) hcq (hdef h62) (qF 0 rfl (fun pl sl nbs hu => ?_))
  cases hu
  refine sU 1 rfl (fun A1 c1 hx hk1 hk2 => ?_)
  subst hx
  refine sX 2 rfl (fun hnl => ?_)
  unfold maxLen at hk2
  refine rO 7 rfl (zB pK rfl rfl ?_)
  refine zA (tX 0 sc118 rfl rfl rfl (rJ hm) (by rw [Nat.zero_add]; exact hcq) ?_)
  refine oO 10 rfl (yT 0 sc110 rfl rfl rfl ?_)
  refine zA (zW sl110 rfl rfl ?_)
  refine oK 3 [72, 71, 70, 10, 4] rfl rfl (rK 1 [72, 4, 71, 70, 10] rfl rfl ?_)
  refine yS 2 (fun (⟨i, o⟩ : Nat × Option Nat) => i ≤ nbs.length ∧ FndO (l.take i) name o) (fun (⟨i, o⟩ : Nat × Option Nat) => [(72, .int .i64 ((i : Nat) : Int)), (4, oP o)]) (fun (⟨i, o⟩ : Nat × Option Nat) => nbs.length - i) (0, none) (⟨Nat.zero_le _, fun q hq => by cases hq⟩) (eC rfl (eC rfl (eN _))) ?_ (eC rfl (eC rfl (eC rfl (eN _))))
  intro ⟨i, o⟩ hI K hK
  change Run _ _ _ _ _ [(72, _), (4, _), (71, _), (70, _), (10, _)] (_) (_)
  obtain ⟨hi, hF⟩ := hI
  refine rO 3 rfl (yO rfl rfl rfl ?_)
  refine oR 2 rfl (zK rfl (fun h73 => ?_) (fun h73 => ?_))
  ·refine rO 6 rfl ?_
   have hlt : i < nbs.length := h73
   have hll : i < l.length := by omega
   refine uQ 1 sl110 rfl rfl rfl rfl hlt (ops_nam 2 i rfl (List.getElem?_eq_getElem hll) (List.getElem?_eq_getElem hlt) (fun hks => ?_))
   refine zA (yF sc125 rfl rfl (fun _ h => tK h (j := 2) rfl (List.getElem?_eq_getElem hlt)) ?_)
   refine oR 4 rfl (yU yJ ?_)
   refine zU (tP 0 rfl wanted0 (zY rfl) ?_)
   refine tP 1 rfl wanted0 (yW rfl) (tP 2 rfl wanted0 (zZ fo179_0 rfl) ?_)
   refine tP 4 rfl wanted0 (zY rfl) (yD ?_)
   refine tM 3 rfl wanted0 (wV 0 sc9 rfl rfl rfl) (tM 5 rfl wanted0 (vZ (i := 2) 5 sl22 rfl rfl rfl (by simp)) ?_)
   refine tM 6 rfl wanted0 (vS sc9 rfl (fun _ h => xD h (j := 5) (i := 2) rfl rfl)) (tM 7 rfl wanted0 (rC rfl rfl) ?_)
   refine yH (by decide +kernel) (rK 0 [83, 13, 72, 4, 71, 70, 10] rfl rfl ?_)
   refine zK rfl (fun h83 => ?_) (fun h83 => ?_)
   ·refine rO 6 rfl (zB fo179_1 rfl rfl ?_)
    refine zA (zG 0 sc63 rfl rfl rfl rfl ?_)
    refine oO 6 rfl (yC rfl rfl (by omega) ?_)
    refine oR 3 rfl ?_
    exact kQ (hK (i + 1, some l[i].2) (⟨(by show i + 1 ≤ _; omega), FndO.hit hll h83⟩) (by show nbs.length - (i + 1) < nbs.length - i; omega)) (eC rfl (eC rfl (eC rfl (eC rfl (eC rfl (eN _))))))
   refine rO 4 rfl (yC rfl rfl (by omega) ?_)
   refine oR 3 rfl ?_
   exact kQ (hK (i + 1, o) (⟨(by show i + 1 ≤ _; omega), hF.miss hll h83⟩) (by show nbs.length - (i + 1) < nbs.length - i; omega)) (eC rfl (eC rfl (eC rfl (eC rfl (eC rfl (eN _))))))
  obtain rfl : i = nbs.length := by omega
  rw [hnl, List.take_length] at hF
  refine rO 8 rfl (vG pn63 rfl rfl ?_)
  refine yB (yG rfl (fun h117 => ?_) (fun h117 => ?_))
  ·refine rO 3 rfl (zO rfl rfl rfl (c169 _) sub0 (fun u118 D118 hv118 => ?_))
   refine oR 5 rfl ?_
   obtain ⟨S9, v9, rfl, rfl⟩ := hv118
   obtain rfl : o = none := by cases o with | none => rfl | some q => cases h117
   exact wK Tryz.results114 rfl rfl ⟨rfl, rfl, none, _, rfl, hF, .inr ⟨rfl, S9, v9, rfl⟩⟩ (List.Sublist.refl _) (by first | exact sub1 0 rfl | exact sub1 1 rfl | exact sub1 2 rfl | exact sub1 3 rfl | exact sub1 4 rfl | exact sub1 5 rfl | exact sub1 6 rfl | exact sub1 7 rfl | exact sub1 8 rfl | exact sub1 9 rfl | exact sub1 10 rfl | exact sub1 11 rfl | exact sub1 12 rfl | exact sub1 13 rfl)
  refine rR 10 rfl ?_
  obtain ⟨q, rfl⟩ : ∃ q, o = some q := by cases o with | none => cases h117 | some q => exact ⟨q, rfl⟩
  exact wK Tryz.results114 rfl rfl ⟨rfl, rfl, some q, _, rfl, hF, .inl ⟨rfl, rfl⟩⟩ (List.Sublist.refl _) (by first | exact sub1 0 rfl | exact sub1 1 rfl | exact sub1 2 rfl | exact sub1 3 rfl | exact sub1 4 rfl | exact sub1 5 rfl | exact sub1 6 rfl | exact sub1 7 rfl | exact sub1 8 rfl | exact sub1 9 rfl | exact sub1 10 rfl | exact sub1 11 rfl | exact sub1 12 rfl | exact sub1 13 rfl)
 refine sL 4 23 rfl hm (by decide) (by decide) (fun pq hcq hpq => ?_)
 refine run_gfv 4 23 rfl hm (by decide) (by decide) hcq (hprop (hpt.resolve_left h62)) (qF 0 rfl (fun pl sl nbs hu => ?_))
 cases hu
 refine sU 1 rfl (fun A1 c1 hx hk1 hk2 => ?_)
 subst hx
 refine sX 2 rfl (fun hnl => ?_)
 unfold maxLen at hk2
 refine rR 7 rfl (wC rfl (decide_eq_true (hpt.resolve_left h62)) ?_)
 refine rO 7 rfl (zB pJ rfl rfl ?_)
 refine zA (tX 0 sc118 rfl rfl rfl (rJ hm) (by rw [Nat.zero_add]; exact hcq) ?_)
 refine oK 3 [14, 10, 4] rfl rfl (rO 7 rfl ?_)
 refine yT 0 sc110 rfl rfl rfl (zA ?_)
 refine zW sl110 rfl rfl (oK 4 [99, 4, 98, 97, 10] rfl rfl ?_)
 refine yS 2 (fun (⟨i, o⟩ : Nat × Option Nat) => i ≤ nbs.length ∧ FndO (l.take i) name o) (fun (⟨i, o⟩ : Nat × Option Nat) => [(99, .int .i64 ((i : Nat) : Int)), (4, oP o)]) (fun (⟨i, o⟩ : Nat × Option Nat) => nbs.length - i) (0, none) (⟨Nat.zero_le _, fun q hq => by cases hq⟩) (eC rfl (eC rfl (eN _))) ?_ (eC rfl (eC rfl (eC rfl (eN _))))
 intro ⟨i, o⟩ hI K hK1
 change Run _ _ _ _ _ [(99, _), (4, _), (98, _), (97, _), (10, _)] (_) (_)
 obtain ⟨hi, hF⟩ := hI
 refine rO 3 rfl (yO rfl rfl rfl ?_)
 refine oR 2 rfl (zK rfl (fun h100 => ?_) (fun h100 => ?_))
 ·refine rO 6 rfl ?_
  have hlt : i < nbs.length := h100
  have hll : i < l.length := by omega
  refine uQ 1 sl110 rfl rfl rfl rfl hlt (ops_nam 2 i rfl (List.getElem?_eq_getElem hll) (List.getElem?_eq_getElem hlt) (fun hks => ?_))
  refine zA (yF sc125 rfl rfl (fun _ h => tK h (j := 2) rfl (List.getElem?_eq_getElem hlt)) ?_)
  refine oR 4 rfl (yU yJ ?_)
  refine zU (tP 0 rfl wanted0 (zY rfl) ?_)
  refine tP 1 rfl wanted0 (yW rfl) (tP 2 rfl wanted0 (zZ fo179_0 rfl) ?_)
  refine tP 4 rfl wanted0 (zY rfl) (yD ?_)
  refine tM 3 rfl wanted0 (wV 0 sc9 rfl rfl rfl) (tM 5 rfl wanted0 (vZ (i := 2) 5 sl22 rfl rfl rfl (by simp)) ?_)
  refine tM 6 rfl wanted0 (vS sc9 rfl (fun _ h => xD h (j := 5) (i := 2) rfl rfl)) (tM 7 rfl wanted0 (rC rfl rfl) ?_)
  refine yH (by decide +kernel) (rK 0 [110, 16, 99, 4, 98, 97, 10] rfl rfl ?_)
  refine zK rfl (fun h110 => ?_) (fun h110 => ?_)
  ·refine rO 6 rfl (zB fo179_1 rfl rfl ?_)
   refine zA (zG 0 sc63 rfl rfl rfl rfl ?_)
   refine oO 6 rfl (yC rfl rfl (by omega) ?_)
   refine oR 3 rfl ?_
   exact kQ (hK1 (i + 1, some l[i].2) (⟨(by show i + 1 ≤ _; omega), FndO.hit hll h110⟩) (by show nbs.length - (i + 1) < nbs.length - i; omega)) (eC rfl (eC rfl (eC rfl (eC rfl (eC rfl (eN _))))))
  refine rO 4 rfl (yC rfl rfl (by omega) ?_)
  refine oR 3 rfl ?_
  exact kQ (hK1 (i + 1, o) (⟨(by show i + 1 ≤ _; omega), hF.miss hll h110⟩) (by show nbs.length - (i + 1) < nbs.length - i; omega)) (eC rfl (eC rfl (eC rfl (eC rfl (eC rfl (eN _))))))
 obtain rfl : i = nbs.length := by omega
 rw [hnl, List.take_length] at hF
 refine rO 8 rfl (vG pn63 rfl rfl ?_)
 refine yB (yG rfl (fun h117 => ?_) (fun h117 => ?_))
 ·refine rO 3 rfl (zO rfl rfl rfl (c169 _) sub0 (fun u118 D118 hv118 => ?_))
  refine oR 5 rfl ?_
  obtain ⟨S9, v9, rfl, rfl⟩ := hv118
  obtain rfl : o = none := by cases o with | none => rfl | some q => cases h117
  exact wK Tryz.results114 rfl rfl ⟨rfl, rfl, none, _, rfl, hF, .inr ⟨rfl, S9, v9, rfl⟩⟩ (List.Sublist.refl _) (by first | exact sub1 0 rfl | exact sub1 1 rfl | exact sub1 2 rfl | exact sub1 3 rfl | exact sub1 4 rfl | exact sub1 5 rfl | exact sub1 6 rfl | exact sub1 7 rfl | exact sub1 8 rfl | exact sub1 9 rfl | exact sub1 10 rfl | exact sub1 11 rfl | exact sub1 12 rfl | exact sub1 13 rfl)
 refine rR 10 rfl ?_
 obtain ⟨q, rfl⟩ : ∃ q, o = some q := by cases o with | none => cases h117 | some q => exact ⟨q, rfl⟩
 exact wK Tryz.results114 rfl rfl ⟨rfl, rfl, some q, _, rfl, hF, .inl ⟨rfl, rfl⟩⟩ (List.Sublist.refl _) (by first | exact sub1 0 rfl | exact sub1 1 rfl | exact sub1 2 rfl | exact sub1 3 rfl | exact sub1 4 rfl | exact sub1 5 rfl | exact sub1 6 rfl | exact sub1 7 rfl | exact sub1 8 rfl | exact sub1 9 rfl | exact sub1 10 rfl | exact sub1 11 rfl | exact sub1 12 rfl | exact sub1 13 rfl)
theorem c114b (mb b ck : Nat) (G : Gr) (cs : List Value) (f : Flds) (idt ref p0 rest part name : ByteArray) (l : List (ByteArray × Nat)) (hm : (b, cs, f) ∈ G) (hid : f 2 = some (.text idt)) (hr1 : ref.size ≤ 2147483648) (hr2 : rest.size ≤ 2147483648) (hp0 : p0.size ≤ 1000) (hsp : ∀ l, Spl 35 ref l → l = [p0, rest]) (hsp2 : ∀ l, Spl 47 rest l → l = [⟨#[]⟩, part, name]) (hpt : part = kDefs ∨ part = kProps) (hdef : part = kDefs → f 32 = some (.named l)) (hprop : part = kProps → f 23 = some (.named l)) (hbe : p0 ++ (⟨#[35]⟩ : ByteArray) = idt) (hne : ¬ idt = (⟨#[35]⟩ : ByteArray)) : Ct Tryz.prog 114 #[ptr b, .string ref] [.many 124 (Gr.blks G), HA.obj mb (.map #[{ key := .string idt, val := ptr b, born := 0 }] ck)] [.graph mb G] (fun u M' D' => M' = [.many 124 (Gr.blks G), HA.obj mb (.map #[{ key := .string idt, val := ptr b, born := 0 }] ck)] ∧ D' = [.graph mb G] ∧ ∃ o er, u = .tuple #[oP o, er] ∧ FndO l name o ∧ ((o.isSome = true ∧ er = .nilIface) ∨ (o = none ∧ ∃ S v, er = .iface S v))) := by
 refine Ct.of_run (args := [ptr b, .string ref]) Tryz.func114 (by kernel_rfl) rfl Tryz.ntmps114 rfl (fun c => ?_)
 refine uZ (p := cs[0]? = some (.map (some mb))) (fun w ok h => ((dget h 0 rfl : (DA.graph mb G).p w ok) _ hm).2.1) (fun hc0 => ?_)
 refine sL 0 2 rfl hm (by decide) (by decide) (fun p2 hc2 hp2 => ?_)
 refine run_gfv 0 2 rfl hm (by decide) (by decide) hc2 hid (pS 0 rfl (fun pt hpt2 hsz2 => ?_))
 cases hpt2
 refine rO 12 rfl (zO rfl rfl rfl (c168 ref 35 hr1) sub0 (fun u18 D18 hv18 => ?_))
 obtain ⟨A18, c18, l18, rfl, rfl, hl18⟩ := hv18
 obtain rfl := hsp _ hl18
 refine oO 9 rfl (zW sl22 rfl rfl ?_)
 refine oO 9 rfl (xQ (i := 0) 0 sl22 rfl rfl rfl rfl (by simp) ?_)
 refine zA (yF sc9 rfl rfl (fun _ h => xD h (j := 0) (i := 0) rfl rfl) ?_)
 refine zA (op_sadd rfl rfl rfl (by show p0.size + 1 ≤ _; omega) ?_)
 rw [hbe]
 refine oK 3 [7, 6, 4, 0] rfl rfl (rS 9 rfl ?_)
 refine wH (s := 28) rfl (decide_eq_false hne) (oO 15 rfl ?_)
 refine xQ (i := 1) 0 sl22 rfl rfl rfl rfl (by simp) (zA ?_)
 refine yF sc9 rfl rfl (fun _ h => xD h (j := 0) (i := 1) rfl rfl) (oK 3 [8, 7, 4, 0] rfl rfl ?_)
 refine rO 7 rfl (zB rE rfl rfl ?_)
 refine zA (tX 0 sc104 rfl rfl rfl (rJ hm) (by rw [Nat.zero_add]; exact hc0) ?_)
 refine oO 3 rfl (op_lookup1 1 mp104 st9 rfl rfl rfl rfl ?_)
 refine oO 8 rfl (zO rfl rfl rfl (c168 rest 47 hr2) sub0 (fun u51 D51 hv51 => ?_))
 obtain ⟨A51, c51, l51, rfl, rfl, hl51⟩ := hv51
 obtain rfl := hsp2 _ hl51
 refine oK 3 [10, 9, 4] rfl rfl (rO 5 rfl ?_)
 refine zW sl22 rfl rfl (oO 9 rfl ?_)
 refine zW sl22 rfl rfl (oO 9 rfl ?_)
 refine xQ (i := 1) 0 sl22 rfl rfl rfl rfl (by simp) (zA ?_)
 refine yF sc9 rfl rfl (fun _ h => xD h (j := 0) (i := 1) rfl rfl) (oK 9 [62, 61, 10, 9, 4] rfl rfl ?_)
 refine zK rfl (fun h62 => ?_) (fun h62 => ?_)
 ·refine sL 4 32 rfl hm (by decide) (by decide) (fun pq hcq hpq => ?_)
  refine run_gfv 4 32 rfl hm (by decide) (by decide) hcq (hdef h62) (qF 0 rfl (fun pl sl nbs hu => ?_))
  cases hu
  refine sU 1 rfl (fun A1 c1 hx hk1 hk2 => ?_)
  subst hx
  refine sX 2 rfl (fun hnl => ?_)
  unfold maxLen at hk2
  refine rO 7 rfl (zB pK rfl rfl ?_)
  refine zA (tX 0 sc118 rfl rfl rfl (rJ hm) (by rw [Nat.zero_add]; exact hcq) ?_)
  refine oO 10 rfl (yT 0 sc110 rfl rfl rfl ?_)
  refine zA (zW sl110 rfl rfl ?_)
  refine oK 3 [72, 71, 70, 10, 4] rfl rfl (rK 1 [72, 4, 71, 70, 10] rfl rfl ?_)
  refine yS 2 (fun (⟨i, o⟩ : Nat × Option Nat) => i ≤ nbs.length ∧ FndO (l.take i) name o) (fun (⟨i, o⟩ : Nat × Option Nat) => [(72, .int .i64 ((i : Nat) : Int)), (4, oP o)]) (fun (⟨i, o⟩ : Nat × Option Nat) => nbs.length - i) (0, none) (⟨Nat.zero_le _, fun q hq => by cases hq⟩) (eC rfl (eC rfl (eN _))) ?_ (eC rfl (eC rfl (eC rfl (eN _))))
  intro ⟨i, o⟩ hI K hK
  change Run _ _ _ _ _ [(72, _), (4, _), (71, _), (70, _), (10, _)] (_) (_)
  obtain ⟨hi, hF⟩ := hI
  refine rO 3 rfl (yO rfl rfl rfl ?_)
  refine oR 2 rfl (zK rfl (fun h73 => ?_) (fun h73 => ?_))
  ·refine rO 6 rfl ?_
   have hlt : i < nbs.length := h73
   have hll : i < l.length := by omega
   refine uQ 1 sl110 rfl rfl rfl rfl hlt (ops_nam 2 i rfl (List.getElem?_eq_getElem hll) (List.getElem?_eq_getElem hlt) (fun hks => ?_))
   refine zA (yF sc125 rfl rfl (fun _ h => tK h (j := 2) rfl (List.getElem?_eq_getElem hlt)) ?_)
   refine oR 4 rfl (yU yJ ?_)
   refine zU (tP 0 rfl wanted0 (zY rfl) ?_)
   refine tP 1 rfl wanted0 (yW rfl) (tP 2 rfl wanted0 (zZ fo179_0 rfl) ?_)
   refine tP 4 rfl wanted0 (zY rfl) (yD ?_)
   refine tM 3 rfl wanted0 (wV 0 sc9 rfl rfl rfl) (tM 5 rfl wanted0 (vZ (i := 2) 5 sl22 rfl rfl rfl (by simp)) ?_)
   refine tM 6 rfl wanted0 (vS sc9 rfl (fun _ h => xD h (j := 5) (i := 2) rfl rfl)) (tM 7 rfl wanted0 (rC rfl rfl) ?_)
   refine yH (by decide +kernel) (rK 0 [83, 13, 72, 4, 71, 70, 10] rfl rfl ?_)
   refine zK rfl (fun h83 => ?_) (fun h83 => ?_)
   ·refine rO 6 rfl (zB fo179_1 rfl rfl ?_)
    refine zA (zG 0 sc63 rfl rfl rfl rfl ?_)
    refine oO 6 rfl (yC rfl rfl (by omega) ?_)
    refine oR 3 rfl ?_
    exact kQ (hK (i + 1, some l[i].2) (⟨(by show i + 1 ≤ _; omega), FndO.hit hll h83⟩) (by show nbs.length - (i + 1) < nbs.length - i; omega)) (eC rfl (eC rfl (eC rfl (eC rfl (eC rfl (eN _))))))
   refine rO 4 rfl (yC rfl rfl (by omega) ?_)
   refine oR 3 rfl ?_
   exact kQ (hK (i + 1, o) (⟨(by show i + 1 ≤ _; omega), hF.miss hll h83⟩) (by show nbs.length - (i + 1) < nbs.length - i; omega)) (eC rfl (eC rfl (eC rfl (eC rfl (eC rfl (eN _))))))
  obtain rfl : i = nbs.length := by omega
  rw [hnl, List.take_length] at hF
  refine rO 8 rfl (vG pn63 rfl rfl ?_)
  refine yB (yG rfl (fun h117 => ?_) (fun h117 => ?_))
  ·refine rO 3 rfl (zO rfl rfl rfl (c169 _) sub0 (fun u118 D118 hv118 => ?_))
   refine oR 5 rfl ?_
   obtain ⟨S9, v9, rfl, rfl⟩ := hv118
   obtain rfl : o = none := by cases o with | none => rfl | some q => cases h117
   exact wK Tryz.results114 rfl rfl ⟨rfl, rfl, none, _, rfl, hF, .inr ⟨rfl, S9, v9, rfl⟩⟩ (List.Sublist.refl _) (by first | exact sub1 0 rfl | exact sub1 1 rfl | exact sub1 2 rfl | exact sub1 3 rfl | exact sub1 4 rfl | exact sub1 5 rfl | exact sub1 6 rfl | exact sub1 7 rfl | exact sub1 8 rfl | exact sub1 9 rfl | exact sub1 10 rfl | exact sub1 11 rfl | exact sub1 12 rfl | exact sub1 13 rfl)
  refine rR 10 rfl ?_
  obtain ⟨q, rfl⟩ : ∃ q, o = some q := by cases o with | none => cases h117 | some q => exact ⟨q, rfl⟩
  exact wK Tryz.results114 rfl rfl ⟨rfl, rfl, some q, _, rfl, hF, .inl ⟨rfl, rfl⟩⟩ (List.Sublist.refl _) (by first | exact sub1 0 rfl | exact sub1 1 rfl | exact sub1 2 rfl | exact sub1 3 rfl | exact sub1 4 rfl | exact sub1 5 rfl | exact sub1 6 rfl | exact sub1 7 rfl | exact sub1 8 rfl | exact sub1 9 rfl | exact sub1 10 rfl | exact sub1 11 rfl | exact sub1 12 rfl | exact sub1 13 rfl)
 refine sL 4 23 rfl hm (by decide) (by decide) (fun pq hcq hpq => ?_)
 refine run_gfv 4 23 rfl hm (by decide) (by decide) hcq (hprop (hpt.resolve_left h62)) (qF 0 rfl (fun pl sl nbs hu => ?_))
 cases hu
 refine sU 1 rfl (fun A1 c1 hx hk1 hk2 => ?_)
 subst hx
 refine sX 2 rfl (fun hnl => ?_)
 unfold maxLen at hk2
 refine rR 7 rfl (wC rfl (decide_eq_true (hpt.resolve_left h62)) ?_)
 refine rO 7 rfl (zB pJ rfl rfl ?_)
 refine zA (tX 0 sc118 rfl rfl rfl (rJ hm) (by rw [Nat.zero_add]; exact hcq) ?_)
 refine oK 3 [14, 10, 4] rfl rfl (rO 7 rfl ?_)
 refine yT 0 sc110 rfl rfl rfl (zA ?_)
 refine zW sl110 rfl rfl (oK 4 [99, 4, 98, 97, 10] rfl rfl ?_)
 refine yS 2 (fun (⟨i, o⟩ : Nat × Option Nat) => i ≤ nbs.length ∧ FndO (l.take i) name o) (fun (⟨i, o⟩ : Nat × Option Nat) => [(99, .int .i64 ((i : Nat) : Int)), (4, oP o)]) (fun (⟨i, o⟩ : Nat × Option Nat) => nbs.length - i) (0, none) (⟨Nat.zero_le _, fun q hq => by cases hq⟩) (eC rfl (eC rfl (eN _))) ?_ (eC rfl (eC rfl (eC rfl (eN _))))
 intro ⟨i, o⟩ hI K hK1
 change Run _ _ _ _ _ [(99, _), (4, _), (98, _), (97, _), (10, _)] (_) (_)
 obtain ⟨hi, hF⟩ := hI
 refine rO 3 rfl (yO rfl rfl rfl ?_)
 refine oR 2 rfl (zK rfl (fun h100 => ?_) (fun h100 => ?_))
 ·refine rO 6 rfl ?_
  have hlt : i < nbs.length := h100
  have hll : i < l.length := by omega
  refine uQ 1 sl110 rfl rfl rfl rfl hlt (ops_nam 2 i rfl (List.getElem?_eq_getElem hll) (List.getElem?_eq_getElem hlt) (fun hks => ?_))
  refine zA (yF sc125 rfl rfl (fun _ h => tK h (j := 2) rfl (List.getElem?_eq_getElem hlt)) ?_)
  refine oR 4 rfl (yU yJ ?_)
  refine zU (tP 0 rfl wanted0 (zY rfl) ?_)
  refine tP 1 rfl wanted0 (yW rfl) (tP 2 rfl wanted0 (zZ fo179_0 rfl) ?_)
  refine tP 4 rfl wanted0 (zY rfl) (yD ?_)
  refine tM 3 rfl wanted0 (wV 0 sc9 rfl rfl rfl) (tM 5 rfl wanted0 (vZ (i := 2) 5 sl22 rfl rfl rfl (by simp)) ?_)
  refine tM 6 rfl wanted0 (vS sc9 rfl (fun _ h => xD h (j := 5) (i := 2) rfl rfl)) (tM 7 rfl wanted0 (rC rfl rfl) ?_)
  refine yH (by decide +kernel) (rK 0 [110, 16, 99, 4, 98, 97, 10] rfl rfl ?_)
  refine zK rfl (fun h110 => ?_) (fun h110 => ?_)
  ·refine rO 6 rfl (zB fo179_1 rfl rfl ?_)
   refine zA (zG 0 sc63 rfl rfl rfl rfl ?_)
   refine oO 6 rfl (yC rfl rfl (by omega) ?_)
   refine oR 3 rfl ?_
   exact kQ (hK1 (i + 1, some l[i].2) (⟨(by show i + 1 ≤ _; omega), FndO.hit hll h110⟩) (by show nbs.length - (i + 1) < nbs.length - i; omega)) (eC rfl (eC rfl (eC rfl (eC rfl (eC rfl (eN _))))))
  refine rO 4 rfl (yC rfl rfl (by omega) ?_)
  refine oR 3 rfl ?_
  exact kQ (hK1 (i + 1, o) (⟨(by show i + 1 ≤ _; omega), hF.miss hll h110⟩) (by show nbs.length - (i + 1) < nbs.length - i; omega)) (eC rfl (eC rfl (eC rfl (eC rfl (eC rfl (eN _))))))
 obtain rfl : i = nbs.length := by omega
 rw [hnl, List.take_length] at hF
 refine rO 8 rfl (vG pn63 rfl rfl ?_)
 refine yB (yG rfl (fun h117 => ?_) (fun h117 => ?_))
 ·refine rO 3 rfl (zO rfl rfl rfl (c169 _) sub0 (fun u118 D118 hv118 => ?_))
  refine oR 5 rfl ?_
  obtain ⟨S9, v9, rfl, rfl⟩ := hv118
  obtain rfl : o = none := by cases o with | none => rfl | some q => cases h117
  exact wK Tryz.results114 rfl rfl ⟨rfl, rfl, none, _, rfl, hF, .inr ⟨rfl, S9, v9, rfl⟩⟩ (List.Sublist.refl _) (by first | exact sub1 0 rfl | exact sub1 1 rfl | exact sub1 2 rfl | exact sub1 3 rfl | exact sub1 4 rfl | exact sub1 5 rfl | exact sub1 6 rfl | exact sub1 7 rfl | exact sub1 8 rfl | exact sub1 9 rfl | exact sub1 10 rfl | exact sub1 11 rfl | exact sub1 12 rfl | exact sub1 13 rfl)
 refine rR 10 rfl ?_
 obtain ⟨q, rfl⟩ : ∃ q, o = some q := by cases o with | none => cases h117 | some q => exact ⟨q, rfl⟩
 exact wK Tryz.results114 rfl rfl ⟨rfl, rfl, some q, _, rfl, hF, .inl ⟨rfl, rfl⟩⟩ (List.Sublist.refl _) (by first | exact sub1 0 rfl | exact sub1 1 rfl | exact sub1 2 rfl | exact sub1 3 rfl | exact sub1 4 rfl | exact sub1 5 rfl | exact sub1 6 rfl | exact sub1 7 rfl | exact sub1 8 rfl | exact sub1 9 rfl | exact sub1 10 rfl | exact sub1 11 rfl | exact sub1 12 rfl | exact sub1 13 rfl)
end Go.Jw

namespace Go.Jw
open Go Go.RowKit Go.Proofs
theorem fld_id {U : Nat → V → Prop} {v idv : V} {f : Flds} (h : FldRel U v 2 (f 2)) (hg : getV v kId = some idv) : f 2 = some (.text idv.text) := by
  cases hf : f 2 with
  | none => rw [hf] at h; have := h kId (by decide +kernel); rw [this] at hg; cases hg
  | some fv =>
    rw [hf] at h
    obtain ⟨key, x, hk, hx, hr⟩ := h
    obtain rfl := kwI hk kId (by decide +kernel) (by decide)
    rw [hx] at hg
    cases hg
    rw [text_of hr]
theorem fld_nam {U : Nat → V → Prop} {v x : V} {f : Flds} {key : ByteArray} {q : Nat} (h : FldRel U v q (f q)) (hk : kwIdx key = q) (h0 : q ≠ 0) (h9 : shIdx q = 9) (hg : getV v key = some x) : ∃ l ps, f q = some (.named l) ∧ ps.Perm (x.keys.zip x.items) ∧ All2 (fun (q : ByteArray × Nat) (p : ByteArray × V) => q.1 = p.1 ∧ U q.2 p.2) l ps := by
  cases hf : f q with
  | none => rw [hf] at h; have := h key hk; rw [this] at hg; cases hg
  | some fv =>
    rw [hf] at h
    obtain ⟨key', x', hk', hx, hr⟩ := h
    obtain rfl := kwI hk' key hk h0
    rw [hx] at hg
    cases hg
    rw [h9] at hr
    obtain ⟨l, ps, rfl, h1, h2⟩ := named_of hr
    exact ⟨l, ps, rfl, h1, h2⟩
theorem fndO_l {l : List (ByteArray × Nat)} {name : ByteArray} {o : Option Nat} (h : FndO l name o) : FndL l name (oP o) := by
  cases o with
  | some b => obtain ⟨q, hq, h1, h2⟩ := h; exact .inl ⟨q, hq, h1, by rw [← h2]; rfl⟩
  | none => exact .inr ⟨rfl, h⟩
theorem noIdB_of {v : V} (h : ∀ z ∈ kidsV v, NoId z) : NoIdB v := fun j k u hk hu z hz => h z (by
 unfold kidsV
 rw [List.mem_flatMap]
 refine ⟨(k, u), ?_, hz⟩
 have : (v.keys.zip v.items)[j]? = some (k, u) := by rw [List.getElem?_zip_eq_some]; exact ⟨hk, hu⟩
 exact List.mem_of_getElem? this)
theorem noId_deep (v : V) : DeepV (fun z => ¬ IdS z) v → NoId v := by
  refine V.indS (p := fun v => DeepV (fun z => ¬ IdS z) v → NoId v) (fun v IH h => ?_) v
  obtain ⟨h1, h2⟩ := (deep_iff _ _).1 h
  refine (noId_iff v).2 ⟨?_, noIdB_of fun z hz => IH z (qZ hz) (h2 z hz)⟩
  cases hg : getV v kId with
  | none => rfl
  | some a => exact absurd (.inl (by rw [hg]; rfl)) h1
theorem root_noid {v : V} (h : IsRootV v) : NoIdB v := noIdB_of fun z hz => noId_deep z (h.2.2.2 z hz)
theorem root_id {v : V} (h : IsRootV v) : ∃ idv, getV v kId = some idv ∧ IdOk idv.text := by
  cases hg : getV v kId with
  | none => have := h.1; unfold idT at this; rw [hg] at this; exact absurd this (by decide)
  | some idv =>
    have e : idT v = idv.text := by unfold idT; rw [hg]; rfl
    refine ⟨idv, rfl, ?_⟩
    have h1 := h.1; have h2 := h.2.1; have h3 := h.2.2.1
    rw [e] at h1 h2 h3
    exact ⟨h1, h2, h3⟩
theorem idT_norm {v : V} (hs : IsShape v) (hp : Pl v) : idT (normalV v) = idT v := by
  unfold idT
  rw [norm_get hs hp, if_pos (by decide +kernel)]
  cases getV v kId with
  | none => rfl
  | some a => rfl
def kOf (part : ByteArray) : Int := if part = kDefs then 3 else 1
theorem tO {id ref : ByteArray} {p : ByteArray × ByteArray} (h : headOf id ref = some p) : Mat ref p.1 p.2 ∧ (p.1 = kHash ∨ p.1 = id) ∧ (p.2 = kDefs ∨ p.2 = kProps) := by
 have h1 := List.find?_some h
 have h2 := List.mem_of_find?_eq_some h
 refine ⟨yI.1 h1, ?_⟩
 simp only [heads, List.mem_cons, List.not_mem_nil, or_false] at h2
 rcases h2 with rfl | rfl | rfl | rfl <;> simp
theorem kOf_key {part : ByteArray} (h : part = kDefs ∨ part = kProps) : keyK (kOf part) = part ∧ isKw (keyK (kOf part)) = true := by
 rcases h with rfl | rfl
 ·exact ⟨by decide +kernel, by decide +kernel⟩
 ·exact ⟨by decide +kernel, by decide +kernel⟩
theorem pt_norm {v : V} {ref : ByteArray} {p : ByteArray × ByteArray} (hs : IsShape v) (hp : Pl v) (h : headOf (idT v) ref = some p) : PtV (normalV v) ref = (fnd2 v (kOf p.2) (nmB ref p.1 p.2)).map normalV := by
 obtain ⟨hm, _, hpt⟩ := tO h
 rw [← norm_fnd hs hp]
 unfold PtV get2
 rw [idT_norm hs hp, h, (kOf_key hpt).1]
 rfl
theorem fnd2_k {v : V} {part : ByteArray} (h : part = kDefs ∨ part = kProps) (name : ByteArray) : fnd2 v (kOf part) name = (getV v part).bind fun x => getV x name := by
 unfold fnd2 get2
 rw [if_pos (kOf_key h).2, (kOf_key h).1]
theorem ref_all {v : V} {ref : ByteArray} {p : ByteArray × ByteArray} (hp : Pl v) (hr : IsRootV v) (h : headOf (idT v) ref = some p) : ∃ idv p0 rest, getV v kId = some idv ∧ p0.size ≤ 1000 ∧ rest.size ≤ ref.size ∧ (∀ l, Spl 35 ref l → l = [p0, rest]) ∧ (∀ l, Spl 47 rest l → l = [⟨#[]⟩, p.2, nmB ref p.1 p.2]) ∧
  (p0 ++ (⟨#[35]⟩ : ByteArray) = ⟨#[35]⟩ ∨ (p0 ++ (⟨#[35]⟩ : ByteArray) = idv.text ∧ ¬ idv.text = (⟨#[35]⟩ : ByteArray))) := by
 obtain ⟨hm, hb, hpt⟩ := tO h
 obtain ⟨idv, hid, hok⟩ := root_id hr
 have e : idT v = idv.text := by unfold idT; rw [hid]; rfl
 obtain ⟨q1, q2⟩ := idOk_parts hok
 obtain ⟨p0, e1, e2, e3, e4⟩ : ∃ p0 : ByteArray, bl p.1 = bl p0 ++ [35] ∧ (35 : UInt8) ∉ bl p0 ∧ p0.size ≤ 1000 ∧ (p0 ++ (⟨#[35]⟩ : ByteArray) = ⟨#[35]⟩ ∨ (p0 ++ (⟨#[35]⟩ : ByteArray) = idv.text ∧ ¬ idv.text = (⟨#[35]⟩ : ByteArray))) := by
  rcases hb with h | h
  ·exact ⟨⟨#[]⟩, by rw [h]; rfl, by decide, by decide, .inl (bl_inj (by rw [qM]; rfl))⟩
  ·rw [e] at h
   refine ⟨idv.text.extract 0 (idv.text.size - 1), by rw [h]; exact q1, q2, ?_, .inr ⟨app_hash q1, fun e => ?_⟩⟩
   ·have := pl_text (hp.item _ (tY hid))
    rw [ByteArray.size_extract]
    omega
   ·have := hok.1
    rw [e] at this
    exact absurd this (by decide)
 obtain ⟨rest, h1, h2, h3⟩ := ref_parts hm e1 e2 hpt
 exact ⟨idv, p0, rest, hid, e3, h3, h1, h2, e4⟩
theorem nam_ex {U : Nat → V → Prop} {v x : V} {f : Flds} {part : ByteArray} (h : ∀ i, 1 ≤ i → i ≤ 36 → FldRel U v i (f i)) (hpt : part = kDefs ∨ part = kProps) (hx : getV v part = some x) : ∃ l ps, (part = kDefs → f 32 = some (.named l)) ∧ (part = kProps → f 23 = some (.named l)) ∧ ps.Perm (x.keys.zip x.items) ∧ All2 (fun (q : ByteArray × Nat) (p : ByteArray × V) => q.1 = p.1 ∧ U q.2 p.2) l ps := by
  rcases hpt with rfl | rfl
  · obtain ⟨l, ps, h1, h2, h3⟩ := fld_nam (h 32 (by decide) (by decide)) (by decide +kernel) (by decide) (by decide) hx
    exact ⟨l, ps, fun _ => h1, fun e => absurd e (by decide), h2, h3⟩
  · obtain ⟨l, ps, h1, h2, h3⟩ := fld_nam (h 23 (by decide) (by decide)) (by decide +kernel) (by decide) (by decide) hx
    exact ⟨l, ps, fun e => absurd e (by decide), fun _ => h1, h2, h3⟩
theorem part9 {part : ByteArray} (h : part = kDefs ∨ part = kProps) : shapeOf part = 9 := by
 rcases h with rfl | rfl <;> decide +kernel
theorem res_some {G : Gr} {v xd z : V} {part name : ByteArray} {o : Option Nat} {er : Value} (hf : Fnd G v part name (oP o)) (hx : getV v part = some xd) (hz : getV xd name = some z) (her : (o.isSome = true ∧ er = .nilIface) ∨ (o = none ∧ ∃ S v, er = .iface S v)) : ∃ q, o = some q ∧ er = .nilIface := by
  rcases her with ⟨h1, h2⟩ | ⟨rfl, _⟩
  · cases o with
    | none => cases h1
    | some q => exact ⟨q, rfl, h2⟩
  · rcases hf with ⟨_, _, _, _, _, _, e⟩ | ⟨_, hn⟩
    · cases e
    · rw [hn xd hx] at hz; cases hz
theorem res_none {G : Gr} {v xd : V} {part name : ByteArray} {o : Option Nat} {er : Value} (hf : Fnd G v part name (oP o)) (hx : getV v part = some xd) (hz : getV xd name = none) (her : (o.isSome = true ∧ er = .nilIface) ∨ (o = none ∧ ∃ S v, er = .iface S v)) : ∃ S w, er = .iface S w := by
  rcases her with ⟨h1, h2⟩ | ⟨_, h⟩
  · cases o with
    | none => cases h1
    | some q =>
      rcases hf with ⟨x, y, _, hx', hy, _, _⟩ | ⟨e, _⟩
      · rw [hx] at hx'; cases hx'; rw [hz] at hy; cases hy
      · cases e
  · exact h
end Go.Jw

namespace Go.Jw
open Go Go.RowKit Go.Proofs
set_option maxRecDepth 8000
theorem c114 (mb b ck : Nat) (G : Gr) (cs : List Value) (f : Flds) (idt ref p0 rest part name : ByteArray) (l : List (ByteArray × Nat)) (hm : (b, cs, f) ∈ G) (hid : f 2 = some (.text idt)) (hr1 : ref.size ≤ 2147483648) (hr2 : rest.size ≤ 2147483648) (hp0 : p0.size ≤ 1000) (hsp : ∀ l, Spl 35 ref l → l = [p0, rest]) (hsp2 : ∀ l, Spl 47 rest l → l = [⟨#[]⟩, part, name]) (hpt : part = kDefs ∨ part = kProps) (hdef : part = kDefs → f 32 = some (.named l)) (hprop : part = kProps → f 23 = some (.named l)) (hcase : p0 ++ (⟨#[35]⟩ : ByteArray) = ⟨#[35]⟩ ∨ (p0 ++ (⟨#[35]⟩ : ByteArray) = idt ∧ ¬ idt = (⟨#[35]⟩ : ByteArray))) : Ct Tryz.prog 114 #[ptr b, .string ref] [.many 124 (Gr.blks G), HA.obj mb (.map #[{ key := .string idt, val := ptr b, born := 0 }] ck)] [.graph mb G] (fun u M' D' => M' = [.many 124 (Gr.blks G), HA.obj mb (.map #[{ key := .string idt, val := ptr b, born := 0 }] ck)] ∧ D' = [.graph mb G] ∧ ∃ o er, u = .tuple #[oP o, er] ∧ FndO l name o ∧ ((o.isSome = true ∧ er = .nilIface) ∨ (o = none ∧ ∃ S v, er = .iface S v))) :=
 hcase.elim (fun h => c114a mb b ck G cs f idt ref p0 rest part name l hm hid hr1 hr2 hp0 hsp hsp2 hpt hdef hprop h) (fun h => c114b mb b ck G cs f idt ref p0 rest part name l hm hid hr1 hr2 hp0 hsp hsp2 hpt hdef hprop h.1 h.2)
theorem c73 (mb b ck : Nat) (G : Gr) (cs : List Value) (f : Flds) (idt ref p0 rest part name : ByteArray) (l : List (ByteArray × Nat)) (hm : (b, cs, f) ∈ G) (hid : f 2 = some (.text idt)) (hr1 : ref.size ≤ 2147483648) (hr2 : rest.size ≤ 2147483648) (hp0 : p0.size ≤ 1000) (hsp : ∀ l, Spl 35 ref l → l = [p0, rest]) (hsp2 : ∀ l, Spl 47 rest l → l = [⟨#[]⟩, part, name]) (hpt : part = kDefs ∨ part = kProps) (hdef : part = kDefs → f 32 = some (.named l)) (hprop : part = kProps → f 23 = some (.named l)) (hcase : p0 ++ (⟨#[35]⟩ : ByteArray) = ⟨#[35]⟩ ∨ (p0 ++ (⟨#[35]⟩ : ByteArray) = idt ∧ ¬ idt = (⟨#[35]⟩ : ByteArray))) : Ct Tryz.prog 73 #[ptr b, .string ref] [.many 124 (Gr.blks G), HA.obj mb (.map #[{ key := .string idt, val := ptr b, born := 0 }] ck)] [.graph mb G] (fun u M' D' => M' = [.many 124 (Gr.blks G), HA.obj mb (.map #[{ key := .string idt, val := ptr b, born := 0 }] ck)] ∧ D' = [.graph mb G] ∧ ∃ o er, u = .tuple #[oP o, er] ∧ FndO l name o ∧ ((o.isSome = true ∧ er = .nilIface) ∨ (o = none ∧ ∃ S v, er = .iface S v))) := by
 refine Ct.of_run (args := [ptr b, .string ref]) Tryz.func73 (by kernel_rfl) rfl Tryz.ntmps73 rfl (fun c => ?_)
 refine rO 14 rfl (tR (M1 := [_, _]) rfl rfl rfl (c114 mb b ck G cs f idt ref p0 rest part name l hm hid hr1 hr2 hp0 hsp hsp2 hpt hdef hprop hcase) rfl (sub1 0 rfl) (fun u8 M8 D8 hv8 => ?_))
 obtain ⟨rfl, rfl, o, er, rfl, hF, her⟩ := hv8
 refine oR 9 rfl ?_
 exact wK Tryz.results73 rfl rfl ⟨rfl, rfl, o, er, rfl, hF, her⟩ (List.Sublist.refl _) (by first | exact sub1 0 rfl | exact sub1 1 rfl | exact sub1 2 rfl | exact sub1 3 rfl | exact sub1 4 rfl | exact sub1 5 rfl | exact sub1 6 rfl | exact sub1 7 rfl)
theorem c36s (fb : Addr) (v : V) (x : Value) (ref : ByteArray) (hp : Pl v) (hs : IsShape v) (hroot : IsRootV v) (p : ByteArray × ByteArray) (hh : headOf (idT v) ref = some p) (xd : V) (hxd : getV v p.2 = some xd) (hr : ref.size ≤ 2147483648) (z : V) (hz : getV xd (nmB ref p.1 p.2) = some z) : CtR Tryz.prog 36 #[x, .string ref] [.val x v, .tab, ftA fb] (RO (fnd2 v (kOf p.2) (nmB ref p.1 p.2))) := by
 refine Ct.of_run (args := [x, .string ref]) Tryz.func36 (by kernel_rfl) rfl Tryz.ntmps36 rfl (fun c => ?_)
 refine yV 0 rfl (fun A1 c1 A2 c2 hx hsz1 hk1 hk2 hi1 hi2 => ?_)
 subst hx
 obtain ⟨hmat, hbs, hpt⟩ := tO hh
 obtain ⟨idv, p0, rest, hid, hp0, hrs, hsp, hsp2, hcase⟩ := ref_all hp hroot hh
 obtain ⟨hpx, hx5, hit⟩ := sub_of hs hp (part9 hpt) hxd
 refine rO 3 rfl (yK rfl rfl rfl (fun b2 => ?_))
 refine zA (zS ze34 rfl (fun b4 => ?_))
 change RunOps _ _ _ _ _ _ _ _ (HA.blk _ [_, _, _, _, _, _] _ :: _) _
 refine oO 4 rfl (zM 1 rfl ag25 rfl rfl ?_)
 refine zA ?_
 refine tR (M1 := []) rfl rfl rfl (c57 (ftA fb) false v _ (.inl (numC fb)) hp hs) rfl (by intro d hd; simp only [List.mem_cons, List.not_mem_nil, or_false] at hd ⊢; rcases hd with rfl | rfl | rfl <;> simp) (fun u9 M9 D9 hv9 => ?_)
 obtain ⟨b9, G9, mb9, es9, ck9, rfl, rfl, rfl, hU9, hO9, hN9⟩ := hv9
 obtain rfl := hN9 idv hid (root_noid hroot)
 obtain ⟨f9, ⟨cs9, hm9⟩, hF9⟩ := (qS G9 v b9).1 hU9
 obtain ⟨l9, ps9, hd9, hq9, hperm9, hall9⟩ := nam_ex hF9 hpt hxd
 refine oO 9 rfl (vG pn63 rfl rfl ?_)
 refine oO 10 rfl ?_
 refine tR (M1 := [_, _]) rfl rfl rfl (c73 mb9 b9 ck9 G9 cs9 f9 idv.text ref p0 rest p.2 _ l9 hm9 (fld_id (hF9 2 (by decide) (by decide)) hid) hr (by omega) hp0 hsp hsp2 hpt hd9 hq9 hcase) rfl (sub1 0 rfl) (fun u16 M16 D16 hv16 => ?_)
 obtain ⟨rfl, rfl, o, er, rfl, hFO, her⟩ := hv16
 have hfnd := fnd_of hxd hpx hx5 hperm9 hall9 (fndO_l hFO)
 obtain ⟨qb, rfl, rfl⟩ := res_some hfnd hxd hz her
 refine oK 11 [7, 6, 4] rfl rfl (rO 6 rfl ?_)
 refine op_neqNN if77 rfl rfl (oS 7 rfl ?_)
 refine ops_frMany 0 0 rfl rfl rfl (zA ?_)
 refine zO rfl rfl rfl (c60F fb mb9 G9 v p.2 _ _ (part9 hpt) hs hp hfnd) (by intro d hd; simp only [List.mem_cons, List.not_mem_nil, or_false] at hd ⊢; rcases hd with rfl | rfl | rfl <;> simp) (fun u23 D23 hv23 => ?_)
 obtain ⟨k0, k1, k2, s0, E1, n1, e1, E2, n2, e2, rfl⟩ := ro_agg hv23
 refine zA (zF 1 (M' := [_, HA.blk _ [_, _, _, _, _, _] _, _]) rfl rfl rfl rfl si34 rfl rfl rfl ?_)
 refine yB ?_
 refine vW (M' := [HA.blk b4 [_, _, _, _, _, _] 34]) (by repeat (first | exact yM _ | refine zD 0 rfl ?_ | refine zD 1 rfl ?_ | refine zD 2 rfl ?_ | refine zD 3 rfl ?_ | refine zD 4 rfl ?_)) ?_
 exact xL 0 Tryz.results36 rfl rfl ag34 ⟨rfl, (by rw [fnd2_k hpt]; exact hv23)⟩ nS (fun d hd => List.mem_append_left _ hd)
theorem c36n (fb : Addr) (v : V) (x : Value) (ref : ByteArray) (hp : Pl v) (hs : IsShape v) (hroot : IsRootV v) (p : ByteArray × ByteArray) (hh : headOf (idT v) ref = some p) (xd : V) (hxd : getV v p.2 = some xd) (hr : ref.size ≤ 2147483648) (hz : getV xd (nmB ref p.1 p.2) = none) : CtR Tryz.prog 36 #[x, .string ref] [.val x v, .tab, ftA fb] (RO (fnd2 v (kOf p.2) (nmB ref p.1 p.2))) := by
 refine Ct.of_run (args := [x, .string ref]) Tryz.func36 (by kernel_rfl) rfl Tryz.ntmps36 rfl (fun c => ?_)
 refine yV 0 rfl (fun A1 c1 A2 c2 hx hsz1 hk1 hk2 hi1 hi2 => ?_)
 subst hx
 obtain ⟨hmat, hbs, hpt⟩ := tO hh
 obtain ⟨idv, p0, rest, hid, hp0, hrs, hsp, hsp2, hcase⟩ := ref_all hp hroot hh
 obtain ⟨hpx, hx5, hit⟩ := sub_of hs hp (part9 hpt) hxd
 refine rO 3 rfl (yK rfl rfl rfl (fun b2 => ?_))
 refine zA (zS ze34 rfl (fun b4 => ?_))
 change RunOps _ _ _ _ _ _ _ _ (HA.blk _ [_, _, _, _, _, _] _ :: _) _
 refine oO 4 rfl (zM 1 rfl ag25 rfl rfl ?_)
 refine zA ?_
 refine tR (M1 := []) rfl rfl rfl (c57 (ftA fb) false v _ (.inl (numC fb)) hp hs) rfl (by intro d hd; simp only [List.mem_cons, List.not_mem_nil, or_false] at hd ⊢; rcases hd with rfl | rfl | rfl <;> simp) (fun u9 M9 D9 hv9 => ?_)
 obtain ⟨b9, G9, mb9, es9, ck9, rfl, rfl, rfl, hU9, hO9, hN9⟩ := hv9
 obtain rfl := hN9 idv hid (root_noid hroot)
 obtain ⟨f9, ⟨cs9, hm9⟩, hF9⟩ := (qS G9 v b9).1 hU9
 obtain ⟨l9, ps9, hd9, hq9, hperm9, hall9⟩ := nam_ex hF9 hpt hxd
 refine oO 9 rfl (vG pn63 rfl rfl ?_)
 refine oO 10 rfl ?_
 refine tR (M1 := [_, _]) rfl rfl rfl (c73 mb9 b9 ck9 G9 cs9 f9 idv.text ref p0 rest p.2 _ l9 hm9 (fld_id (hF9 2 (by decide) (by decide)) hid) hr (by omega) hp0 hsp hsp2 hpt hd9 hq9 hcase) rfl (sub1 0 rfl) (fun u16 M16 D16 hv16 => ?_)
 obtain ⟨rfl, rfl, o, er, rfl, hFO, her⟩ := hv16
 have hfnd := fnd_of hxd hpx hx5 hperm9 hall9 (fndO_l hFO)
 obtain ⟨S9, w9, rfl⟩ := res_none hfnd hxd hz her
 refine oK 11 [7, 6, 4] rfl rfl (rO 6 rfl ?_)
 refine op_neqHN if77 rfl rfl (oO 5 rfl ?_)
 refine yQ rfl rfl (bu34_0 ..) (zA ?_)
 refine zF 2 (M' := [_, _, HA.blk _ [_, _, _, _, _, _] _, _]) rfl rfl rfl rfl si34 rfl rfl rfl (yB ?_)
 refine vW (M' := [HA.blk b4 [_, _, _, _, _, _] 34]) (by repeat (first | exact yM _ | refine zD 0 rfl ?_ | refine zD 1 rfl ?_ | refine zD 2 rfl ?_ | refine zD 3 rfl ?_ | refine zD 4 rfl ?_)) ?_
 have hn : fnd2 v (kOf p.2) (nmB ref p.1 p.2) = none := by rw [fnd2_k hpt, hxd]; exact hz
 rw [hn]
 exact xL 0 Tryz.results36 rfl rfl ag34 ⟨rfl, rfl, rfl⟩ nS (fun _ h => by cases h)
theorem l8s (fb : Addr) (v : V) (x : Value) (ref : ByteArray) (hnm : ref.size ≤ maxLen) (p : ByteArray × ByteArray) (hh : headOf (idT v) ref = some p) (xd : V) (hxd : getV v p.2 = some xd) (z : V) (hz : getV xd (nmB ref p.1 p.2) = some z) (hf : fnd2 v (kOf p.2) (nmB ref p.1 p.2) = some z) : CtV Tryz.prog 8 #[x, .string ref] [.val x v, .tab, ftA fb] (.bool true) := by
 refine Ct.of_run (args := [x, .string ref]) Tryz.func8 (by kernel_rfl) rfl Tryz.ntmps8 rfl (fun c => ?_)
 refine yV 0 rfl (fun A1 c1 A2 c2 hx hsz1 hk1 hk2 hi1 hi2 => ?_)
 subst hx
 refine rO 3 rfl (yK rfl rfl rfl (fun b2 => ?_))
 refine oO 7 rfl (zM 0 rfl ag25 rfl rfl ?_)
 refine zA (zJ rfl rfl rfl (c19 _ v) (by first | exact sub1 0 rfl | exact sub1 1 rfl | exact sub1 2 rfl | exact sub1 3 rfl | exact sub1 4 rfl | exact sub1 5 rfl | exact sub1 6 rfl | exact sub1 7 rfl) ?_)
 refine oS 4 rfl (yA (s := 11) rfl (fun h11 => ?_) (fun h11 => ?_))
 ·refine oK 6 [15, 2, 1] rfl rfl (rR 6 rfl ?_)
  exact zC Tryz.results8 rfl ⟨rfl, rfl, rfl⟩ nS (fun _ h => by cases h)
 refine oO 3 rfl (xC st9 rfl rfl ?_)
 refine zH rfl rfl (xU rfl rfl rfl ?_)
 refine oK 3 [15, 2, 1] rfl rfl (yG rfl (fun h15 => ?_) (fun h15 => ?_))
 ·refine rR 5 rfl ?_
  exact zC Tryz.results8 rfl ⟨rfl, rfl, rfl⟩ nS (fun _ h => by cases h)
 refine rO 5 rfl (zM 0 rfl ag25 rfl rfl ?_)
 refine zA (zJ rfl rfl rfl (c20 v _) (by first | exact sub1 0 rfl | exact sub1 1 rfl | exact sub1 2 rfl | exact sub1 3 rfl | exact sub1 4 rfl | exact sub1 5 rfl | exact sub1 6 rfl | exact sub1 7 rfl) ?_)
 refine oS 4 rfl (yA (s := 19) rfl (fun h19 => ?_) (fun h19 => ?_))
 ·refine oK 14 [29, 2, 1] rfl rfl (rR 6 rfl ?_)
  exact zC Tryz.results8 rfl ⟨rfl, rfl, rfl⟩ nS (fun _ h => by cases h)
 have hsv := yI.1 (by simpa using h19)
 have hp : Pl v := ⟨12, hsv.1.1⟩
 have hs := hsv.2
 refine zH rfl rfl (zM 0 rfl ag25 rfl rfl ?_)
 refine zH rfl rfl (zJ rfl rfl rfl (c33 v _ hp) (by first | exact sub1 0 rfl | exact sub1 1 rfl | exact sub1 2 rfl | exact sub1 3 rfl | exact sub1 4 rfl | exact sub1 5 rfl | exact sub1 6 rfl | exact sub1 7 rfl) ?_)
 refine oS 6 rfl (yA (s := 24) rfl (fun h24 => ?_) (fun h24 => ?_))
 ·refine oK 7 [29, 2, 1] rfl rfl (rR 6 rfl ?_)
  exact zC Tryz.results8 rfl ⟨rfl, rfl, rfl⟩ nS (fun _ h => by cases h)
 refine zH rfl rfl (zM 0 rfl ag25 rfl rfl ?_)
 refine oO 3 rfl (zJ rfl rfl rfl (c34 v _ ref hp hnm) (by first | exact sub1 0 rfl | exact sub1 1 rfl | exact sub1 2 rfl | exact sub1 3 rfl | exact sub1 4 rfl | exact sub1 5 rfl | exact sub1 6 rfl | exact sub1 7 rfl) ?_)
 refine oK 5 [29, 2, 1] rfl rfl (yG rfl (fun h29 => ?_) (fun h29 => ?_))
 ·refine rR 5 rfl ?_
  exact zC Tryz.results8 rfl ⟨rfl, rfl, rfl⟩ nS (fun _ h => by cases h)
 have hroot : IsRootV v := yI.1 (by simpa using h24)
 have hr : ref.size ≤ 2147483648 := by simp only [decide_eq_false_iff_not] at h15; omega
 obtain ⟨hmat, hbs, hpt⟩ := tO hh
 obtain ⟨hsz2, hpz⟩ := fnd_in hs hp (hf.trans rfl)
 have hwn : Wf (normalV z) := (pl_norm hsz2 hpz).wf
 have hpw := pl_wr hsz2 hpz
 refine rO 4 rfl (zM 0 rfl ag25 rfl rfl ?_)
 refine zA ?_
 refine zO rfl rfl rfl (c22 v hp.wf _) (by first | exact sub1 0 rfl | exact sub1 1 rfl | exact sub1 2 rfl | exact sub1 3 rfl | exact sub1 4 rfl | exact sub1 5 rfl | exact sub1 6 rfl | exact sub1 7 rfl) (fun u32 D32 hv32 => ?_)
 obtain ⟨A32, m32, B32, d32, rfl, rfl⟩ := hv32
 refine oO 3 rfl ?_
 refine zO rfl rfl rfl (c35 (normalV v) _ ref (pl_norm hs hp) hnm) (by first | exact sub1 0 rfl | exact sub1 1 rfl | exact sub1 2 rfl | exact sub1 3 rfl | exact sub1 4 rfl | exact sub1 5 rfl | exact sub1 6 rfl | exact sub1 7 rfl) (fun u34 D34 hv34 => ?_)
 rw [pt_norm hs hp hh, hf] at hv34
 obtain ⟨_, rfl, A34, m34, B34, d34, rfl, rfl⟩ := hv34
 refine oO 7 rfl (zS ze25 rfl (fun b5 => ?_))
 change RunOps _ _ _ _ _ _ _ _ (HA.blk _ [_, _, _, _, _] _ :: _) _
 refine zA (zF 0 (M' := [HA.blk _ [_, _, _, _, _] _, _]) rfl rfl rfl rfl si25 rfl rfl rfl ?_)
 refine oO 6 rfl (zM 1 rfl ag25 rfl rfl ?_)
 refine oO 3 rfl ?_
 refine zO rfl rfl rfl (c36s fb v _ ref hp hs hroot p hh xd hxd hr z hz) (by intro d hd; simp only [List.mem_cons, List.not_mem_nil, or_false] at hd ⊢; rcases hd with rfl | rfl | rfl <;> simp) (fun u39 D39 hv39 => ?_)
 rw [hf] at hv39
 obtain ⟨A39, m39, B39, d39, rfl, rfl⟩ := hv39
 refine zA (zS ze34 rfl (fun b7 => ?_))
 change RunOps _ _ _ _ _ _ _ _ (HA.blk _ [_, _, _, _, _, _] _ :: _) _
 refine zA (zF 0 (M' := [HA.blk _ [_, _, _, _, _, _] _, _, _]) rfl rfl rfl rfl si34 rfl rfl rfl ?_)
 refine oK 1 [7, 6, 5] rfl rfl (rO 13 rfl ?_)
 refine zM 0 rfl ag34 rfl rfl (zA ?_)
 refine zM 1 rfl ag25 rfl rfl (zA ?_)
 refine zJ rfl rfl rfl (c27 (wr z) (normalV z) hpw.wf hwn _ _ _ _ _) (by first | exact sub2 0 1 rfl rfl | exact sub2 0 2 rfl rfl | exact sub2 0 3 rfl rfl | exact sub2 0 4 rfl rfl | exact sub2 0 5 rfl rfl | exact sub2 1 0 rfl rfl | exact sub2 1 2 rfl rfl | exact sub2 1 3 rfl rfl | exact sub2 1 4 rfl rfl | exact sub2 1 5 rfl rfl | exact sub2 2 0 rfl rfl | exact sub2 2 1 rfl rfl | exact sub2 2 3 rfl rfl | exact sub2 2 4 rfl rfl | exact sub2 2 5 rfl rfl | exact sub2 3 0 rfl rfl | exact sub2 3 1 rfl rfl | exact sub2 3 2 rfl rfl | exact sub2 3 4 rfl rfl | exact sub2 3 5 rfl rfl | exact sub2 4 0 rfl rfl | exact sub2 4 1 rfl rfl | exact sub2 4 2 rfl rfl | exact sub2 4 3 rfl rfl | exact sub2 4 5 rfl rfl | exact sub2 5 0 rfl rfl | exact sub2 5 1 rfl rfl | exact sub2 5 2 rfl rfl | exact sub2 5 3 rfl rfl | exact sub2 5 4 rfl rfl) (oR 3 rfl ?_)
 exact zC Tryz.results8 rfl ⟨congrArg Value.bool (tb_t (bare_wr z)), rfl, rfl⟩ nS (fun _ h => by cases h)
theorem l8n (fb : Addr) (v : V) (x : Value) (ref : ByteArray) (hnm : ref.size ≤ maxLen) (p : ByteArray × ByteArray) (hh : headOf (idT v) ref = some p) (xd : V) (hxd : getV v p.2 = some xd) (hz : getV xd (nmB ref p.1 p.2) = none) (hf : fnd2 v (kOf p.2) (nmB ref p.1 p.2) = none) : CtV Tryz.prog 8 #[x, .string ref] [.val x v, .tab, ftA fb] (.bool true) := by
 refine Ct.of_run (args := [x, .string ref]) Tryz.func8 (by kernel_rfl) rfl Tryz.ntmps8 rfl (fun c => ?_)
 refine yV 0 rfl (fun A1 c1 A2 c2 hx hsz1 hk1 hk2 hi1 hi2 => ?_)
 subst hx
 refine rO 3 rfl (yK rfl rfl rfl (fun b2 => ?_))
 refine oO 7 rfl (zM 0 rfl ag25 rfl rfl ?_)
 refine zA (zJ rfl rfl rfl (c19 _ v) (by first | exact sub1 0 rfl | exact sub1 1 rfl | exact sub1 2 rfl | exact sub1 3 rfl | exact sub1 4 rfl | exact sub1 5 rfl | exact sub1 6 rfl | exact sub1 7 rfl) ?_)
 refine oS 4 rfl (yA (s := 11) rfl (fun h11 => ?_) (fun h11 => ?_))
 ·refine oK 6 [15, 2, 1] rfl rfl (rR 6 rfl ?_)
  exact zC Tryz.results8 rfl ⟨rfl, rfl, rfl⟩ nS (fun _ h => by cases h)
 refine oO 3 rfl (xC st9 rfl rfl ?_)
 refine zH rfl rfl (xU rfl rfl rfl ?_)
 refine oK 3 [15, 2, 1] rfl rfl (yG rfl (fun h15 => ?_) (fun h15 => ?_))
 ·refine rR 5 rfl ?_
  exact zC Tryz.results8 rfl ⟨rfl, rfl, rfl⟩ nS (fun _ h => by cases h)
 refine rO 5 rfl (zM 0 rfl ag25 rfl rfl ?_)
 refine zA (zJ rfl rfl rfl (c20 v _) (by first | exact sub1 0 rfl | exact sub1 1 rfl | exact sub1 2 rfl | exact sub1 3 rfl | exact sub1 4 rfl | exact sub1 5 rfl | exact sub1 6 rfl | exact sub1 7 rfl) ?_)
 refine oS 4 rfl (yA (s := 19) rfl (fun h19 => ?_) (fun h19 => ?_))
 ·refine oK 14 [29, 2, 1] rfl rfl (rR 6 rfl ?_)
  exact zC Tryz.results8 rfl ⟨rfl, rfl, rfl⟩ nS (fun _ h => by cases h)
 have hsv := yI.1 (by simpa using h19)
 have hp : Pl v := ⟨12, hsv.1.1⟩
 have hs := hsv.2
 refine zH rfl rfl (zM 0 rfl ag25 rfl rfl ?_)
 refine zH rfl rfl (zJ rfl rfl rfl (c33 v _ hp) (by first | exact sub1 0 rfl | exact sub1 1 rfl | exact sub1 2 rfl | exact sub1 3 rfl | exact sub1 4 rfl | exact sub1 5 rfl | exact sub1 6 rfl | exact sub1 7 rfl) ?_)
 refine oS 6 rfl (yA (s := 24) rfl (fun h24 => ?_) (fun h24 => ?_))
 ·refine oK 7 [29, 2, 1] rfl rfl (rR 6 rfl ?_)
  exact zC Tryz.results8 rfl ⟨rfl, rfl, rfl⟩ nS (fun _ h => by cases h)
 refine zH rfl rfl (zM 0 rfl ag25 rfl rfl ?_)
 refine oO 3 rfl (zJ rfl rfl rfl (c34 v _ ref hp hnm) (by first | exact sub1 0 rfl | exact sub1 1 rfl | exact sub1 2 rfl | exact sub1 3 rfl | exact sub1 4 rfl | exact sub1 5 rfl | exact sub1 6 rfl | exact sub1 7 rfl) ?_)
 refine oK 5 [29, 2, 1] rfl rfl (yG rfl (fun h29 => ?_) (fun h29 => ?_))
 ·refine rR 5 rfl ?_
  exact zC Tryz.results8 rfl ⟨rfl, rfl, rfl⟩ nS (fun _ h => by cases h)
 have hroot : IsRootV v := yI.1 (by simpa using h24)
 have hr : ref.size ≤ 2147483648 := by simp only [decide_eq_false_iff_not] at h15; omega
 obtain ⟨hmat, hbs, hpt⟩ := tO hh
 
 refine rO 4 rfl (zM 0 rfl ag25 rfl rfl ?_)
 refine zA ?_
 refine zO rfl rfl rfl (c22 v hp.wf _) (by first | exact sub1 0 rfl | exact sub1 1 rfl | exact sub1 2 rfl | exact sub1 3 rfl | exact sub1 4 rfl | exact sub1 5 rfl | exact sub1 6 rfl | exact sub1 7 rfl) (fun u32 D32 hv32 => ?_)
 obtain ⟨A32, m32, B32, d32, rfl, rfl⟩ := hv32
 refine oO 3 rfl ?_
 refine zO rfl rfl rfl (c35 (normalV v) _ ref (pl_norm hs hp) hnm) (by first | exact sub1 0 rfl | exact sub1 1 rfl | exact sub1 2 rfl | exact sub1 3 rfl | exact sub1 4 rfl | exact sub1 5 rfl | exact sub1 6 rfl | exact sub1 7 rfl) (fun u34 D34 hv34 => ?_)
 rw [pt_norm hs hp hh, hf] at hv34
 obtain ⟨_, rfl, A34, m34, B34, d34, rfl, rfl⟩ := hv34
 refine oO 7 rfl (zS ze25 rfl (fun b5 => ?_))
 change RunOps _ _ _ _ _ _ _ _ (HA.blk _ [_, _, _, _, _] _ :: _) _
 refine zA (zF 0 (M' := [HA.blk _ [_, _, _, _, _] _, _]) rfl rfl rfl rfl si25 rfl rfl rfl ?_)
 refine oO 6 rfl (zM 1 rfl ag25 rfl rfl ?_)
 refine oO 3 rfl ?_
 refine zO rfl rfl rfl (c36n fb v _ ref hp hs hroot p hh xd hxd hr hz) (by intro d hd; simp only [List.mem_cons, List.not_mem_nil, or_false] at hd ⊢; rcases hd with rfl | rfl | rfl <;> simp) (fun u39 D39 hv39 => ?_)
 rw [hf] at hv39
 obtain ⟨rfl, rfl⟩ := hv39
 refine zA (zS ze34 rfl (fun b7 => ?_))
 change RunOps _ _ _ _ _ _ _ _ (HA.blk _ [_, _, _, _, _, _] _ :: _) _
 refine zA (zF 0 (M' := [HA.blk _ [_, _, _, _, _, _] _, _, _]) rfl rfl rfl rfl si34 rfl rfl rfl ?_)
 refine oK 1 [7, 6, 5] rfl rfl (rO 12 rfl ?_)
 refine zB fo34_0 rfl rfl (zA ?_)
 refine zI 0 sc2 rfl rfl rfl rfl (oR 5 rfl ?_)
 exact zC Tryz.results8 rfl ⟨rfl, rfl, rfl⟩ nS (fun _ h => by cases h)
theorem l8x (fb : Addr) (v : V) (x : Value) (ref : ByteArray) (hnm : ref.size ≤ maxLen) (hno : ¬ IsRefV v ref) : CtV Tryz.prog 8 #[x, .string ref] [.val x v, .tab, ftA fb] (.bool true) := by
 refine Ct.of_run (args := [x, .string ref]) Tryz.func8 (by kernel_rfl) rfl Tryz.ntmps8 rfl (fun c => ?_)
 refine yV 0 rfl (fun A1 c1 A2 c2 hx hsz1 hk1 hk2 hi1 hi2 => ?_)
 subst hx
 refine rO 3 rfl (yK rfl rfl rfl (fun b2 => ?_))
 refine oO 7 rfl (zM 0 rfl ag25 rfl rfl ?_)
 refine zA (zJ rfl rfl rfl (c19 _ v) (by first | exact sub1 0 rfl | exact sub1 1 rfl | exact sub1 2 rfl | exact sub1 3 rfl | exact sub1 4 rfl | exact sub1 5 rfl | exact sub1 6 rfl | exact sub1 7 rfl) ?_)
 refine oS 4 rfl (yA (s := 11) rfl (fun h11 => ?_) (fun h11 => ?_))
 ·refine oK 6 [15, 2, 1] rfl rfl (rR 6 rfl ?_)
  exact zC Tryz.results8 rfl ⟨rfl, rfl, rfl⟩ nS (fun _ h => by cases h)
 refine oO 3 rfl (xC st9 rfl rfl ?_)
 refine zH rfl rfl (xU rfl rfl rfl ?_)
 refine oK 3 [15, 2, 1] rfl rfl (yG rfl (fun h15 => ?_) (fun h15 => ?_))
 ·refine rR 5 rfl ?_
  exact zC Tryz.results8 rfl ⟨rfl, rfl, rfl⟩ nS (fun _ h => by cases h)
 refine rO 5 rfl (zM 0 rfl ag25 rfl rfl ?_)
 refine zA (zJ rfl rfl rfl (c20 v _) (by first | exact sub1 0 rfl | exact sub1 1 rfl | exact sub1 2 rfl | exact sub1 3 rfl | exact sub1 4 rfl | exact sub1 5 rfl | exact sub1 6 rfl | exact sub1 7 rfl) ?_)
 refine oS 4 rfl (yA (s := 19) rfl (fun h19 => ?_) (fun h19 => ?_))
 ·refine oK 14 [29, 2, 1] rfl rfl (rR 6 rfl ?_)
  exact zC Tryz.results8 rfl ⟨rfl, rfl, rfl⟩ nS (fun _ h => by cases h)
 have hsv := yI.1 (by simpa using h19)
 have hp : Pl v := ⟨12, hsv.1.1⟩
 have hs := hsv.2
 refine zH rfl rfl (zM 0 rfl ag25 rfl rfl ?_)
 refine zH rfl rfl (zJ rfl rfl rfl (c33 v _ hp) (by first | exact sub1 0 rfl | exact sub1 1 rfl | exact sub1 2 rfl | exact sub1 3 rfl | exact sub1 4 rfl | exact sub1 5 rfl | exact sub1 6 rfl | exact sub1 7 rfl) ?_)
 refine oS 6 rfl (yA (s := 24) rfl (fun h24 => ?_) (fun h24 => ?_))
 ·refine oK 7 [29, 2, 1] rfl rfl (rR 6 rfl ?_)
  exact zC Tryz.results8 rfl ⟨rfl, rfl, rfl⟩ nS (fun _ h => by cases h)
 refine zH rfl rfl (zM 0 rfl ag25 rfl rfl ?_)
 refine oO 3 rfl (zJ rfl rfl rfl (c34 v _ ref hp hnm) (by first | exact sub1 0 rfl | exact sub1 1 rfl | exact sub1 2 rfl | exact sub1 3 rfl | exact sub1 4 rfl | exact sub1 5 rfl | exact sub1 6 rfl | exact sub1 7 rfl) ?_)
 refine oK 5 [29, 2, 1] rfl rfl (yG rfl (fun h29 => ?_) (fun h29 => ?_))
 ·refine rR 5 rfl ?_
  exact zC Tryz.results8 rfl ⟨rfl, rfl, rfl⟩ nS (fun _ h => by cases h)
 exfalso
 exact hno (yI.1 (by simpa using h29))
theorem l8 (fb : Addr) (v : V) (x : Value) (ref : ByteArray) (hnm : ref.size ≤ maxLen) : CtV Tryz.prog 8 #[x, .string ref] [.val x v, .tab, ftA fb] (.bool true) := by
  rcases Classical.em (IsRefV v ref) with h | h
  · obtain ⟨p, hh, hx⟩ := h
    obtain ⟨xd, hxd⟩ := Option.isSome_iff_exists.1 hx
    obtain ⟨_, _, hpt⟩ := tO hh
    cases hz : getV xd (nmB ref p.1 p.2) with
    | some z => exact l8s fb v x ref hnm p hh xd hxd z hz (by rw [fnd2_k hpt, hxd]; exact hz)
    | none => exact l8n fb v x ref hnm p hh xd hxd hz (by rw [fnd2_k hpt, hxd]; exact hz)
  · exact l8x fb v x ref hnm h
end Go.Jw

namespace Go.Jw
open Go Go.RowKit Go.Proofs Go.ChangeShapes Go.WideShapes Go.Proofs.YtlcfillobkdnmaaGreatDoor
set_option maxRecDepth 8000
theorem lt_of_cell {w : World} {a : Addr} {v : Value} (h : w.cell? a = some v) : a.block < w.heap.size := by
 rcases Nat.lt_or_ge a.block w.heap.size with hlt | hge
 ·exact hlt
 ·unfold World.cell? at h
  rw [Array.getElem?_eq_none hge] at h
  simp at h
theorem ce9 : Tryz.prog.cellsOf 9 = 1 := by kernel_rfl
theorem ce25 : Tryz.prog.cellsOf 25 = 5 := by kernel_rfl
theorem ce2 : Tryz.prog.cellsOf 2 = 1 := by kernel_rfl
theorem ce22 : Tryz.prog.cellsOf 22 = 1 := by kernel_rfl
theorem ce23 : Tryz.prog.cellsOf 23 = 1 := by kernel_rfl
section
variable {H : Type} {enc : TypeId × Value → H} {W : World} {held : Bool}
theorem strs_of_trod {n : Nat} {kv : Value} {x : DataW H × List MemPlace} (h : DataW.trod enc Tryz.prog W 0 (fun _ => true) held n 22 [kv] = some x) : ∃ ks, StrsP W (· < W.heap.size) kv ks := by
 rcases open_strings Tryz.underlying22 Tryz.underlying9 ce9 h with ⟨h1, _⟩ | ⟨a, len, cap, ss, h1, _, hl, hc, hs, _, hg, hsz⟩
 ·injection h1 with h1
  exact ⟨[], none, 0, h1, Nat.le_refl _, Nat.zero_le _, (fun s hs => by cases hs), fun i s hi => by simp at hi⟩
 ·injection h1 with h1
  simp only [if_true] at hs
  have hlen : (ss.take len).length = len := by rw [List.length_take]; omega
  refine ⟨ss.take len, some a, cap, by rw [hlen]; exact h1, by omega, hc, fun s hm => hsz s (List.mem_of_mem_take hm), fun i s hi => ?_⟩
  have hil : i < len := by
   have := (List.getElem?_eq_some_iff.1 hi).1
   omega
  have hi' : ss[i]? = some s := by rw [← hi, List.getElem?_take]; simp [hil]
  have hcell := hg i (by omega)
  have hd : ss.getD i ByteArray.empty = s := by rw [List.getD_eq_getElem?_getD, hi']; rfl
  rw [hd] at hcell
  exact ⟨a, rfl, by have := lt_of_cell hcell; rwa [uD] at this, by rw [Nat.mul_one]; exact hcell⟩
theorem bulk_sum : ∀ (l : List V) (l' : List (DataW H)), l.length = l'.length → (∀ (i : Nat) t d, l[i]? = some t → l'[i]? = some d → 2 * nodes t ≤ Rows.uptoBulk d) → 2 * (l.map nodes).sum ≤ Rows.uptoBulkAll l'
  | [], _, _, _ => Nat.zero_le _
  | t :: l, [], h, _ => by simp at h
  | t :: l, d :: l', h, hi => by
    have h1 := hi 0 t d rfl rfl
    have h2 := bulk_sum l l' (by simpa using h) (fun i t d a b => hi (i + 1) t d (by simpa using a) (by simpa using b))
    simp only [List.map_cons, List.sum_cons, Rows.uptoBulkAll]
    omega
theorem val_of_trod (n : Nat) : ∀ (cs : List Value) (x : DataW H × List MemPlace), DataW.trod enc Tryz.prog W 0 (fun _ => true) held n 25 cs = some x → ∃ t, ValP W (· < W.heap.size) t (.agg cs.toArray) ∧ 2 * nodes t ≤ Rows.uptoBulk x.1 := by
  induction n using Nat.strongRecOn with
  | _ n IH =>
    intro cs x h
    obtain ⟨xs, m, hm, rfl, hl, hlen, hf⟩ := DataW.trod_struct Tryz.underlying25 h
    rw [ce25] at hl
    match cs, hl with
    | [c0, c1, c2, c3, c4], _ =>
    match xs, hlen with
    | [y0, y1, y2, y3, y4], _ =>
    have h0 : DataW.trod enc Tryz.prog W 0 (fun _ => true) held m 2 [c0] = some y0 := by simpa [ce2] using hf 0 _ rfl
    have h1 : DataW.trod enc Tryz.prog W 0 (fun _ => true) held m 2 [c1] = some y1 := by simpa [ce2] using hf 1 _ rfl
    have h2 : DataW.trod enc Tryz.prog W 0 (fun _ => true) held m 9 [c2] = some y2 := by simpa [ce9] using hf 2 _ rfl
    have h3 : DataW.trod enc Tryz.prog W 0 (fun _ => true) held m 22 [c3] = some y3 := by simpa [ce22] using hf 3 _ rfl
    have h4 : DataW.trod enc Tryz.prog W 0 (fun _ => true) held m 23 [c4] = some y4 := by simpa [ce23] using hf 4 _ rfl
    obtain ⟨k, e0, g0⟩ := DataW.trod_int Tryz.underlying2 h0
    obtain ⟨q, e1, _⟩ := DataW.trod_int Tryz.underlying2 h1
    obtain ⟨s, e2, _, hs⟩ := DataW.trod_string Tryz.underlying9 h2
    obtain ⟨ks, hks⟩ := strs_of_trod h3
    injection e0 with e0; injection e1 with e1; injection e2 with e2
    subst e0; subst e1; subst e2
    have hy0 : Rows.uptoBulk y0.1 = 1 := by rw [g0.1]; simp [Rows.uptoBulk]
    have hbulk : Rows.uptoBulk y4.1 + 2 ≤ Rows.uptoBulk (DataW.agg [y0.1, y1.1, y2.1, y3.1, y4.1]) := by
      simp only [Rows.uptoBulk, Rows.uptoBulkAll]
      omega
    show ∃ t, _ ∧ 2 * nodes t ≤ Rows.uptoBulk (DataW.agg [y0.1, y1.1, y2.1, y3.1, y4.1])
    rcases DataW.trod_slice Tryz.underlying23 h4 with ⟨h5, _⟩ | ⟨a, len, cap, elems, rest, m', hm', h5, h6, hb, hle, hc, hln, hel, hsp, _⟩
    · injection h5 with h5
      refine ⟨.mk k q s ks [], ?_, ?_⟩
      · simp only [ValP]
        exact ⟨_, _, rfl, hs, hks, none, 0, h5, Nat.le_refl _, Nat.zero_le _, by simp [ItemsP]⟩
      · rw [nodes_eq]; simp only [imk, List.map_nil, List.sum_nil]; omega
    · injection h5 with h5
      have hall : ∀ i, ∃ t, i < len → ∃ csi, ∃ y, elems[i]? = some y ∧ W.cells? 0 (a.add (i * 5)) 5 = some csi ∧ ValP W (· < W.heap.size) t (.agg csi.toArray) ∧ 2 * nodes t ≤ Rows.uptoBulk y.1 := by
        intro i
        by_cases hi : i < len
        · have he := hel i hi
          rw [ce25, List.getElem?_eq_getElem (by omega)] at he
          obtain ⟨csi, hcs, htr⟩ := Option.bind_eq_some_iff.1 he
          obtain ⟨t, ht, hnt⟩ := IH m' (by omega) csi _ htr
          exact ⟨t, fun _ => ⟨csi, _, List.getElem?_eq_getElem (by omega), hcs, ht, hnt⟩⟩
        · exact ⟨zV0, fun h => absurd h hi⟩
      obtain ⟨f, hfa⟩ := Classical.axiomOfChoice hall
      have hget : ∀ j t, ((List.range len).map f)[j]? = some t → j < len ∧ t = f j := by
        intro j t hj
        rw [List.getElem?_map] at hj
        obtain ⟨z, hz, rfl⟩ := Option.map_eq_some_iff.1 hj
        obtain ⟨h1, h2⟩ := List.getElem?_eq_some_iff.1 hz
        rw [List.getElem_range] at h2
        rw [List.length_range] at h1
        exact ⟨h1, by rw [h2]⟩
      refine ⟨.mk k q s ks ((List.range len).map f), ?_, ?_⟩
      · simp only [ValP]
        refine ⟨_, _, rfl, hs, hks, some a, cap, by rw [List.length_map, List.length_range]; exact h5, by rw [List.length_map, List.length_range]; exact hle, hc, ItemsP.of_get fun j t hj => ?_⟩
        obtain ⟨hjl, rfl⟩ := hget j t hj
        obtain ⟨csi, y, _, hcs, hv, _⟩ := hfa j hjl
        obtain ⟨_, hcl, hcc⟩ := World.cells?_some hcs
        have hadd : ∀ q, (a.add (j * 5)).add q = a.add ((0 + j) * 5 + q) := fun q => by rw [Nat.zero_add]; exact add_add' a _ _
        refine ⟨a, .agg csi.toArray, rfl, ?_, fun q u hq => ?_, hv⟩
        · have := hcc 0 (by omega)
          rw [List.getElem?_eq_getElem (by omega)] at this
          have := lt_of_cell this
          rwa [uD, uD] at this
        · have hq' : csi[q]? = some u := by simpa [Value.cells] using hq
          have hql := (List.getElem?_eq_some_iff.1 hq').1
          rw [← hadd, hcc q (by omega)]
          exact hq'
      · have hsum := bulk_sum ((List.range len).map f) (elems.map (·.1)) (by simp; omega) (fun i t d ht hd => by
          obtain ⟨hil, rfl⟩ := hget i t ht
          obtain ⟨csi, y, hy, _, _, hn⟩ := hfa i hil
          rw [List.getElem?_map, hy] at hd
          injection hd with hd
          rw [← hd]; exact hn)
        rw [nodes_eq]
        simp only [imk]
        have : Rows.uptoBulkAll (elems.map (·.1)) ≤ Rows.uptoBulk y4.1 := by
          rw [h6]
          simp only [Rows.uptoBulk]
          omega
        omega
end
theorem pB {P : Program} {w : World} {n : String} {d : DataW Unit} : ∀ {l : List (String × DataW Unit)} {ps : List MemPlace}, DataW.LaidVars P w l ps → (n, d) ∈ l →
    ∃ g t cs fuel p, P.globalNamed n = some g ∧ (P.globals[g]?).map (·.type) = some t ∧ w.var? P n = some cs ∧ DataW.trod (fun _ => ()) P w 0 (fun _ => true) false fuel t cs.toList = some (d, p)
  | [], _, _, h => by cases h
  | (n', d') :: l, ps, ⟨g, t, cs, fuel, p, q, h1, h2, h3, h4, h5, _⟩, h => by
    rcases List.mem_cons.1 h with h | h
    · injection h with h h'
      subst h; subst h'
      exact ⟨g, t, cs, fuel, p, h1, h2, h3, h4⟩
    · exact pB h5 h
theorem gU : Tryz.prog.globalNamed "internal/strconv.uint64pow10" = some 0 := by kernel_rfl
theorem gUt : (Tryz.prog.globals[0]?).map (·.type) = some 270 := by kernel_rfl
theorem ce235 : Tryz.prog.cellsOf 235 = 1 := by kernel_rfl
theorem ce270 : Tryz.prog.cellsOf 270 = 20 := by kernel_rfl
theorem tab_of {W : World} {l : List (String × DataW Unit)} (h : laidMet Tryz.prog l W) (hm : ("internal/strconv.uint64pow10", Rows.laid_internal_strconv_uint64pow10) ∈ l) : DA.tab.p W (· < W.heap.size) := by
  obtain ⟨ps, hv, _⟩ := h
  obtain ⟨g, t, cs, fuel, p, h1, h2, h3, h4⟩ := pB hv hm
  obtain rfl := Option.some.inj (gU.symm.trans h1)
  obtain rfl := Option.some.inj (gUt.symm.trans h2)
  have hc := Lib.cells_of_tab (zs := Lib.pow10Tab) Tryz.underlying270 Tryz.underlying235 ce235 ce270 h4
  unfold World.var? at h3
  rw [h1] at h3
  simp only [Option.bind_some] at h3
  cases hh : W.heap[0]? with
  | none => rw [hh] at h3; cases h3
  | some o =>
    rw [hh] at h3
    cases o with
    | cells c T fz =>
      simp at h3
      subst h3
      refine ⟨0, T, fz, gU, (Array.getElem?_eq_some_iff.1 hh).1, ?_⟩
      rw [hh, ← hc]
    | _ => simp at h3
def DA.any : DA := ⟨fun _ _ => True, fun _ _ _ => trivial⟩
theorem calls_of {f : FuncId} {args : Array Value} {D : List DA} {v : Value} {W : World} (h : CtV Tryz.prog f args D v) (hD : ∀ d ∈ D, d.p W (· < W.heap.size)) : Calls Tryz.prog f args W fun e W' => e = .returned v ∧ Below W.heap.size W W' :=
 (h.2 W (· < W.heap.size) (fun k hk => ⟨hk, by simp [foots]⟩) (by simp) (by simp [foots]) hD).mono fun e W' ⟨u, M', D', he, ⟨hu, hM, hd⟩, hc, _⟩ => ⟨by rw [he, hu], hc.below⟩
theorem laidOut : laidOutB Tryz.prog = true := by kernel_rfl
end Go.Jw

namespace Go.Jw
open Go Go.RowKit Go.Proofs Go.ChangeShapes Go.WideShapes Go.Proofs.YtlcfillobkdnmaaGreatDoor
set_option maxRecDepth 20000
section
variable {W : World}
noncomputable abbrev trodU (W : World) (fuel : Nat) (t : TypeId) (cs : List Value) := DataW.trod (fun _ => ()) Tryz.prog W 0 (fun _ => true) false fuel t cs
theorem var_of {l : List (String × DataW Unit)} (h : laidMet Tryz.prog l W) {n : String} {d : DataW Unit} (hm : (n, d) ∈ l) {g t : Nat} (hg : Tryz.prog.globalNamed n = some g) (ht : (Tryz.prog.globals[g]?).map (·.type) = some t) :
    ∃ (c : Array Value) (fuel : Nat) (p : List MemPlace), (∀ (i : Nat) v, c.toList[i]? = some v → W.cell? ⟨g, i, none⟩ = some v) ∧ trodU W fuel t c.toList = some (d, p) := by
  obtain ⟨ps, hv, _⟩ := h
  obtain ⟨g', t', cs, fuel, p, h1, h2, h3, h4⟩ := pB hv hm
  obtain rfl := Option.some.inj (hg.symm.trans h1)
  obtain rfl := Option.some.inj (ht.symm.trans h2)
  refine ⟨cs, fuel, p, fun i v hi => ?_, h4⟩
  unfold World.var? at h3
  rw [h1] at h3
  simp only [Option.bind_some] at h3
  unfold World.cell?
  cases hh : W.heap[g]? with
  | none => rw [hh] at h3; cases h3
  | some o =>
    rw [hh] at h3
    cases o with
    | cells c T fz =>
      simp at h3
      subst h3
      simpa using hi
    | _ => simp at h3
theorem trod_fl {fuel : Nat} {t : TypeId} {cs : List Value} {x : DataW Unit × List MemPlace} (ht : Tryz.prog.underlying t = some (.float .f64)) (h : trodU W fuel t cs = some x) : ∃ b, cs = [.float .f64 b] ∧ x = (.lit (.float .f64 b), []) := by
  cases fuel with
  | zero => simp [trodU, DataW.trod] at h
  | succ n =>
    unfold trodU DataW.trod at h
    rw [ht] at h
    split at h <;> simp_all
theorem ce359 : Tryz.prog.cellsOf 359 = 2 := by kernel_rfl
theorem ce360 : Tryz.prog.cellsOf 360 = 1392 := by kernel_rfl
theorem ce214 : Tryz.prog.cellsOf 214 = 1 := by kernel_rfl
theorem get1 {cs : List Value} {o : Nat} {v : Value} (h : (cs.drop o).take 1 = [v]) : cs[o]? = some v := by
 have := congrArg (·[0]?) h
 simpa [List.getElem?_take, List.getElem?_drop] using this
theorem pair_of {fuel : Nat} {cs : List Value} {x : DataW Unit × List MemPlace} {a b : Int} (h : trodU W fuel 359 cs = some x) (hx : x.1 = .agg [.lit (.int .u64 a), .lit (.int .u64 b)]) : cs[0]? = some (.int .u64 a) ∧ cs[1]? = some (.int .u64 b) := by
  obtain ⟨xs, n, _, rfl, _, hl, hf⟩ := DataW.trod_struct Tryz.underlying359 h
  have h0 := hf 0 _ rfl
  have h1 := hf 1 _ rfl
  have hxs : xs.map (·.1) = [.lit (.int .u64 a), .lit (.int .u64 b)] := by
    have := hx
    simpa using this
  match xs, hxs with
  | [y0, y1], hxs =>
    simp only [List.map_cons, List.map_nil, List.cons.injEq, and_true] at hxs
    obtain ⟨m0, e0, f0, _⟩ := DataW.trod_int Tryz.underlying235 h0
    obtain ⟨m1, e1, f1, _⟩ := DataW.trod_int Tryz.underlying235 h1
    subst f0; subst f1
    simp only [DataW.lit.injEq, Lit.int.injEq, true_and] at hxs
    obtain ⟨rfl, rfl⟩ := hxs
    exact ⟨get1 (o := 0) e0, get1 (o := 1) e1⟩
theorem row_of {fuel : Nat} {cs : List Value} {p : List MemPlace} (h : trodU W fuel 360 cs = some (Go.Pinned.pow10Tab, p)) (i : Nat) (hi : i < 696) {a b : Nat} (hr : Go.Pinned.pow10Rows[i]? = some (a, b)) : cs[2 * i]? = some (.int .u64 a) ∧ cs[2 * i + 1]? = some (.int .u64 b) := by
  cases fuel with
  | zero => simp [trodU, DataW.trod] at h
  | succ fuel =>
    simp only [trodU, DataW.trod, Tryz.underlying360, ce359, ce360] at h
    split at h
    · obtain ⟨xs, hm, hx⟩ := Option.map_eq_some_iff.1 h
      obtain ⟨y, hy, hf⟩ := Lib.mapM_at hm i i (by simp [hi])
      have hxs : xs.map (·.1) = Go.Pinned.pow10Rows.map fun x => .agg [.lit (.int .u64 x.1), .lit (.int .u64 x.2)] := by
        have := congrArg Prod.fst hx
        simpa [Go.Pinned.pow10Tab] using this
      have hy1 : y.1 = .agg [.lit (.int .u64 (a : Int)), .lit (.int .u64 (b : Int))] := by
        have := congrArg (·[i]?) hxs
        simp only [List.getElem?_map, hy, hr, Option.map_some, Option.some.injEq] at this
        exact this
      obtain ⟨h0, h1⟩ := pair_of hf hy1
      rw [List.getElem?_take, if_pos (by omega), List.getElem?_drop] at h0 h1
      rw [Nat.mul_comm 2 i]
      exact ⟨h0, h1⟩
    · cases h
theorem p10Tab (i : Nat) (h : i < 20) : Lib.pow10Tab[i]? = some ((10 ^ i : Nat) : Int) := (show ∀ i, i < 20 → Lib.pow10Tab[i]? = some ((10 ^ i : Nat) : Int) by decide) i h
theorem g4 : Tryz.prog.globalNamed "internal/strconv.optimize" = some 4 := by kernel_rfl
theorem g4t : (Tryz.prog.globals[4]?).map (·.type) = some 4 := by kernel_rfl
theorem g5 : Tryz.prog.globalNamed "internal/strconv.float64info" = some 5 := by kernel_rfl
theorem g5t : (Tryz.prog.globals[5]?).map (·.type) = some 305 := by kernel_rfl
theorem g10 : Tryz.prog.globalNamed "internal/strconv.float64pow10" = some 10 := by kernel_rfl
theorem g10t : (Tryz.prog.globals[10]?).map (·.type) = some 349 := by kernel_rfl
theorem g11 : Tryz.prog.globalNamed "internal/strconv.pow10Tab" = some 11 := by kernel_rfl
theorem g11t : (Tryz.prog.globals[11]?).map (·.type) = some 360 := by kernel_rfl
theorem r354 : Go.Pinned.pow10Rows[354]? = some (17592186044416000000, 0) := by kernel_rfl
theorem r355 : Go.Pinned.pow10Rows[355]? = some (10995116277760000000, 0) := by kernel_rfl
theorem ft_of {l : List (String × DataW Unit)} (h : laidMet Tryz.prog l W) (m0 : ("internal/strconv.uint64pow10", Rows.laid_internal_strconv_uint64pow10) ∈ l) (m4 : ("internal/strconv.optimize", Rows.laid_internal_strconv_optimize) ∈ l)
  (m5 : ("internal/strconv.float64info", Rows.laid_internal_strconv_float64info) ∈ l) (m10 : ("internal/strconv.float64pow10", Rows.laid_internal_strconv_float64pow10) ∈ l) (m11 : ("internal/strconv.pow10Tab", Rows.laid_internal_strconv_pow10Tab) ∈ l) :
  ∃ fb, (ftA fb).p W (· < W.heap.size) := by
 obtain ⟨c0, fu0, p0, k0, t0⟩ := var_of h m0 gU gUt
 obtain ⟨c4, fu4, p4, k4, t4⟩ := var_of h m4 g4 g4t
 obtain ⟨c5, fu5, p5, k5, t5⟩ := var_of h m5 g5 g5t
 obtain ⟨c10, fu10, p10, k10, t10⟩ := var_of h m10 g10 g10t
 obtain ⟨c11, fu11, p11, k11, t11⟩ := var_of h m11 g11 g11t
 have e0 := Lib.cells_of_tab (zs := Lib.pow10Tab) Tryz.underlying270 Tryz.underlying235 ce235 ce270 t0
 obtain ⟨b4, e4, f4⟩ := DataW.trod_bool Tryz.underlying4 t4
 have hb4 : b4 = true := by
  have := congrArg Prod.fst f4
  simp only [Rows.laid_internal_strconv_optimize, DataW.lit.injEq, Lit.bool.injEq] at this
  exact this.symm
 obtain ⟨xs5, n5, _, f5, _, _, hf5⟩ := DataW.trod_struct Tryz.underlying305 t5
 have h50 := hf5 0 _ rfl
 have hx5 : (xs5.map (·.1))[0]? = some (.lit (.int .u64 52)) := by
  have := congrArg Prod.fst f5
  simp only [Rows.laid_internal_strconv_float64info, DataW.agg.injEq] at this
  rw [← this]; rfl
 rw [List.getElem?_map] at hx5
 obtain ⟨y5, hy5, hy51⟩ := Option.map_eq_some_iff.1 hx5
 rw [hy5] at h50
 obtain ⟨m5v, e5, fy5, _⟩ := DataW.trod_int Tryz.underlying206 h50
 have hm5 : m5v = 52 := by
  rw [fy5] at hy51
  simp only [DataW.lit.injEq, Lit.int.injEq, true_and] at hy51
  exact hy51
 obtain ⟨h708, h709⟩ := row_of t11 354 (by decide) r354
 obtain ⟨h710, h711⟩ := row_of t11 355 (by decide) r355
 rcases DataW.trod_slice Tryz.underlying349 t10 with ⟨_, hx⟩ | ⟨a, len, cap, elems, rest, n10, _, e10, f10, _, hlc, _, hel, hell, hrest, _⟩
 ·have := congrArg Prod.fst hx
  simp [Rows.laid_internal_strconv_float64pow10] at this
 have hd := congrArg Prod.fst f10
 simp only [Rows.laid_internal_strconv_float64pow10, DataW.slice.injEq] at hd
 obtain ⟨hd1, hd2⟩ := hd
 have hlen : len = 23 := by
  rw [← hel]
  have := congrArg List.length hd1
  simpa using this.symm
 have hcap : cap = 23 := by
  have h1 := (hrest rfl).1
  have h2 : rest = [] := List.map_eq_nil_iff.1 hd2.symm
  rw [h2] at h1
  simp only [List.length_nil] at h1
  omega
 have hfl : ∀ i m, i < 23 → (elems.map (·.1))[i]? = some (.lit (.float .f64 m)) → W.cell? (a.add i) = some (.float .f64 m) := fun i m hi hm => by
  rw [List.getElem?_map] at hm
  obtain ⟨y, hy, hy1⟩ := Option.map_eq_some_iff.1 hm
  have h1 := hell i (by omega)
  rw [hy, ce214, Nat.mul_one] at h1
  obtain ⟨cs, hcs, ht⟩ := Option.bind_eq_some_iff.1 h1
  obtain ⟨q, rfl, fq⟩ := trod_fl Tryz.underlying214 ht
  rw [fq] at hy1
  simp only [DataW.lit.injEq, Lit.float.injEq, true_and] at hy1
  subst hy1
  unfold World.cells? at hcs
  split at hcs
  ·obtain ⟨v, hv, hv2⟩ := Lib.mapM_at hcs 0 0 rfl
   simp only [List.getElem?_cons_zero, Option.some.injEq] at hv
   rw [hv]
   simpa [Addr.add] using hv2
  ·cases hcs
 rw [← hd1] at hfl
 refine ⟨a, tab_of h m0, fun q hq => ?_⟩
 suffices hc : W.cell? q.1 = some q.2 from ⟨lt_of_cell hc, hc⟩
 simp only [ftL, List.cons_append, List.nil_append, List.mem_cons, List.mem_map, List.mem_range] at hq
 rcases hq with rfl | rfl | rfl | rfl | rfl | rfl | rfl | rfl | rfl | rfl | ⟨i, hi, rfl⟩
 ·exact k4 0 _ (by rw [e4, hb4]; rfl)
 ·exact k5 0 _ (by rw [← hm5]; exact get1 (o := 0) e5)
 ·exact k10 0 _ (by rw [e10, hlen, hcap]; rfl)
 ·exact hfl 1 _ (by decide) rfl
 ·exact hfl 2 _ (by decide) rfl
 ·exact hfl 6 _ (by decide) rfl
 ·exact k11 708 _ h708
 ·exact k11 709 _ h709
 ·exact k11 710 _ h710
 ·exact k11 711 _ h711
 ·exact k0 i _ (by rw [e0, List.getElem?_map, p10Tab i hi]; rfl)
end
end Go.Jw

namespace Go.Jw
open Go Go.Proofs Go.Proofs.YtlcfillobkdnmaaGreatDoor
set_option maxRecDepth 100000
theorem ty_later : Tryz.prog.laidByTextLater (Rows.fnTextedRow.laid.take 11) [.data, .data, .widerDeep, .widerDeep, .data, .data, .data, .data, .data, .sentinel, .sentinel] true :=
 Program.laidByTextLater_by_one 91 8 65 (by kernel_rfl) (by kernel_rfl) (by kernel_rfl) (by kernel_rfl) (by kernel_rfl) (by kernel_rfl) (fun _ _ => by kernel_rfl)
theorem ty_pin1 : Tryz.pinned.checked.prog.pinnedFits "internal/strconv.leftcheats" = true := by kernel_rfl
theorem ty_pin2 : Tryz.pinned.checked.prog.pinnedFits "internal/strconv.pow10Tab" = true := by kernel_rfl
theorem ty_own : Tryz.pinned.checked.prog.headLifts.contains "ownunsafe" = false := by kernel_rfl
theorem ty_fits : Tryz.pinned.checked.prog.listedFits Rows.fnTextedRow.laid = true := by
 unfold Program.listedFits
 rw [ty_own]
 kernel_rfl
theorem ty_row (c : OpenClaim) (hl : c.laid = Rows.fnTextedRow.laid) (hs : c.start = .entering) :
    c.laidByTextAt .later Tryz.pinned [.data, .data, .widerDeep, .widerDeep, .data, .data, .data, .data, .data, .sentinel, .sentinel, .pinned, .pinned] true :=
  OpenClaim.laidByTextAt_pinned (by rw [hl]; rfl) hs ty_later rfl (by rw [hl]; rfl) (by rw [hl]; rfl) rfl (fun y hy _e => by
    rw [hl] at hy
    simp only [Rows.fnTextedRow, List.zip_cons_cons, List.zip_nil_right, List.mem_cons, List.mem_nil_iff, or_false] at hy
    rcases hy with rfl | rfl | rfl | rfl | rfl | rfl | rfl | rfl | rfl | rfl | rfl | rfl | rfl
    iterate 11 exact nomatch _e
    exact ⟨ty_pin1, by kernel_rfl⟩
    exact ⟨ty_pin2, by kernel_rfl⟩) (by rw [hl]; exact ty_fits)
end Go.Jw

namespace Go.Jw
open Go Go.RowKit Go.Proofs Go.ChangeShapes Go.WideShapes Go.ChangeAt Go.Proofs.YtlcfillobkdnmaaGreatDoor
set_option maxRecDepth 8000
theorem post_of_below {H : Type} {enc : TypeId × Value → H} {P : Program} {f : Func} {s : ChangeSpec} {apart fresh handsOn again : Bool} {W W' : World} {args : Array Value} {v : Value} {ds gs : List (DataW H)} {before pa pv : List MemPlace}
  (hW : DataW.Whole enc P f.params.toList s.vars apart W args.toList ds gs before)
  (hres : ∀ (b : Nat) (sp : Nat → Bool) (hd : Bool), DataW.TrodAll enc P W' b sp hd f.resultTypes.toList (v.resultList f.resultTypes.size) (s.fn H (ds ++ gs)).results [])
  (hargs : ∀ sp : Nat → Bool, (∀ p ∈ before, sp p.block = true) → DataW.TrodAll enc P W' 0 sp true f.params.toList args.toList (s.fn H (ds ++ gs)).args pa)
  (hvars : ∀ sp : Nat → Bool, (∀ p ∈ before, sp p.block = true) → DataW.TrodVars enc P W' sp s.vars (s.fn H (ds ++ gs)).vars pv)
  (hps : before = pa ++ pv) (hb : Below W.heap.size W W')
  (hok : ∀ (j : Nat) (t : TypeId) (r : Value), f.resultTypes[j]? = some t → (v.resultList f.resultTypes.size)[j]? = some r → Value.okWide P W' .any 0 t r) :
  s.post enc P f apart fresh handsOn again W args v W' := by
 have hlt := hW.lt
 have hold : ∀ p ∈ before, (fun b => decide (b < W.heap.size)) p.block = true := fun p hp => by simpa using hlt p hp
 refine ⟨ds, gs, before, [], pa, pv, hW, hres _ _ _, hargs _ hold, hvars _ hold, hb.frame _, fun _ => ?_⟩
 obtain ⟨_, _, _, _, _, hz, hn⟩ := hW
 refine ⟨hok, _, _, ([] ++ pa) ++ pv, ⟨[] ++ pa, pv, trodAll_append (hargs _ (fun _ _ => rfl)) (hres _ _ _), hvars _ (fun _ _ => rfl), rfl, ?_, ?_⟩, ?_⟩
 ·intro b off hp
  have hp' : MemPlace.cell b off ∈ before := by rw [hps]; simpa using hp
  rw [hb.frozen (p := ⟨b, off, none⟩) (hlt _ hp')]
  exact hz b off hp'
 ·intro ha
  have := hn ha
  rw [hps] at this
  simpa using this
 ·intro p hp _
  rw [hps]
  simpa using hp
theorem own : ownKnob Tryz.prog.godebug = none := by kernel_rfl
theorem rd25 : Tryz.prog.readableRec 25 = true := by kernel_rfl
theorem lt25 : 25 < Tryz.prog.types.size := of_decide_eq_true (by kernel_rfl)
theorem met_eq (W : World) : laidMetH Tryz.prog Rows.fnTextedUptoRow.laid W = laidMet Tryz.prog Rows.fnTextedUptoRow.laid W := by kernel_rfl
end Go.Jw

namespace Go.Jw
open Go Go.RowKit Go.Proofs Go.ChangeShapes Go.WideShapes Go.ChangeAt Go.Proofs.YtlcfillobkdnmaaGreatDoor
set_option maxRecDepth 100000
theorem cell1 {v c : Value} (h : ∀ cs, v ≠ .agg cs) (hc : v.cells.toList = [c]) : v = c := by
 cases v <;> simp_all [Value.cells]
theorem contract8 (H : Type) (enc : TypeId × Value → H) (W : World) (base : Nat) (args : Array Value) (ds gs : List (DataW H)) (before : List MemPlace)
  (hval : ∀ (j : Nat) t v, Tryz.f8.params[j]? = some t → args[j]? = some v → Value.okWide Tryz.prog W .any base t v)
  (hW : DataW.Whole enc Tryz.prog Tryz.f8.params.toList Rows.fnPointedSpec.vars false W args.toList ds gs before) (hL : laidMetH Tryz.prog Rows.fnPointedRow.laid W) :
  Calls Tryz.prog 8 args W fun e W' => ∃ v, e = .returned v ∧ Rows.fnPointedSpec.post enc Tryz.prog Tryz.f8 false true false false W args v W' := by
 have hW' := hW
 obtain ⟨p, q, hA0, hV, rfl, hfz, hnd⟩ := hW
 have hA : DataW.TrodAll enc Tryz.prog W 0 (fun _ => true) true Tryz.f8.params.toList args.toList ds p := hA0
 rw [Tryz.params8] at hA hval
 obtain ⟨v0, v1, d0, d1, p0, p1, rfl, rfl, rfl, h0, h1⟩ := trodAll_two hA
 have hvo0 := hval 0 25 v0 rfl rfl
 unfold Value.okWide at hvo0
 rw [Tryz.underlying25] at hvo0
 obtain ⟨cs0, rfl, _⟩ := hvo0
 obtain ⟨fuel0, hf0⟩ := id h0
 obtain ⟨t0, hv0, _⟩ := val_of_trod fuel0 _ _ hf0
 have hv0' : ValP W (· < W.heap.size) t0 (.agg cs0) := by simpa [Value.cells] using hv0
 obtain ⟨fuel1, hf1⟩ := id h1
 obtain ⟨s1, hb1, hx1, hs1⟩ := DataW.trod_string Tryz.underlying9 hf1
 have hv1 : v1 = .string s1 := cell1 (fun cs e => by
  have ho := hval 1 9 v1 rfl rfl
  subst e
  unfold Value.okWide at ho
  rw [Tryz.underlying9] at ho
  exact absurd ho (by unfold Cell.okWide; rw [Tryz.underlying9]; simp [Cell.ok, Tryz.underlying9])) hb1
 subst hv1
 obtain ⟨rfl, rfl⟩ : d1 = .lit (.string s1.data.toList) ∧ p1 = [] := by
  injection hx1 with e1 e2
  exact ⟨e1, e2⟩
 obtain ⟨rfl, rfl⟩ := trodVars_none hV
 clear hA0
 simp only [List.append_nil] at hW'
 have hL' : laidMet Tryz.prog Rows.fnTextedUptoRow.laid W := by rw [← met_eq]; exact hL
 have htab := tab_of hL' (.tail _ (.tail _ (.tail _ (.tail _ (.tail _ (.tail _ (.tail _ (.tail _ (.head _)))))))))
 obtain ⟨fb, hft⟩ := ft_of hL' (.tail _ (.tail _ (.tail _ (.tail _ (.tail _ (.tail _ (.tail _ (.tail _ (.head _))))))))) (.tail _ (.tail _ (.tail _ (.tail _ (.head _))))) (.tail _ (.tail _ (.tail _ (.head _)))) (.tail _ (.tail _ (.tail _ (.tail _ (.tail _ (.tail _ (.head _)))))))
  (.tail _ (.tail _ (.tail _ (.tail _ (.tail _ (.tail _ (.tail _ (.tail _ (.tail _ (.tail _ (.tail _ (.tail _ (.head _)))))))))))))
 have hc := calls_of (W := W) (l8 fb t0 (.agg cs0) s1 hs1) (by
  intro d hd
  rcases List.mem_cons.1 hd with rfl | hd
  ·exact hv0'
  rcases List.mem_cons.1 hd with rfl | hd
  ·exact htab
  rcases List.mem_cons.1 hd with rfl | hd
  ·exact hft
  ·cases hd)
 refine hc.mono fun e W' ⟨he, hb⟩ => ?_
 subst he
 have hlt := hW'.lt
 exact ⟨_, rfl, post_of_below (pa := p0 ++ []) (pv := []) hW' (fun _ _ _ => trodAll_cons_mk (shut_bool Tryz.underlying4 _) trodAll_mk0)
  (fun sp hs => trodAll_mk2 (Go.WideElems.Trod_stays laidOut rd25 lt25 h0 (fun x hx => hb.same (hlt x (by simp [hx]))) (fun x hx => hs x (by simp [hx]))) (Go.ChangeMaps.shut_string Tryz.underlying9 hs1)) (fun _ _ => rfl) (by simp) hb (ok_one (by kernel_rfl) rfl (okWide_bool_mk Tryz.underlying4 _))⟩
end Go.Jw

namespace Go.Jw
open Go Go.RowKit Go.Proofs Go.ChangeShapes Go.WideShapes Go.Proofs.YtlcfillobkdnmaaGreatDoor
set_option maxRecDepth 100000
def setG (h : Array Obj) (g : Nat) (cs : List Value) : Array Obj := h.modify g fun
  | .cells _ t fr => .cells cs.toArray t fr
  | o => o
def wBlocks : Array Obj := #[.cells #[.string ⟨#[105, 110, 118, 97, 108, 105, 100, 32, 115, 121, 110, 116, 97, 120]⟩] 228 (0, 0), .cells #[.string ⟨#[118, 97, 108, 117, 101, 32, 111, 117, 116, 32, 111, 102, 32, 114, 97, 110, 103, 101]⟩] 228 (0, 0),
 .cells ([.float .f32 1065353216, .float .f32 1092616192, .float .f32 1120403456, .float .f32 1148846080, .float .f32 1176256512, .float .f32 1203982336, .float .f32 1232348160, .float .f32 1259902592, .float .f32 1287568416, .float .f32 1315859240, .float .f32 1343554297] : List Value).toArray 288 (0, 0), .cells ([.int .i64 1, .int .i64 3, .int .i64 6, .int .i64 9, .int .i64 13, .int .i64 16, .int .i64 19, .int .i64 23, .int .i64 26] : List Value).toArray 3 (0, 0), .cells ([.float .f64 4607182418800017408, .float .f64 4621819117588971520, .float .f64 4636737291354636288, .float .f64 4652007308841189376, .float .f64 4666723172467343360, .float .f64 4681608360884174848, .float .f64 4696837146684686336, .float .f64 4711630319722168320, .float .f64 4726483295884279808, .float .f64 4741671816366391296, .float .f64 4756540486875873280, .float .f64 4771362005757984768, .float .f64 4786511204640096256, .float .f64 4801453603149578240, .float .f64 4816244402031689728, .float .f64 4831355200913801216, .float .f64 4846369599423283200, .float .f64 4861130398305394688, .float .f64 4876203697187506176, .float .f64 4891288408196988160, .float .f64 4906019910204099648, .float .f64 4921056587992461136, .float .f64 4936209963552724370] : List Value).toArray 214 (0, 0),
 .cells (Pinned.cheatRows.flatMap fun x => [Value.int .i64 x.1, Value.string ⟨x.2.toArray⟩]).toArray 365 (0, 0)]
noncomputable def laidWorld (os : Os) : World := { World.holding Tryz.prog os ⟨wBlocks, #[], []⟩ with heap := (setG (setG (setG (setG (setG (setG (setG (setG (setG (setG (setG (setG (setG (World.holding Tryz.prog os ⟨wBlocks, #[], []⟩).heap 0 [.int .u64 1, .int .u64 10, .int .u64 100, .int .u64 1000, .int .u64 10000, .int .u64 100000, .int .u64 1000000, .int .u64 10000000, .int .u64 100000000, .int .u64 1000000000, .int .u64 10000000000, .int .u64 100000000000, .int .u64 1000000000000, .int .u64 10000000000000, .int .u64 100000000000000, .int .u64 1000000000000000, .int .u64 10000000000000000, .int .u64 100000000000000000, .int .u64 1000000000000000000, .int .u64 10000000000000000000]) 1 [.iface 226 (.pointer (some ⟨18, 0, none⟩))]) 2 [.iface 226 (.pointer (some ⟨19, 0, none⟩))]) 3 [.int .u64 23, .int .u64 8, .int .i64 (-127)]) 4 [.bool true]) 5 [.int .u64 52, .int .u64 11, .int .i64 (-1023)]) 6 [.int .u8 0, .int .u8 1, .int .u8 28, .int .u8 2, .int .u8 29, .int .u8 14, .int .u8 24, .int .u8 3, .int .u8 30, .int .u8 22, .int .u8 20, .int .u8 15, .int .u8 25, .int .u8 17, .int .u8 4, .int .u8 8, .int .u8 31, .int .u8 27, .int .u8 13, .int .u8 23, .int .u8 21, .int .u8 19, .int .u8 16, .int .u8 7, .int .u8 26, .int .u8 12, .int .u8 18, .int .u8 6, .int .u8 11, .int .u8 5, .int .u8 10, .int .u8 9]) 7 [.int .u8 0, .int .u8 1, .int .u8 56, .int .u8 2, .int .u8 57, .int .u8 49, .int .u8 28, .int .u8 3, .int .u8 61, .int .u8 58, .int .u8 42, .int .u8 50, .int .u8 38, .int .u8 29, .int .u8 17, .int .u8 4, .int .u8 62, .int .u8 47, .int .u8 59, .int .u8 36, .int .u8 45, .int .u8 43, .int .u8 51, .int .u8 22, .int .u8 53, .int .u8 39, .int .u8 33, .int .u8 30, .int .u8 24, .int .u8 18, .int .u8 12, .int .u8 5, .int .u8 63, .int .u8 55, .int .u8 48, .int .u8 27, .int .u8 60, .int .u8 41, .int .u8 37, .int .u8 16, .int .u8 46, .int .u8 35, .int .u8 44, .int .u8 21, .int .u8 52, .int .u8 32, .int .u8 23, .int .u8 11, .int .u8 54, .int .u8 26, .int .u8 40, .int .u8 15, .int .u8 34, .int .u8 20, .int .u8 31, .int .u8 10, .int .u8 25, .int .u8 14, .int .u8 19, .int .u8 9, .int .u8 13, .int .u8 8, .int .u8 7, .int .u8 6]) 8 [.slice (some ⟨20, 0, none⟩) 11 11]) 9 [.slice (some ⟨21, 0, none⟩) 9 9]) 10 [.slice (some ⟨22, 0, none⟩) 23 23]) 11 (Pinned.pow10Rows.flatMap fun x => [Value.int .u64 x.1, Value.int .u64 x.2])) 12 [.slice (some ⟨23, 0, none⟩) Pinned.cheatRows.length Pinned.cheatRows.length]) }
def inB (bs : List Nat) (ps : List MemPlace) : Bool := ps.all fun
  | .cell b _ => bs.contains b
  | .map _ => true
end Go.Jw

namespace Go.Jw
open Go Go.RowKit Go.Proofs Go.Proofs.YtlcfillobkdnmaaGreatDoor
set_option maxRecDepth 100000
theorem okRow_of {P : Program} {w : World} {t u : TypeId} {cs : List Value} {n : Nat} (ht : P.cellTypes P.depth t = some (List.replicate n u)) (hn : cs.length = n) (h0 : 0 < n) (h : cs.all (Cell.okRefB P w u) = true) : Row.okRefB P w t cs.toArray = true := by
 unfold Row.okRefB
 rw [ht]
 simp only [List.length_replicate, List.size_toArray, Bool.and_eq_true, List.all_eq_true, List.mem_range]
 refine ⟨by rw [hn]; simp, fun i hi => ?_⟩
 have hm : i % n < n := Nat.mod_lt _ h0
 rw [List.getElem?_toArray, List.getElem?_eq_getElem hi, List.getElem?_replicate, if_pos hm]
 exact List.all_eq_true.1 h _ (List.getElem_mem hi)
def oneB (P : Program) (w₀ w : World) (g : Nat) : Bool := match (w₀.heap[g]?).bind Obj.row? with
  | none => true
  | some (zero, t) => match w.heap[g]? with
    | some (.cells cs t' frozen) => decide (t' = t) && decide (frozen = (0, 0)) && cs.size == zero.size && (!P.buildable t || Row.okRefB P w t cs)
    | _ => false
theorem vars_of {P : Program} {w : World} (h : ∀ g, g < P.globals.size → oneB P (begin P (fun _ _ => 0) default).world w g = true) : w.variablesRefB P = true := by
 unfold World.variablesRefB
 exact List.all_eq_true.2 fun g hg => h g (List.mem_range.1 hg)
theorem oneB_of {P : Program} {w₀ w : World} {g : Nat} {zero : Array Value} {t : TypeId} {cs : List Value} (h0 : (w₀.heap[g]?).bind Obj.row? = some (zero, t)) (h1 : w.heap[g]? = some (.cells cs.toArray t (0, 0))) (hz : cs.length = zero.size) (h2 : Row.okRefB P w t cs.toArray = true) : oneB P w₀ w g = true := by
 unfold oneB
 rw [h0, h1]
 simp [hz, h2]
theorem vg0 (os : Os) (args : Array Value) : oneB Tryz.prog (begin Tryz.prog (fun _ _ => 0) default).world ((laidWorld os).forCall (fun _ _ => 0) ⟨#[], args, []⟩) 0 = true := by kernel_rfl
theorem vg1 (os : Os) (args : Array Value) : oneB Tryz.prog (begin Tryz.prog (fun _ _ => 0) default).world ((laidWorld os).forCall (fun _ _ => 0) ⟨#[], args, []⟩) 1 = true := by kernel_rfl
theorem vg2 (os : Os) (args : Array Value) : oneB Tryz.prog (begin Tryz.prog (fun _ _ => 0) default).world ((laidWorld os).forCall (fun _ _ => 0) ⟨#[], args, []⟩) 2 = true := by kernel_rfl
theorem vg3 (os : Os) (args : Array Value) : oneB Tryz.prog (begin Tryz.prog (fun _ _ => 0) default).world ((laidWorld os).forCall (fun _ _ => 0) ⟨#[], args, []⟩) 3 = true := by kernel_rfl
theorem vg4 (os : Os) (args : Array Value) : oneB Tryz.prog (begin Tryz.prog (fun _ _ => 0) default).world ((laidWorld os).forCall (fun _ _ => 0) ⟨#[], args, []⟩) 4 = true := by kernel_rfl
theorem vg5 (os : Os) (args : Array Value) : oneB Tryz.prog (begin Tryz.prog (fun _ _ => 0) default).world ((laidWorld os).forCall (fun _ _ => 0) ⟨#[], args, []⟩) 5 = true := by kernel_rfl
theorem vg6 (os : Os) (args : Array Value) : oneB Tryz.prog (begin Tryz.prog (fun _ _ => 0) default).world ((laidWorld os).forCall (fun _ _ => 0) ⟨#[], args, []⟩) 6 = true := by kernel_rfl
theorem vg7 (os : Os) (args : Array Value) : oneB Tryz.prog (begin Tryz.prog (fun _ _ => 0) default).world ((laidWorld os).forCall (fun _ _ => 0) ⟨#[], args, []⟩) 7 = true := by kernel_rfl
theorem vg8 (os : Os) (args : Array Value) : oneB Tryz.prog (begin Tryz.prog (fun _ _ => 0) default).world ((laidWorld os).forCall (fun _ _ => 0) ⟨#[], args, []⟩) 8 = true := by kernel_rfl
theorem vg9 (os : Os) (args : Array Value) : oneB Tryz.prog (begin Tryz.prog (fun _ _ => 0) default).world ((laidWorld os).forCall (fun _ _ => 0) ⟨#[], args, []⟩) 9 = true := by kernel_rfl
theorem vg10 (os : Os) (args : Array Value) : oneB Tryz.prog (begin Tryz.prog (fun _ _ => 0) default).world ((laidWorld os).forCall (fun _ _ => 0) ⟨#[], args, []⟩) 10 = true := by kernel_rfl
theorem vg12 (os : Os) (args : Array Value) : oneB Tryz.prog (begin Tryz.prog (fun _ _ => 0) default).world ((laidWorld os).forCall (fun _ _ => 0) ⟨#[], args, []⟩) 12 = true := by kernel_rfl
def pw : List Value := Pinned.pow10Rows.flatMap fun x => [Value.int .u64 x.1, Value.int .u64 x.2]
theorem v11z : ∃ zero, ((begin Tryz.prog (fun _ _ => 0) default).world.heap[11]?).bind Obj.row? = some (zero, 360) ∧ zero.size = 1392 := ⟨(Array.replicate 1392 (.int .u64 0)), by kernel_rfl, by kernel_rfl⟩
theorem v11h (os : Os) (args : Array Value) : ((laidWorld os).forCall (fun _ _ => 0) ⟨#[], args, []⟩).heap[11]? = some (.cells pw.toArray 360 (0, 0)) := by kernel_rfl
theorem v11t : Tryz.prog.cellTypes Tryz.prog.depth 360 = some (List.replicate 1392 235) := by kernel_rfl
theorem v11l : pw.length = 1392 := by kernel_rfl
theorem v11a (w : World) : pw.all (Cell.okRefB Tryz.prog w 235) = true := by kernel_rfl
theorem vg11 (os : Os) (args : Array Value) : oneB Tryz.prog (begin Tryz.prog (fun _ _ => 0) default).world ((laidWorld os).forCall (fun _ _ => 0) ⟨#[], args, []⟩) 11 = true := by
 obtain ⟨z, h0, hz⟩ := v11z
 exact oneB_of h0 (v11h os args) (by rw [hz]; exact v11l) (okRow_of v11t v11l (by decide) (v11a _))
theorem vars_ref (os : Os) (args : Array Value) : World.variablesRefB Tryz.prog ((laidWorld os).forCall (fun _ _ => 0) ⟨#[], args, []⟩) = true := vars_of fun g hg => by
  have h13 : Tryz.prog.globals.size = 13 := by kernel_rfl
  rw [h13] at hg
  match g, hg with
  | 0, _ => exact vg0 os args
  | 1, _ => exact vg1 os args
  | 2, _ => exact vg2 os args
  | 3, _ => exact vg3 os args
  | 4, _ => exact vg4 os args
  | 5, _ => exact vg5 os args
  | 6, _ => exact vg6 os args
  | 7, _ => exact vg7 os args
  | 8, _ => exact vg8 os args
  | 9, _ => exact vg9 os args
  | 10, _ => exact vg10 os args
  | 11, _ => exact vg11 os args
  | 12, _ => exact vg12 os args
end Go.Jw

