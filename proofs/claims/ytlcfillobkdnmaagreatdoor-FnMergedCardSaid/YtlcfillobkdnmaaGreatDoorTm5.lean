/- Part 5 of the proof's texts, made small by a program. -/
import Derived.Test.YtlcfillobkdnmaaGreatDoorTm4
set_option linter.unusedVariables false
set_option linter.unusedSimpArgs false
set_option maxHeartbeats 4000000
namespace Go.Jw
open Go Go.RowKit Go.Proofs
set_option maxRecDepth 8000
open Go.Sort (SWO)
section rules
variable {P : Program} {n : Nat} {F : List Nat} {c : Ctx F} {ops : Array Oper} {d : Nat} {T : TypeId} {l : List Oper} {k : List KI} {Q : Post} {e : Env} {M : List HA} {D : List DA}
theorem ops_frBlk (i : Nat) {b : Nat} {cs : List Value} {U : TypeId} (hi : M[i]? = some (.blk b cs U)) (hF : F = []) (next : RunOps P n c ops l k Q e (M.eraseIdx i) (.dblk b cs U :: D)) : RunOps P n c ops l k Q e M D :=
  ops_freeze (h := .blk b cs U) [.dblk b cs U] (fun x _ h => by rw [hF] at h; cases h) (vH hi) (fun w ok h hok hD d hd => by
    rcases List.mem_singleton.1 hd with rfl
    exact ⟨hok _ (by simp [HA.foot]), h⟩) next
theorem op_idxRow (i : Nat) {x y : Operand} {A : Option Addr} {m cap j : Nat} {kd : IntKind} {S E sz by_ U : Nat} {xs : List Value} (hS : SliceOf P S E sz by_) (hd : Nat.blt d n = true) (hx : ev e x = some (.slice A m cap)) (hy : ev e y = some (.int kd (j : Nat))) (hi : M[i]? = some (.row A m cap U 1 xs)) (hj : j < m)
  (next : RunOps P n c ops l k Q ((d, .pointer (some (At A (j * sz)))) :: e) M D) : RunOp P n c ops (some d) (.indexAddr S x y) T l k Q e M D := by
 intro a w hf
 obtain ⟨_, _, h3⟩ := tI (hf.toFitsW.mem hi)
 have hl : xs.length = m := by have := (hf.toFitsW.mem hi : (HA.row A m cap U 1 xs).holds w).1; omega
 obtain ⟨a', ha, _⟩ := h3 j xs[j] (List.getElem?_eq_getElem (by omega))
 subst ha
 exact xX hS hd hx hy hj next a w hf
end rules
abbrev encE (x : Nat) : Value := encN (2 * x)
def vals (ys : List Y) : List ByteArray := ys.map Y.val
theorem rangeE_snoc (i : Nat) : (List.range i).map encE ++ [encE i] = (List.range (i + 1)).map encE := by rw [List.range_succ, List.map_append]; rfl
theorem rangeE (n : Nat) : (List.range n).map encE = ((List.range n).map (2 * ·)).map encN := by rw [List.map_map]; rfl
theorem c107len {ks : List ByteArray} {us : List V} (hl : ks.length = us.length) : (ks.zip (us.map outY)).length = us.length := by rw [List.length_zip, List.length_map]; omega
theorem c107key {ks : List ByteArray} {us : List V} (hl : ks.length = us.length) {i : Nat} (h : i < us.length) : ((ks.zip (us.map outY)).flatMap prY)[2 * i]? = some (scal tStr (ks.getD i ⟨#[]⟩)) := by
 rw [flat_get0 (by rw [c107len hl]; exact h), List.getElem_zip, uR (by omega)]
theorem c107val {ks : List ByteArray} {us : List V} (hl : ks.length = us.length) {i : Nat} (h : i < us.length) : ((ks.zip (us.map outY)).flatMap prY)[2 * i + 1]? = some (outY (us[i])) := by
 rw [flat_get1 (by rw [c107len hl]; exact h), List.getElem_zip, List.getElem_map]
theorem halves {ks : List ByteArray} {us : List V} (hl : ks.length = us.length) {ds : List Nat} (hp : ds.Perm ((List.range us.length).map (2 * ·))) (hs : ds.Pairwise (fun x y => ltK (vals ((ks.zip (us.map outY)).flatMap prY)) y x = false)) :
  ∃ es : List Nat, es.Perm (List.range us.length) ∧ es.Pairwise (fun x y => ltK ks y x = false) ∧ ds.map encN = es.map encE := by
 have hev : ∀ x ∈ ds, ∃ y, y < us.length ∧ x = 2 * y := fun x hx => by
  obtain ⟨y, hy, rfl⟩ := List.mem_map.1 (hp.mem_iff.1 hx)
  exact ⟨y, List.mem_range.1 hy, rfl⟩
 have hkey : ∀ y, y < us.length → (vals ((ks.zip (us.map outY)).flatMap prY)).getD (2 * y) ⟨#[]⟩ = ks.getD y ⟨#[]⟩ := fun y hy => by
  unfold vals
  rw [List.getD_eq_getElem?_getD, List.getElem?_map, c107key hl hy]
  rfl
 refine ⟨ds.map (· / 2), ?_, ?_, ?_⟩
 ·have := hp.map (· / 2)
  rw [List.map_map] at this
  have e : ((fun x => x / 2) ∘ fun x => 2 * x) = (id : Nat → Nat) := by funext x; simp only [Function.comp, id]; omega
  rwa [e, List.map_id] at this
 ·rw [List.pairwise_map]
  refine hs.imp_of_mem fun {x y} hx hy h => ?_
  obtain ⟨a, ha, rfl⟩ := hev x hx
  obtain ⟨b, hb, rfl⟩ := hev y hy
  unfold ltK at h ⊢
  rw [hkey a ha, hkey b hb] at h
  rw [show 2 * a / 2 = a by omega, show 2 * b / 2 = b by omega]
  exact h
 ·rw [List.map_map]
  refine List.map_congr_left fun x hx => ?_
  obtain ⟨y, _, rfl⟩ := hev x hx
  show encN (2 * y) = encN (2 * (2 * y / 2))
  congr 1
  omega
set_option maxHeartbeats 2000000 in
theorem less167 (W : World) (keys : List ByteArray) (dk : List Nat) (b1 nb b9 b n c m : Nat) (ka : Addr) (kc : Nat) (hn1 : W.cell? ⟨b1, 0, none⟩ = some (ptr nb)) (hks : W.cell? ⟨nb, 6, none⟩ = some (.slice (some ka) m kc)) (hm : m = keys.length) (hps : W.cell? ⟨b9, 0, none⟩ = some (.slice (some ⟨b, 0, none⟩) n c)) (hn : dk.length = n)
  (hdk : ∀ j x, dk[j]? = some x → W.cell? ⟨b, j, none⟩ = some (encN x)) (hkk : ∀ j s, keys[j]? = some s → ∃ q, W.cell? (ka.add j) = some (ptr q) ∧ W.cell? ⟨q, 3, none⟩ = some (.string s)) (hlt : ∀ x ∈ dk, x < keys.length) (i j : Nat) (hi : i < dk.length) (hj : j < dk.length) :
  Calls Tryz.prog 167 #[.int .i64 i, .int .i64 j, ptr b1, ptr b9] W fun e w' => e = .returned (.bool (ltK keys dk[i] dk[j])) ∧ ∃ q, w' = W.drewN q := by
 have hxi := hlt _ (List.getElem_mem hi)
 have hxj := hlt _ (List.getElem_mem hj)
 have ci := hdk i _ (List.getElem?_eq_getElem hi)
 have cj := hdk j _ (List.getElem?_eq_getElem hj)
 obtain ⟨qi, ki, vi⟩ := hkk _ _ (List.getElem?_eq_getElem hxi)
 obtain ⟨qj, kj, vj⟩ := hkk _ _ (List.getElem?_eq_getElem hxj)
 have hin : i < n := by omega
 have hjn : j < n := by omega
 have him : dk[i] < m := by omega
 have hjm : dk[j] < m := by omega
 have hlk : ltK keys dk[i] dk[j] = Op.bytesLess keys[dk[i]].toList keys[dk[j]].toList := by
  unfold ltK
  rw [less_lt, uR hxi, uR hxj, sG, sG]
 go_enter Tryz.func167, Tryz.ntmps167
 go_wp2
 go_quiet (fail)
 go_wp2
 go_ret
 refine ⟨?_, nq, rfl⟩
 rw [hlk]
 rfl
theorem fun167 : Fun Tryz.prog 167 := ⟨_, Tryz.func167, by kernel_rfl, rfl⟩
theorem less_okE (ys : List Y) (A : Option Addr) (m ca nb b1 b9 pb n c9 : Nat) (t v : ByteArray) (k : Int) (hm : m = ys.length) : ∀ (W : World) (dk : List Nat), dk.length = n → (∀ x ∈ dk, x < ys.length) → (∀ x ∈ [HA.blk b9 [.slice (some ⟨pb, 0, none⟩) n c9] 139], x.holds W) → (∀ j x, dk[j]? = some x → W.cell? ⟨pb, j, none⟩ = some (encN x)) →
  (∃ ok, ∀ d ∈ [DA.dblk b1 [ptr nb] 102, .dblk nb (ycells k t v A m ca) 150, .kids (.slice A m ca) ys], d.p W ok) → ∀ (i j : Nat) (hi : i < dk.length) (hj : j < dk.length),
   Calls Tryz.prog 167 (#[.int .i64 i, .int .i64 j] ++ #[ptr b1, ptr b9]) W fun e w' => e = .returned (.bool (ltK (vals ys) dk[i] dk[j])) ∧ ∃ q, w' = W.drewN q := by
 intro W dk hn hlt hM hdk hD i j hi hj
 obtain ⟨ok, hD⟩ := hD
 have h1 : BlkP W ok b1 [ptr nb] 102 := hD _ List.mem_cons_self
 have h2 : BlkP W ok nb (ycells k t v A m ca) 150 := hD _ (List.mem_cons_of_mem _ List.mem_cons_self)
 obtain ⟨A', c', hv, _, _, hk⟩ : KidsV W ok (.slice A m ca) ys := hD _ (List.mem_cons_of_mem _ (List.mem_cons_of_mem _ List.mem_cons_self))
 injection hv with e1 e2 e3
 subst e1; subst e3
 have hkid : ∀ (x : Nat) (y : Y), ys[x]? = some y → ∃ a b, A = some a ∧ ok a.block ∧ W.cell? (a.add x) = some (ptr b) ∧ NodeP W ok y b := fun x y hx => by
  have := hk.get hx
  simpa using this
 obtain ⟨a, _, rfl, _⟩ := hkid _ _ (List.getElem?_eq_getElem (hlt _ (List.getElem_mem hi)))
 refine less167 W (vals ys) dk b1 nb b9 pb n c9 m a ca ?_ ?_ (by unfold vals; rw [List.length_map]; exact hm) ?_ hn hdk (fun j s hj => ?_) (fun x hx => by unfold vals; rw [List.length_map]; exact hlt x hx) i j hi hj
 ·rw [uT h1.2]; rfl
 ·rw [uT h2.2]; rfl
 ·have := hM _ List.mem_cons_self
  rw [uT this]; rfl
 ·unfold vals at hj
  rw [List.getElem?_map] at hj
  obtain ⟨y, hy, rfl⟩ := Option.map_eq_some_iff.1 hj
  obtain ⟨a', b', ha, _, hc, hnode⟩ := hkid _ _ hy
  cases ha
  refine ⟨b', hc, ?_⟩
  obtain ⟨q, tt, vv, zs⟩ := y
  obtain ⟨_, _, _, A2, c2, hb, _⟩ := hnode
  rw [uT hb]
  rfl
def C107 (fb : Addr) (u : V) : Prop := ∀ b, CtR Tryz.prog 107 #[ptr b] [.node b (outY u), ftD fb] (RVT (srtV u))

theorem c107s (fb : Addr) (b : Nat) (y : Y) (v : V) (hk : y.kind = 8) (H : CtR Tryz.prog 166 #[ptr b] [.node b y, ftD fb] (RVT v)) : CtR Tryz.prog 107 #[ptr b] [.node b y, ftD fb] (RVT v) := by
 refine Ct.of_run (args := [ptr b]) Tryz.func107 (by kernel_rfl) rfl Tryz.ntmps107 rfl (fun c => ?_)
 refine run_node 0 rfl (fun A0 cap0 ht0 hv0 hl0 hc0 => ?_)
 refine rO 3 rfl (yN rfl rfl rfl (fun b1 => ?_))
 refine ops_frBlk 0 rfl rfl (zA ?_)
 refine zR ze25 rfl (fun b2 => ?_)
 change RunOps _ _ _ _ _ _ _ _ (HA.blk _ [_, _, _, _, _] _ :: _) _
 refine oO 7 rfl (zG 0 sc102 rfl rfl rfl rfl ?_)
 refine zA (pT pn102 rfl rfl ?_)
 refine oO 7 rfl (zG 0 sc102 rfl rfl rfl rfl ?_)
 refine oO 3 rfl (zB xY rfl rfl ?_)
 refine zA (zG 1 sc146 rfl rfl rfl rfl ?_)
 refine oR 9 rfl (wV rfl (decide_eq_true (by exact_mod_cast hk)) ?_)
 refine rO 3 rfl (zG 0 sc102 rfl rfl rfl rfl ?_)
 refine zA (zT rfl rfl rfl H (sub2 3 4 rfl rfl) (fun u27 D27 hv27 => ?_))
 obtain ⟨_, rfl, A27, c27, B27, d27, rfl, rfl⟩ := hv27
 refine oO 5 rfl (zF 0 (M' := [HA.blk _ [_, _, _, _, _] _]) rfl rfl rfl rfl si25 rfl rfl rfl ?_)
 refine oK 3 [3, 2] rfl rfl ?_
 refine wY (M' := [HA.blk b2 [_, _, _, _, _] 25]) (by repeat (first | exact yC _ | refine zC 0 rfl ?_ | refine zC 1 rfl ?_ | refine zC 2 rfl ?_ | refine zC 3 rfl ?_ | refine zC 4 rfl ?_)) ?_
 exact wG 0 Tryz.results107 rfl rfl rfl ag25 ⟨rfl, _, rfl, _, _, _, _, rfl, rfl⟩ nS (sub1 0 rfl)
theorem c107l (fb : Addr) (b : Nat) (us : List V) (h60 : us.length ≤ 60) (H : ∀ x ∈ us, C107 fb x) : CtR Tryz.prog 107 #[ptr b] [.node b (RKids 2 (us.map outY)), ftD fb] (RVT (.mk 4 0 ⟨#[]⟩ [] (us.map srtV))) := by
 refine Ct.of_run (args := [ptr b]) Tryz.func107 (by kernel_rfl) rfl Tryz.ntmps107 rfl (fun c => ?_)
 refine xI 0 rfl (fun A0 cap0 ht0 hv0 hl0 hc0 => ?_)
 rw [List.length_map]
 rw [List.length_map] at hl0
 unfold maxLen at hc0
 refine rO 3 rfl (yN rfl rfl rfl (fun b1 => ?_))
 refine ops_frBlk 0 rfl rfl (zA ?_)
 refine zR ze25 rfl (fun b2 => ?_)
 change RunOps _ _ _ _ _ _ _ _ (HA.blk _ [_, _, _, _, _] _ :: _) _
 refine oO 7 rfl (zG 0 sc102 rfl rfl rfl rfl ?_)
 refine zA (pT pn102 rfl rfl ?_)
 refine oO 7 rfl (zG 0 sc102 rfl rfl rfl rfl ?_)
 refine oO 3 rfl (zB xY rfl rfl ?_)
 refine zA (zG 1 sc146 rfl rfl rfl rfl ?_)
 refine oK 17 [30, 23, 2, 1] rfl rfl (rO 4 rfl ?_)
 refine yS rfl rfl (bu25_0 ..) (zA ?_)
 refine zR ze25 rfl (fun b4 => ?_)
 change RunOps _ _ _ _ _ _ _ _ (HA.blk _ [_, _, _, _, _] _ :: _) _
 refine zA (zF 0 (M' := [HA.blk _ [_, _, _, _, _] _, _]) rfl rfl rfl rfl si25 rfl rfl rfl ?_)
 refine oO 5 rfl (zG 0 sc102 rfl rfl rfl rfl ?_)
 refine oO 3 rfl (zB xZ rfl rfl ?_)
 refine zA (zG 1 sc148 rfl rfl rfl rfl ?_)
 refine zA (zX sl148 rfl rfl ?_)
 refine oK 4 [38, 37, 36, 4, 2] rfl rfl (xN 25 5 ?_)
 refine uY ?_
 refine yH 1 (fun (⟨i, A, ca, xs⟩ : Nat × Option Addr × Nat × List Value) => i ≤ us.length) (fun (⟨i, A, ca, xs⟩ : Nat × Option Addr × Nat × List Value) => [(38, .int .i64 ((i : Nat) : Int))]) (fun (⟨i, A, ca, xs⟩ : Nat × Option Addr × Nat × List Value) => HA.row A i ca 25 5 xs :: HA.blk b4 [.int .i64 4, .int .i64 0, .string ⟨#[]⟩, .slice none 0 0, .slice A i ca] 25 :: HA.blk b2 [.int .i64 0, .int .i64 0, .string ⟨#[]⟩, .slice none 0 0, .slice none 0 0] 25 :: []) (fun (⟨i, A, ca, xs⟩ : Nat × Option Addr × Nat × List Value) => .its xs ((us.take i).map srtV) :: .dblk b1 [ptr b] 102 :: .dblk b (ycells 2 ⟨#[]⟩ ⟨#[]⟩ A0 us.length cap0) 150 :: .kids (.slice A0 us.length cap0) (us.map outY) :: .node b (RKids 2 (us.map outY)) :: ftD fb :: []) (fun (⟨i, A, ca, xs⟩ : Nat × Option Addr × Nat × List Value) => us.length - i) (0, none, 0, []) (by show 0 ≤ _; omega) (eC rfl (eN _)) rfl rfl ?_ (eC rfl (eC rfl (eC rfl (eC rfl (eN _)))))
 intro ⟨i, A, ca, xs⟩ hI K hK
 replace hI : i ≤ us.length := hI
 change Run _ _ _ _ _ [(38, _), (37, _), (36, _), (4, _), (2, _)] [_, _, _] [_, _, _, _, _, _]
 have hi : i ≤ us.length := hI
 refine rO 3 rfl (yM rfl rfl rfl ?_)
 refine oR 2 rfl (zO rfl (fun h39 => ?_) (fun h39 => ?_))
 ·refine rO 6 rfl (wF 3 sl148 rfl rfl rfl rfl h39 ?_)
  refine uG 3 i rfl (map_get h39) (fun bk => ?_)
  refine zA (yJ sc102 rfl rfl (fun _ h => uH h (j := 0) rfl) ?_)
  refine oO 8 rfl (zT rfl rfl rfl (H _ (List.getElem_mem h39) bk) (sub2 1 7 rfl rfl) (fun u44 D44 hv44 => ?_))
  obtain ⟨_, rfl, A44, c44, B44, d44, rfl, rfl⟩ := hv44
  refine oO 7 rfl (zR ze25 rfl (fun b7 => ?_))
  change RunOps _ _ _ _ _ _ _ _ (HA.blk _ [_, _, _, _, _] _ :: _) _
  refine zA (zF 0 (M' := [HA.blk _ [_, _, _, _, _] _, _, _, _]) rfl rfl rfl rfl si25 rfl rfl rfl ?_)
  refine oK 3 [8, 7, 38, 37, 36, 4, 2] rfl rfl (rO 12 rfl ?_)
  refine zB yO rfl rfl (zA ?_)
  refine zH 2 sc23 rfl rfl rfl rfl (zA ?_)
  refine zQ 0 rfl ag25 rfl rfl (zA ?_)
  refine zK sl23 rfl rfl rfl rfl rfl (fun b53 => ?_)
  refine zA ?_
  refine op_apd 2 0 sl23 (fun A54 c54 => ?_)
  refine zA (zB yO rfl rfl ?_)
  refine zA (zF 3 (M' := [_, _, _, HA.blk _ [_, _, _, _, _] _, _]) rfl rfl rfl rfl si23 rfl rfl rfl ?_)
  refine oK 1 [38, 37, 36, 4, 2] rfl rfl (rO 3 rfl ?_)
  refine yB rfl rfl (by omega) (oR 3 rfl ?_)
  refine wB 3 0 rfl rfl rfl ?_
  rw [tR (f := srtV) h39]
  exact kQ (hK (i + 1, _, _, _) (by show i + 1 ≤ _; omega) (by show us.length - (i + 1) < us.length - i; omega)) (eC rfl (eC rfl (eC rfl (eC rfl (eC rfl (eN _)))))) (hD := (subc 0 rfl sQ))
 obtain rfl : i = us.length := by omega
 rw [List.take_length]
 refine rO 4 rfl (zQ 1 rfl ag25 rfl rfl ?_)
 refine zA (zF 2 (M' := [_, _, HA.blk _ [_, _, _, _, _] _]) rfl rfl rfl rfl si25 rfl rfl rfl ?_)
 refine oR 3 rfl (sY ?_)
 refine vS 0 1 (us.map srtV) rfl rfl (by simp [foots, HA.foot]) (by rw [List.length_map]) (wH 1 0 rfl rfl (s := ⟨#[]⟩) (q := 4) (m := 0) (by decide) ?_)
 refine wY (M' := [HA.blk b2 [_, _, _, _, _] 25]) (by repeat (first | exact yC _ | refine zC 0 rfl ?_ | refine zC 1 rfl ?_ | refine zC 2 rfl ?_ | refine zC 3 rfl ?_ | refine zC 4 rfl ?_)) ?_
 exact wG 0 Tryz.results107 rfl rfl rfl ag25 ⟨rfl, _, rfl, none, 0, _, _, by simp only [V.kind, V.num, V.text, V.keys, V.items, List.length_map, List.length_nil]; rfl, rfl⟩ nS (sub1 0 rfl)
theorem sK {M M2 : List HA} (h : Pick M2 M := by repeat (first | exact xS _ | exact yC _ | refine zC 0 rfl ?_ | refine zC 1 rfl ?_ | refine zC 2 rfl ?_ | refine zC 3 rfl ?_ | refine zC 4 rfl ?_ | refine zC 5 rfl ?_ | refine zC 6 rfl ?_ | refine zC 7 rfl ?_ | refine zC 8 rfl ?_)) : Pick M2 M := h
set_option maxHeartbeats 4000000 in
theorem c107m (fb : Addr) (b : Nat) (ks : List ByteArray) (us : List V) (hl : ks.length = us.length) (h60 : us.length ≤ 60) (hnd : ks.Nodup) (hszs : ∀ s ∈ ks, s.size ≤ maxLen) (H : ∀ x ∈ us, C107 fb x) (ys : List Y) (hys : ys = (ks.zip (us.map outY)).flatMap prY) : CtR Tryz.prog 107 #[ptr b] [.node b (RKids 4 ys), ftD fb] (RVT (srtV (.mk 5 0 ⟨#[]⟩ ks us))) := by
 refine Ct.of_run (args := [ptr b]) Tryz.func107 (by kernel_rfl) rfl Tryz.ntmps107 rfl (fun c => ?_)
 have hfl : ys.length = 2 * us.length := by rw [hys, flat_len, c107len hl]
 have hk0 : ∀ x, x < us.length → ys[2 * x]? = some (scal tStr (ks.getD x ⟨#[]⟩)) := fun x hx => by rw [hys]; exact c107key hl hx
 have hk1 : ∀ x (h : x < us.length), ys[2 * x + 1]? = some (outY us[x]) := fun x hx => by rw [hys]; exact c107val hl hx
 have h2t : ((2 * us.length : Nat) : Int).tmod 2 = 0 := by rw [show ((2 * us.length : Nat) : Int) = 2 * (us.length : Int) by omega]; exact Int.mul_tmod_right _ _
 refine xI 0 rfl (fun A0 cap0 ht0 hv0 hl0 hc0 => ?_)
 rw [hfl]
 rw [hfl] at hl0
 unfold maxLen at hc0
 refine rO 3 rfl (yN rfl rfl rfl (fun b1 => ?_))
 refine ops_frBlk 0 rfl rfl (zA ?_)
 refine zR ze25 rfl (fun b2 => ?_)
 change RunOps _ _ _ _ _ _ _ _ (HA.blk _ [_, _, _, _, _] _ :: _) _
 refine oO 7 rfl (zG 0 sc102 rfl rfl rfl rfl ?_)
 refine zA (pT pn102 rfl rfl ?_)
 refine oO 7 rfl (zG 0 sc102 rfl rfl rfl rfl ?_)
 refine oO 3 rfl (zB xY rfl rfl ?_)
 refine zA (zG 1 sc146 rfl rfl rfl rfl ?_)
 refine oK 17 [30, 23, 2, 1] rfl rfl (rO 13 rfl ?_)
 refine zG 0 sc102 rfl rfl rfl rfl (oO 3 rfl ?_)
 refine zB xZ rfl rfl (zA ?_)
 refine zG 1 sc148 rfl rfl rfl rfl (zA ?_)
 refine zX sl148 rfl rfl (zA ?_)
 refine op_rem rfl rfl rfl (by decide) ?_
 rw [h2t]
 refine zA (tY rfl rfl rfl ?_)
 refine oK 1 [66, 2, 1] rfl rfl (rO 5 rfl ?_)
 refine uB sl139 rfl (fun b68 => ?_)
 refine zA (zR ze139 rfl (fun b9 => ?_))
 change RunOps _ _ _ _ _ _ _ _ (HA.blk _ [_] _ :: _) _
 refine zA (zF 0 (M' := [HA.blk _ [_] _, _, _]) rfl rfl rfl rfl si139 rfl rfl rfl ?_)
 refine oK 8 [10, 9, 2, 1] rfl rfl ?_
 refine yH 1 (fun (⟨i, pb, c9⟩ : Nat × Nat × Nat) => i ≤ us.length) (fun (⟨i, pb, c9⟩ : Nat × Nat × Nat) => [(10, .int .i64 ((2 * i : Nat) : Int))]) (fun (⟨i, pb, c9⟩ : Nat × Nat × Nat) => HA.blk b9 [.slice (some ⟨pb, 0, none⟩) i c9] 139 :: HA.row (some ⟨pb, 0, none⟩) i c9 3 1 ((List.range i).map encE) :: HA.blk b2 [.int .i64 0, .int .i64 0, .string ⟨#[]⟩, .slice none 0 0, .slice none 0 0] 25 :: []) (fun (⟨i, pb, c9⟩ : Nat × Nat × Nat) => .dblk b1 [ptr b] 102 :: .dblk b (ycells 4 ⟨#[]⟩ ⟨#[]⟩ A0 (2 * us.length) cap0) 150 :: .kids (.slice A0 (2 * us.length) cap0) ys :: .node b (RKids 4 ys) :: ftD fb :: []) (fun (⟨i, pb, c9⟩ : Nat × Nat × Nat) => us.length - i) (0, _, _) (by show 0 ≤ _; omega) (eC rfl (eN _)) rfl rfl ?_ (eC rfl (eC rfl (eC rfl (eN _))))
 intro ⟨i, pb, c9⟩ hI K hK
 replace hI : i ≤ us.length := hI
 change Run _ _ _ _ _ [(10, _), (9, _), (2, _), (1, _)] [_, _, _] [_, _, _, _, _]
 have hi : i ≤ us.length := hI
 refine rO 6 rfl (zG 0 sc102 rfl rfl rfl rfl ?_)
 refine oO 3 rfl (zB xZ rfl rfl ?_)
 refine zA (zG 1 sc148 rfl rfl rfl rfl ?_)
 refine zA (zX sl148 rfl rfl ?_)
 refine zA (yM rfl rfl rfl ?_)
 refine zZ (zO rfl (fun h75 => ?_) (fun h75 => ?_))
 ·refine rO 5 rfl (zH 0 sc139 rfl rfl rfl rfl ?_)
  refine oO 3 rfl (zK sl139 rfl rfl rfl rfl rfl (fun b80 => ?_))
  refine zA ?_
  refine op_apd 2 0 sl139 (fun A81 c81 => ?_)
  refine zA (zF 1 (M' := [_, HA.blk _ [_] _, _, _]) rfl rfl rfl rfl si139 rfl rfl rfl ?_)
  refine oK 1 [10, 9, 2, 1] rfl rfl (rO 5 rfl ?_)
  refine xF (s := ((2 * (i + 1) : Nat) : Int)) rfl rfl rfl (by omega) (by omega) (by omega) (oR 3 rfl ?_)
  refine run_rowA 2 rfl (by omega) (fun pb1 hpb => ?_)
  subst hpb
  rw [rangeE_snoc]
  exact kQ (hK (i + 1, pb1, _) (by show i + 1 ≤ _; omega) (by show us.length - (i + 1) < us.length - i; omega)) (eC rfl (eC rfl (eC rfl (eC rfl (eN _)))))
 obtain rfl : i = us.length := by omega
 rw [rangeE]
 refine rO 4 rfl (zH 0 sc139 rfl rfl rfl rfl ?_)
 refine zA (op_makeIface (by kernel_rfl) rfl rfl ?_)
 refine zA (rI rfl rfl rfl ?_)
 refine zA ?_
 refine pM 1 0 rfl rfl rfl (c130 167 #[ptr b1, ptr b9] pb us.length c9 ys.length ((List.range us.length).map (2 * ·)) (fun x hx => by obtain ⟨z, hz, rfl⟩ := List.mem_map.1 hx; have := List.mem_range.1 hz; omega) (ltK (vals ys)) (ltK_swo _) [HA.blk b9 [.slice (some ⟨pb, 0, none⟩) us.length c9] 139] [.dblk b1 [ptr b] 102, .dblk b (ycells 4 ⟨#[]⟩ ⟨#[]⟩ A0 (2 * us.length) cap0) 150, .kids (.slice A0 (2 * us.length) cap0) ys] (by omega) (fun args w => run_callFunc fun167 args w) (fun W dk h1 h2 => less_okE ys A0 (2 * us.length) cap0 b b1 b9 pb us.length c9 _ _ _ hfl.symm W dk h1 h2)) rfl rfl (subc 0 rfl (sub2 1 2 rfl rfl)) (fun u85 M85 D85 hv85 => ?_)
 obtain ⟨rfl, ⟨ds, hdp, hds, rfl⟩, rfl⟩ := hv85
 rw [hys] at hds
 obtain ⟨es, hep, hes, hee⟩ := halves hl hdp hds
 rw [hee]
 have hel : es.length = us.length := by rw [hep.length_eq, List.length_range]
 have hep2 : es.Perm (List.range ks.length) := by rw [hl]; exact hep
 refine oK 1 [9, 2, 1] rfl rfl (rO 3 rfl ?_)
 refine yS rfl rfl (bu25_0 ..) (zA ?_)
 refine zR ze25 rfl (fun b11 => ?_)
 change RunOps _ _ _ _ _ _ _ _ (HA.blk _ [_, _, _, _, _] _ :: _) _
 refine zA (zF 0 (M' := [HA.blk _ [_, _, _, _, _] _, _, _, _]) rfl rfl rfl rfl si25 rfl rfl rfl ?_)
 refine oO 5 rfl (zH 2 sc139 rfl rfl rfl rfl ?_)
 refine zA (zX sl139 rfl rfl ?_)
 refine oK 4 [89, 88, 87, 11, 2, 1] rfl rfl (xN 25 5 ?_)
 refine xN 9 1 (uY ?_)
 refine yH 1 (fun (⟨i3, KA, kc, KI, ic, xv⟩ : Nat × Option Addr × Nat × Option Addr × Nat × List Value) => i3 ≤ us.length) (fun (⟨i3, KA, kc, KI, ic, xv⟩ : Nat × Option Addr × Nat × Option Addr × Nat × List Value) => [(89, .int .i64 ((i3 : Nat) : Int))]) (fun (⟨i3, KA, kc, KI, ic, xv⟩ : Nat × Option Addr × Nat × Option Addr × Nat × List Value) => HA.row KA i3 kc 9 1 ((es.take i3).map (fun x => Value.string (ks.getD x ⟨#[]⟩))) :: HA.row KI i3 ic 25 5 xv :: HA.blk b11 [.int .i64 5, .int .i64 0, .string ⟨#[]⟩, .slice KA i3 kc, .slice KI i3 ic] 25 :: HA.row (some ⟨pb, 0, none⟩) us.length c9 3 1 (es.map encE) :: HA.blk b9 [.slice (some ⟨pb, 0, none⟩) us.length c9] 139 :: HA.blk b2 [.int .i64 0, .int .i64 0, .string ⟨#[]⟩, .slice none 0 0, .slice none 0 0] 25 :: []) (fun (⟨i3, KA, kc, KI, ic, xv⟩ : Nat × Option Addr × Nat × Option Addr × Nat × List Value) => .its xv ((es.take i3).map (fun x => (us.map srtV).getD x zV0)) :: .dblk b1 [ptr b] 102 :: .dblk b (ycells 4 ⟨#[]⟩ ⟨#[]⟩ A0 (2 * us.length) cap0) 150 :: .kids (.slice A0 (2 * us.length) cap0) ys :: .node b (RKids 4 ys) :: ftD fb :: []) (fun (⟨i3, KA, kc, KI, ic, xv⟩ : Nat × Option Addr × Nat × Option Addr × Nat × List Value) => us.length - i3) (0, none, 0, none, 0, []) (by show 0 ≤ _; omega) (eC rfl (eN _)) rfl rfl ?_ (eC rfl (eC rfl (eC rfl (eC rfl (eC rfl (eN _))))))
 intro ⟨i3, KA, kc, KI, ic, xv⟩ hI K hK1
 replace hI : i3 ≤ us.length := hI
 change Run _ _ _ _ _ [(89, _), (88, _), (87, _), (11, _), (2, _), (1, _)] [_, _, _, _, _, _] [_, _, _, _, _, _]
 have hi3 : i3 ≤ us.length := hI
 refine rO 3 rfl (yM rfl rfl rfl ?_)
 refine oR 2 rfl (zO rfl (fun h90 => ?_) (fun h90 => ?_))
 ·have hld : i3 < es.length := by omega
  have hde : es[i3] < us.length := places_lt hep _ (List.getElem_mem hld)
  have hdk : es[i3] < ks.length := by omega
  have hdv : es[i3] < (us.map srtV).length := by rw [List.length_map]; exact hde
  refine rO 8 rfl (xX sl139 rfl rfl rfl h90 ?_)
  refine zA ?_
  refine yJ sc3 rfl rfl (fun _ h => row_at h (i := 3) rfl (by rw [List.getElem?_map, List.getElem?_eq_getElem hld]; rfl)) ?_
  refine oO 8 rfl (zG 1 sc102 rfl rfl rfl rfl ?_)
  refine oO 3 rfl (zB xZ rfl rfl ?_)
  refine zA (zG 2 sc148 rfl rfl rfl rfl ?_)
  refine oO 3 rfl (wF (i := 2 * es[i3]) 3 sl148 rfl rfl rfl rfl (by omega) ?_)
  refine uG 3 (2 * es[i3]) rfl (hk0 _ hde) (fun bk => ?_)
  refine sE 1 rfl (fun A1 cap1 ht1 hv1 hl1 hc1 => ?_)
  refine zA (yJ sc102 rfl rfl (fun _ h => uH h (j := 2) rfl) ?_)
  refine oO 3 rfl (zB wL rfl rfl ?_)
  refine zA (zG 0 sc9 rfl rfl rfl rfl ?_)
  refine oK 3 [14, 13, 12, 89, 88, 87, 11, 2, 1] rfl rfl (rO 3 rfl ?_)
  refine zG 5 sc102 rfl rfl rfl rfl (oO 3 rfl ?_)
  refine zB xZ rfl rfl (zA ?_)
  refine zG 6 sc148 rfl rfl rfl rfl (oO 3 rfl ?_)
  refine yB rfl rfl (by omega) (zA ?_)
  refine wF (i := 2 * es[i3] + 1) 7 sl148 rfl rfl rfl rfl (by omega) (uG 7 (2 * es[i3] + 1) rfl (hk1 _ hde) (fun bv => ?_))
  refine zA (yJ sc102 rfl rfl (fun _ h => uH h (j := 0) rfl) ?_)
  refine zA (zT rfl rfl rfl (H _ (List.getElem_mem hde) bv) (sub2 1 11 rfl rfl) (fun u113 D113 hv113 => ?_))
  obtain ⟨_, rfl, A113, c113, B113, d113, rfl, rfl⟩ := hv113
  refine oO 7 rfl (zR ze25 rfl (fun b15 => ?_))
  change RunOps _ _ _ _ _ _ _ _ (HA.blk _ [_, _, _, _, _] _ :: _) _
  refine zA (zF 0 (M' := [HA.blk _ [_, _, _, _, _] _, _, _, _, _, _, _]) rfl rfl rfl rfl si25 rfl rfl rfl ?_)
  refine oK 3 [16, 15, 14, 12, 89, 88, 87, 11, 2, 1] rfl rfl (rS 9 rfl ?_)
  refine vB (s := 118) rfl (rfl) (oO 3 rfl ?_)
  refine vI rfl rfl rfl (oS 2 rfl ?_)
  refine yG (s := 121) rfl (fun h121 => ?_) (fun h121 => ?_)
  ·refine zJ rfl rfl (zB xB rfl rfl ?_)
   refine zJ rfl rfl (zH 3 sc22 rfl rfl rfl rfl ?_)
   refine oO 3 rfl (xK (s := ((i3 - 1 : Nat) : Int)) rfl rfl rfl (by omega) (by omega) (by omega) ?_)
   refine zJ rfl rfl (op_idxRow 1 sl22 rfl rfl rfl rfl (by omega) ?_)
   refine zJ rfl rfl (yJ (v := .string (ks.getD (es[i3 - 1]'(by omega)) ⟨#[]⟩)) sc9 rfl rfl (fun _ h => row_atA h (i := 1) rfl (take_get (by omega) (by omega))) ?_)
   refine oK 9 [131, 15, 14, 89, 88, 87, 11, 2, 1] rfl rfl (yX rfl (decide_eq_false (fun he => places_ne hnd hep2 (i := i3 - 1) (j := i3) (by omega) (by omega) he)) ?_)
   refine xU (yT yE ?_)
   refine zS (tP 0 rfl wanted0 (zU xB rfl) ?_)
   refine tP 2 rfl wanted0 (zW rfl) (tP 5 rfl wanted0 (zU yO rfl) ?_)
   refine any_grpG (zC 0 rfl (zC 2 rfl (yC _))) (uM (zC 0 rfl (zC 2 rfl (yC _))) 1 (xC _ _ _ _) rfl wanted0 (by decide +kernel) (by decide +kernel) (by decide +kernel) rfl (yP 1 sc22 rfl rfl rfl) ?_)
   refine uM (zC 0 rfl (zC 2 rfl (yC _))) 6 (xC _ _ _ _) rfl wanted0 (by decide +kernel) (by decide +kernel) (by decide +kernel) rfl (yP 1 sc23 rfl rfl rfl) (uM (zC 0 rfl (zC 2 rfl (yC _))) 7 (xC _ _ _ _) rfl wanted0 (by decide +kernel) (by decide +kernel) (by decide +kernel) rfl (wZ 0 rfl ag25 rfl) ?_)
   refine tH (rs := [3, 8]) (by decide +kernel) (by simp) ?_
   intro j hj
   simp only [List.mem_cons, List.not_mem_nil, or_false] at hj
   rcases hj with rfl | rfl
   ·refine zL (I2 := [[7, 6, 1], [5, 0], []]) rfl wanted0 (by decide +kernel) (fun Kd hKd => ?_)
    refine zK sl22 rfl rfl rfl rfl rfl (fun b136 => ?_)
    refine hKd _ _ _ (vX sK sQ (hC (zD (zM)))) ?_
    refine tH (rs := [4, 8]) (by decide +kernel) (by simp) ?_
    intro j hj
    simp only [List.mem_cons, List.not_mem_nil, or_false] at hj
    rcases hj with rfl | rfl
    ·refine zL (I2 := [[7, 6], [5], []]) rfl wanted0 (by decide +kernel) (fun Kd hKd => ?_)
     refine op_apd 2 0 sl22 (fun A137 c137 => ?_)
     refine hKd _ _ _ (vX sK sQ (hC (zD (zM)))) ?_
     refine zS (tP 10 rfl wanted0 (zU xB rfl) ?_)
     refine zI 8 (by decide +kernel) ?_
     refine zL (I2 := [[10], [6], [5], []]) rfl wanted0 (by decide +kernel) (fun Kd hKd => ?_)
     refine zK sl23 rfl rfl rfl rfl rfl (fun b141 => ?_)
     refine hKd _ _ _ (hC (vX sK sQ (hC (zD (zM))))) ?_
     refine zI 9 (by decide +kernel) ?_
     refine zL (I2 := [[10], [], [], []]) rfl wanted0 (by decide +kernel) (fun Kd hKd => ?_)
     refine op_apd 4 0 sl23 (fun A142 c142 => ?_)
     refine hKd _ _ _ (hC (zD (zD (zD (zM))))) (zI 11 (by decide +kernel) ?_)
     refine zL (I2 := [[], [], [], []]) rfl wanted0 (by decide +kernel) (fun Kd hKd => ?_)
     refine zF 5 (M' := [_, _, _, _, _, HA.blk _ [_, _, _, _, _] _, _, _, _]) rfl rfl rfl rfl si22 rfl rfl rfl (hKd _ _ _ (zD (zD (zD (zD (zM))))) ?_)
     refine tP 12 rfl wanted0 (zU yO rfl) (zI 13 (by decide +kernel) ?_)
     refine zL (I2 := [[], [], [], []]) rfl wanted0 (by decide +kernel) (fun Kd hKd => ?_)
     refine zF 5 (M' := [_, _, _, _, _, HA.blk _ [_, _, _, _, _] _, _, _, _]) rfl rfl rfl rfl si23 rfl rfl rfl (hKd _ _ _ (zD (zD (zD (zD (zM))))) ?_)
     refine yD (by decide +kernel) (rK 0 [89, 88, 87, 11, 2, 1] rfl rfl ?_)
     refine rO 3 rfl (yB rfl rfl (by omega) ?_)
     refine oR 3 rfl (wB 7 0 rfl rfl rfl ?_)
     rw [vN (f := fun x => (us.map srtV).getD x zV0) hld (by rw [uR hdv, List.getElem_map]), vN (f := fun x => Value.string (ks.getD x ⟨#[]⟩)) hld rfl]
     exact kQ (hK1 (i3 + 1, _, _, _, _, _) (by show i3 + 1 ≤ _; omega) (by show us.length - (i3 + 1) < us.length - i3; omega)) (eC rfl (eC rfl (eC rfl (eC rfl (eC rfl (eC rfl (eN _))))))) (hD := (subc 0 rfl sQ))
    refine zL (I2 := [[6, 1], [5, 0], []]) rfl wanted0 (by decide +kernel) (fun Kd hKd => ?_)
    refine zK sl23 rfl rfl rfl rfl rfl (fun b141 => ?_)
    refine hKd _ _ _ (vX sK sQ (hC (zD (zM)))) ?_
    refine zI 4 (by decide +kernel) ?_
    refine zL (I2 := [[6], [5], []]) rfl wanted0 (by decide +kernel) (fun Kd hKd => ?_)
    refine op_apd 3 1 sl22 (fun A137 c137 => ?_)
    refine hKd _ _ _ (vX sK sQ (hC (zD (zM)))) ?_
    refine zS (tP 10 rfl wanted0 (zU xB rfl) ?_)
    refine zI 9 (by decide +kernel) ?_
    refine zL (I2 := [[10], [], [], []]) rfl wanted0 (by decide +kernel) (fun Kd hKd => ?_)
    refine op_apd 4 0 sl23 (fun A142 c142 => ?_)
    refine hKd _ _ _ (hC (zD (zD (zD (zM))))) (zI 11 (by decide +kernel) ?_)
    refine zL (I2 := [[], [], [], []]) rfl wanted0 (by decide +kernel) (fun Kd hKd => ?_)
    refine zF 5 (M' := [_, _, _, _, _, HA.blk _ [_, _, _, _, _] _, _, _, _]) rfl rfl rfl rfl si22 rfl rfl rfl (hKd _ _ _ (zD (zD (zD (zD (zM))))) ?_)
    refine tP 12 rfl wanted0 (zU yO rfl) (zI 13 (by decide +kernel) ?_)
    refine zL (I2 := [[], [], [], []]) rfl wanted0 (by decide +kernel) (fun Kd hKd => ?_)
    refine zF 5 (M' := [_, _, _, _, _, HA.blk _ [_, _, _, _, _] _, _, _, _]) rfl rfl rfl rfl si23 rfl rfl rfl (hKd _ _ _ (zD (zD (zD (zD (zM))))) ?_)
    refine yD (by decide +kernel) (rK 0 [89, 88, 87, 11, 2, 1] rfl rfl ?_)
    refine rO 3 rfl (yB rfl rfl (by omega) ?_)
    refine oR 3 rfl (wB 7 0 rfl rfl rfl ?_)
    rw [vN (f := fun x => (us.map srtV).getD x zV0) hld (by rw [uR hdv, List.getElem_map]), vN (f := fun x => Value.string (ks.getD x ⟨#[]⟩)) hld rfl]
    exact kQ (hK1 (i3 + 1, _, _, _, _, _) (by show i3 + 1 ≤ _; omega) (by show us.length - (i3 + 1) < us.length - i3; omega)) (eC rfl (eC rfl (eC rfl (eC rfl (eC rfl (eC rfl (eN _))))))) (hD := (subc 0 rfl sQ))
   refine zL (I2 := [[6, 1], [5, 2, 0], []]) rfl wanted0 (by decide +kernel) (fun Kd hKd => ?_)
   refine zK sl23 rfl rfl rfl rfl rfl (fun b141 => ?_)
   refine hKd _ _ _ (vX sK sQ (hC (zD (zM)))) ?_
   refine zI 3 (by decide +kernel) ?_
   refine zL (I2 := [[6, 1], [5, 0], []]) rfl wanted0 (by decide +kernel) (fun Kd hKd => ?_)
   refine zK sl22 rfl rfl rfl rfl rfl (fun b136 => ?_)
   refine hKd _ _ _ (vX sK sQ (hC (zD (zM)))) ?_
   refine zI 4 (by decide +kernel) ?_
   refine zL (I2 := [[6], [5], []]) rfl wanted0 (by decide +kernel) (fun Kd hKd => ?_)
   refine op_apd 3 0 sl22 (fun A137 c137 => ?_)
   refine hKd _ _ _ (vX sK sQ (hC (zD (zM)))) ?_
   refine zS (tP 10 rfl wanted0 (zU xB rfl) ?_)
   refine zI 9 (by decide +kernel) ?_
   refine zL (I2 := [[10], [], [], []]) rfl wanted0 (by decide +kernel) (fun Kd hKd => ?_)
   refine op_apd 4 1 sl23 (fun A142 c142 => ?_)
   refine hKd _ _ _ (hC (zD (zD (zD (zM))))) (zI 11 (by decide +kernel) ?_)
   refine zL (I2 := [[], [], [], []]) rfl wanted0 (by decide +kernel) (fun Kd hKd => ?_)
   refine zF 5 (M' := [_, _, _, _, _, HA.blk _ [_, _, _, _, _] _, _, _, _]) rfl rfl rfl rfl si22 rfl rfl rfl (hKd _ _ _ (zD (zD (zD (zD (zM))))) ?_)
   refine tP 12 rfl wanted0 (zU yO rfl) (zI 13 (by decide +kernel) ?_)
   refine zL (I2 := [[], [], [], []]) rfl wanted0 (by decide +kernel) (fun Kd hKd => ?_)
   refine zF 5 (M' := [_, _, _, _, _, HA.blk _ [_, _, _, _, _] _, _, _, _]) rfl rfl rfl rfl si23 rfl rfl rfl (hKd _ _ _ (zD (zD (zD (zD (zM))))) ?_)
   refine yD (by decide +kernel) (rK 0 [89, 88, 87, 11, 2, 1] rfl rfl ?_)
   refine rO 3 rfl (yB rfl rfl (by omega) ?_)
   refine oR 3 rfl (wB 7 0 rfl rfl rfl ?_)
   rw [vN (f := fun x => (us.map srtV).getD x zV0) hld (by rw [uR hdv, List.getElem_map]), vN (f := fun x => Value.string (ks.getD x ⟨#[]⟩)) hld rfl]
   exact kQ (hK1 (i3 + 1, _, _, _, _, _) (by show i3 + 1 ≤ _; omega) (by show us.length - (i3 + 1) < us.length - i3; omega)) (eC rfl (eC rfl (eC rfl (eC rfl (eC rfl (eC rfl (eN _))))))) (hD := (subc 0 rfl sQ))
  refine oK 13 [131, 15, 14, 89, 88, 87, 11, 2, 1] rfl rfl (rR 2 rfl ?_)
  refine yT yE (zS ?_)
  refine tP 0 rfl wanted0 (zU xB rfl) (tP 2 rfl wanted0 (zW rfl) ?_)
  refine tP 5 rfl wanted0 (zU yO rfl) (any_grpG (zC 0 rfl (zC 2 rfl (yC _))) ?_)
  refine uM (zC 0 rfl (zC 2 rfl (yC _))) 1 (xC _ _ _ _) rfl wanted0 (by decide +kernel) (by decide +kernel) (by decide +kernel) rfl (yP 1 sc22 rfl rfl rfl) (uM (zC 0 rfl (zC 2 rfl (yC _))) 6 (xC _ _ _ _) rfl wanted0 (by decide +kernel) (by decide +kernel) (by decide +kernel) rfl (yP 1 sc23 rfl rfl rfl) ?_)
  refine uM (zC 0 rfl (zC 2 rfl (yC _))) 7 (xC _ _ _ _) rfl wanted0 (by decide +kernel) (by decide +kernel) (by decide +kernel) rfl (wZ 0 rfl ag25 rfl) (tH (rs := [3, 8]) (by decide +kernel) (by simp) ?_)
  intro j hj
  simp only [List.mem_cons, List.not_mem_nil, or_false] at hj
  rcases hj with rfl | rfl
  ·refine zL (I2 := [[7, 6, 1], [5, 0], []]) rfl wanted0 (by decide +kernel) (fun Kd hKd => ?_)
   refine zK sl22 rfl rfl rfl rfl rfl (fun b136 => ?_)
   refine hKd _ _ _ (vX sK sQ (hC (zD (zM)))) ?_
   refine tH (rs := [4, 8]) (by decide +kernel) (by simp) ?_
   intro j hj
   simp only [List.mem_cons, List.not_mem_nil, or_false] at hj
   rcases hj with rfl | rfl
   ·refine zL (I2 := [[7, 6], [5], []]) rfl wanted0 (by decide +kernel) (fun Kd hKd => ?_)
    refine op_apd 2 0 sl22 (fun A137 c137 => ?_)
    refine hKd _ _ _ (vX sK sQ (hC (zD (zM)))) ?_
    refine zS (tP 10 rfl wanted0 (zU xB rfl) ?_)
    refine zI 8 (by decide +kernel) ?_
    refine zL (I2 := [[10], [6], [5], []]) rfl wanted0 (by decide +kernel) (fun Kd hKd => ?_)
    refine zK sl23 rfl rfl rfl rfl rfl (fun b141 => ?_)
    refine hKd _ _ _ (hC (vX sK sQ (hC (zD (zM))))) ?_
    refine zI 9 (by decide +kernel) ?_
    refine zL (I2 := [[10], [], [], []]) rfl wanted0 (by decide +kernel) (fun Kd hKd => ?_)
    refine op_apd 4 0 sl23 (fun A142 c142 => ?_)
    refine hKd _ _ _ (hC (zD (zD (zD (zM))))) (zI 11 (by decide +kernel) ?_)
    refine zL (I2 := [[], [], [], []]) rfl wanted0 (by decide +kernel) (fun Kd hKd => ?_)
    refine zF 5 (M' := [_, _, _, _, _, HA.blk _ [_, _, _, _, _] _, _, _, _]) rfl rfl rfl rfl si22 rfl rfl rfl (hKd _ _ _ (zD (zD (zD (zD (zM))))) ?_)
    refine tP 12 rfl wanted0 (zU yO rfl) (zI 13 (by decide +kernel) ?_)
    refine zL (I2 := [[], [], [], []]) rfl wanted0 (by decide +kernel) (fun Kd hKd => ?_)
    refine zF 5 (M' := [_, _, _, _, _, HA.blk _ [_, _, _, _, _] _, _, _, _]) rfl rfl rfl rfl si23 rfl rfl rfl (hKd _ _ _ (zD (zD (zD (zD (zM))))) ?_)
    refine yD (by decide +kernel) (rK 0 [89, 88, 87, 11, 2, 1] rfl rfl ?_)
    refine rO 3 rfl (yB rfl rfl (by omega) ?_)
    refine oR 3 rfl (wB 7 0 rfl rfl rfl ?_)
    rw [vN (f := fun x => (us.map srtV).getD x zV0) hld (by rw [uR hdv, List.getElem_map]), vN (f := fun x => Value.string (ks.getD x ⟨#[]⟩)) hld rfl]
    exact kQ (hK1 (i3 + 1, _, _, _, _, _) (by show i3 + 1 ≤ _; omega) (by show us.length - (i3 + 1) < us.length - i3; omega)) (eC rfl (eC rfl (eC rfl (eC rfl (eC rfl (eC rfl (eN _))))))) (hD := (subc 0 rfl sQ))
   refine zL (I2 := [[6, 1], [5, 0], []]) rfl wanted0 (by decide +kernel) (fun Kd hKd => ?_)
   refine zK sl23 rfl rfl rfl rfl rfl (fun b141 => ?_)
   refine hKd _ _ _ (vX sK sQ (hC (zD (zM)))) ?_
   refine zI 4 (by decide +kernel) ?_
   refine zL (I2 := [[6], [5], []]) rfl wanted0 (by decide +kernel) (fun Kd hKd => ?_)
   refine op_apd 3 1 sl22 (fun A137 c137 => ?_)
   refine hKd _ _ _ (vX sK sQ (hC (zD (zM)))) ?_
   refine zS (tP 10 rfl wanted0 (zU xB rfl) ?_)
   refine zI 9 (by decide +kernel) ?_
   refine zL (I2 := [[10], [], [], []]) rfl wanted0 (by decide +kernel) (fun Kd hKd => ?_)
   refine op_apd 4 0 sl23 (fun A142 c142 => ?_)
   refine hKd _ _ _ (hC (zD (zD (zD (zM))))) (zI 11 (by decide +kernel) ?_)
   refine zL (I2 := [[], [], [], []]) rfl wanted0 (by decide +kernel) (fun Kd hKd => ?_)
   refine zF 5 (M' := [_, _, _, _, _, HA.blk _ [_, _, _, _, _] _, _, _, _]) rfl rfl rfl rfl si22 rfl rfl rfl (hKd _ _ _ (zD (zD (zD (zD (zM))))) ?_)
   refine tP 12 rfl wanted0 (zU yO rfl) (zI 13 (by decide +kernel) ?_)
   refine zL (I2 := [[], [], [], []]) rfl wanted0 (by decide +kernel) (fun Kd hKd => ?_)
   refine zF 5 (M' := [_, _, _, _, _, HA.blk _ [_, _, _, _, _] _, _, _, _]) rfl rfl rfl rfl si23 rfl rfl rfl (hKd _ _ _ (zD (zD (zD (zD (zM))))) ?_)
   refine yD (by decide +kernel) (rK 0 [89, 88, 87, 11, 2, 1] rfl rfl ?_)
   refine rO 3 rfl (yB rfl rfl (by omega) ?_)
   refine oR 3 rfl (wB 7 0 rfl rfl rfl ?_)
   rw [vN (f := fun x => (us.map srtV).getD x zV0) hld (by rw [uR hdv, List.getElem_map]), vN (f := fun x => Value.string (ks.getD x ⟨#[]⟩)) hld rfl]
   exact kQ (hK1 (i3 + 1, _, _, _, _, _) (by show i3 + 1 ≤ _; omega) (by show us.length - (i3 + 1) < us.length - i3; omega)) (eC rfl (eC rfl (eC rfl (eC rfl (eC rfl (eC rfl (eN _))))))) (hD := (subc 0 rfl sQ))
  refine zL (I2 := [[6, 1], [5, 2, 0], []]) rfl wanted0 (by decide +kernel) (fun Kd hKd => ?_)
  refine zK sl23 rfl rfl rfl rfl rfl (fun b141 => ?_)
  refine hKd _ _ _ (vX sK sQ (hC (zD (zM)))) ?_
  refine zI 3 (by decide +kernel) ?_
  refine zL (I2 := [[6, 1], [5, 0], []]) rfl wanted0 (by decide +kernel) (fun Kd hKd => ?_)
  refine zK sl22 rfl rfl rfl rfl rfl (fun b136 => ?_)
  refine hKd _ _ _ (vX sK sQ (hC (zD (zM)))) ?_
  refine zI 4 (by decide +kernel) ?_
  refine zL (I2 := [[6], [5], []]) rfl wanted0 (by decide +kernel) (fun Kd hKd => ?_)
  refine op_apd 3 0 sl22 (fun A137 c137 => ?_)
  refine hKd _ _ _ (vX sK sQ (hC (zD (zM)))) ?_
  refine zS (tP 10 rfl wanted0 (zU xB rfl) ?_)
  refine zI 9 (by decide +kernel) ?_
  refine zL (I2 := [[10], [], [], []]) rfl wanted0 (by decide +kernel) (fun Kd hKd => ?_)
  refine op_apd 4 1 sl23 (fun A142 c142 => ?_)
  refine hKd _ _ _ (hC (zD (zD (zD (zM))))) (zI 11 (by decide +kernel) ?_)
  refine zL (I2 := [[], [], [], []]) rfl wanted0 (by decide +kernel) (fun Kd hKd => ?_)
  refine zF 5 (M' := [_, _, _, _, _, HA.blk _ [_, _, _, _, _] _, _, _, _]) rfl rfl rfl rfl si22 rfl rfl rfl (hKd _ _ _ (zD (zD (zD (zD (zM))))) ?_)
  refine tP 12 rfl wanted0 (zU yO rfl) (zI 13 (by decide +kernel) ?_)
  refine zL (I2 := [[], [], [], []]) rfl wanted0 (by decide +kernel) (fun Kd hKd => ?_)
  refine zF 5 (M' := [_, _, _, _, _, HA.blk _ [_, _, _, _, _] _, _, _, _]) rfl rfl rfl rfl si23 rfl rfl rfl (hKd _ _ _ (zD (zD (zD (zD (zM))))) ?_)
  refine yD (by decide +kernel) (rK 0 [89, 88, 87, 11, 2, 1] rfl rfl ?_)
  refine rO 3 rfl (yB rfl rfl (by omega) ?_)
  refine oR 3 rfl (wB 7 0 rfl rfl rfl ?_)
  rw [vN (f := fun x => (us.map srtV).getD x zV0) hld (by rw [uR hdv, List.getElem_map]), vN (f := fun x => Value.string (ks.getD x ⟨#[]⟩)) hld rfl]
  exact kQ (hK1 (i3 + 1, _, _, _, _, _) (by show i3 + 1 ≤ _; omega) (by show us.length - (i3 + 1) < us.length - i3; omega)) (eC rfl (eC rfl (eC rfl (eC rfl (eC rfl (eC rfl (eN _))))))) (hD := (subc 0 rfl sQ))
 obtain rfl : i3 = us.length := by omega
 have het : es.take us.length = es := by rw [← hel]; exact List.take_length
 rw [het]
 refine wC 0 (es.map fun x => ks.getD x ⟨#[]⟩) rfl (by simp [foots, HA.foot]) (by rw [List.map_map]; rfl) (by intro s hs; obtain ⟨x, hx, rfl⟩ := List.mem_map.1 hs; rw [uR (places_lt hep2 _ hx)]; exact hszs _ (List.getElem_mem _)) (vS 0 1 (es.map fun x => (us.map srtV).getD x zV0) rfl rfl (by simp [foots, HA.foot]) (by rw [List.length_map, hel]) ?_)
 refine wH 1 0 rfl rfl (s := ⟨#[]⟩) (q := 5) (m := 0) (by decide) (rO 4 rfl ?_)
 refine zQ 0 rfl ag25 rfl rfl (zA ?_)
 refine zF 3 (M' := [_, _, _, HA.blk _ [_, _, _, _, _] _]) rfl rfl rfl rfl si25 rfl rfl rfl (oR 3 rfl ?_)
 have hsv : srtV (.mk 5 0 ⟨#[]⟩ ks us) = .mk 5 0 ⟨#[]⟩ (es.map fun x => ks.getD x ⟨#[]⟩) (es.map fun x => (us.map srtV).getD x zV0) := by
  rw [srtV_map (places_srt zV0 ks (us.map srtV) es (by rw [List.length_map]; exact hl) hnd hep2 hes), List.map_map, List.map_map]
  rfl
 rw [hsv]
 refine wY (M' := [HA.blk b2 [_, _, _, _, _] 25]) (by repeat (first | exact yC _ | refine zC 0 rfl ?_ | refine zC 1 rfl ?_ | refine zC 2 rfl ?_ | refine zC 3 rfl ?_ | refine zC 4 rfl ?_)) ?_
 exact wG 0 Tryz.results107 rfl rfl rfl ag25 ⟨rfl, _, rfl, KA, kc, KI, ic, by simp only [V.kind, V.num, V.text, V.keys, V.items, List.length_map, hel], rfl⟩ nS (sub1 0 rfl)
theorem c107 (fb : Addr) (u : V) : Pl (srtV u) → Eql u → C107 fb u := by
  refine V.indS (p := fun u => Pl (srtV u) → Eql u → C107 fb u) (fun u IH hp he => ?_) u
  have hk := ju_kind hp
  have hD : ∀ {b : Nat} {y : Y} {v : V}, CtR Tryz.prog 166 #[ptr b] [.node b y] (RVT v) → CtR Tryz.prog 166 #[ptr b] [.node b y, ftD fb] (RVT v) := fun h => Ct.data h (fun d hd => by rw [List.mem_singleton.1 hd]; exact List.mem_cons_self)
  intro b
  by_cases h4 : u.kind = 4
  · obtain ⟨hu, h60, hit⟩ := ju_l hp he h4
    have h1 := c107l fb b u.items h60 (fun x hx => IH x (yQ hx) (hit x hx).1 (hit x hx).2)
    rw [← outY_l, ← srtV_no (q := 4) (n := 0) (s := ⟨#[]⟩) (ks := []) (by decide), ← hu] at h1
    exact h1
  by_cases h5 : u.kind = 5
  · obtain ⟨hu, hl, h60, hnd, hkw, hit⟩ := ju_m hp he h5
    have h1 := c107m fb b u.keys u.items hl h60 hnd (fun k hk => by have := (hkw k hk).1.2; unfold maxLen; omega) (fun x hx => IH x (yQ hx) (hit x hx).1 (hit x hx).2) _ rfl
    rw [← outY_m, ← hu] at h1
    exact h1
  obtain ⟨hpu, hu⟩ := ju_scal hp h4 h5
  rw [hu]
  have hk8 : (outY u).kind = 8 := by rw [outY_kind hk.1 hk.2, if_neg h4, if_neg h5]
  refine c107s fb b _ u hk8 ?_
  have hnum := hpu.num
  rcases (by omega : u.kind = 0 ∨ u.kind = 1 ∨ u.kind = 2 ∨ u.kind = 3 ∨ u.kind = 6) with h | h | h | h | h
  · have hs := scal_of hpu (by omega) (by omega)
    obtain ⟨q, m, s, ks, ts⟩ := u
    simp only [V.kind] at h
    subst h
    simp only [V.kind, V.num, V.text, V.keys, V.items] at hs
    have e : V.mk 0 m s ks ts = .mk 0 0 ⟨#[]⟩ [] [] := by
      unfold IsScal at hs
      simp at hs
      simp [hs]
    rw [e, rU]
    exact hD (c166n b)
  · obtain ⟨hl, hn⟩ := leaf_bool hpu h
    rw [hl, outY_bool]
    rcases hn with hn | hn
    · rw [hn]; exact hD (c166f b)
    · rw [hn]; exact hD (c166t b)
  · have hl := leaf_int hpu h
    obtain ⟨a1, a2⟩ := hnum.num (by omega)
    rw [hl, outY_int]
    exact hD (c166i b _ a1 a2)
  · have hl := pX hpu h
    rw [hl, outY_text]
    exact hD (c166s b _)
  · have hl := leaf_q hpu h
    obtain ⟨a1, a2⟩ := hnum.num (by omega)
    have h0 := hpu.frac h
    rw [hl, outY_q]
    exact c166q fb b _ h0 a1 a2
end Go.Jw

namespace Go.Jw
open Go Go.RowKit Go.Proofs
set_option maxRecDepth 8000
section rules
variable {P : Program} {n : Nat} {F : List Nat} {c : Ctx F} {ops : Array Oper} {d : Nat} {T : TypeId} {l : List Oper} {k : List KI} {Q : Post} {e : Env} {M : List HA} {D : List DA}
end rules
def RTV (t : V) (u : Value) (D' : List DA) : Prop := ∃ A1 c1 A2 c2, u = .agg #[.int .i64 0, .int .i64 t.kind, .int .i64 t.num, .string t.text, .slice A1 t.keys.length c1, .slice A2 t.items.length c2] ∧ D' = [.val (.agg #[.int .i64 t.kind, .int .i64 t.num, .string t.text, .slice A1 t.keys.length c1, .slice A2 t.items.length c2]) t]
theorem c107A (fb : Addr) {u : V} (hp : Pl (srtV u)) (he : Eql u) (b : Nat) : CtR Tryz.prog 107 #[ptr b] [.node b (outY u), ftA fb] (RVT (srtV u)) := Ct.wide (c107 fb u hp he b) (fun w ok h d hd => by
 have h4 := h (ftA fb) (by simp)
 simp only [List.mem_cons, List.not_mem_nil, or_false] at hd
 rcases hd with rfl | rfl
 ·exact h _ List.mem_cons_self
 ·exact h4.2)

theorem c108 (ft : DA) (mb : Nat) (G : Gr) (v : V) (b : Nat) (hU : Unf G v b) (hC : C105 ft mb G v) : CtR Tryz.prog 108 #[ptr b] [.gr mb G, .tab, ft] (fun u D' => ∃ y, OutR v y ∧ RN y u D') := by
 refine Ct.of_run (args := [ptr b]) Tryz.func108 (by kernel_rfl) rfl Tryz.ntmps108 rfl (fun c => ?_)
 refine rO 10 rfl (zT rfl rfl rfl (hC b hU) (subc 0 rfl (sub2 1 2 rfl rfl)) (fun u4 D4 hv4 => ?_))
 obtain ⟨y4, hy4, b4, rfl, rfl⟩ := hv4
 exact oR 3 rfl (zE Tryz.results108 rfl ⟨rfl, y4, hy4, b4, rfl, rfl⟩ nS (sub1 0 rfl))
theorem c60 (fb : Addr) (mb : Nat) (G : Gr) (v : V) (b : Nat) (hU : Unf G v b) (hp : Pl v) (hs : IsShape v) : CtR Tryz.prog 60 #[ptr b] [.gr mb G, .tab, ftA fb] (RTV (wr v)) := by
 refine Ct.of_run (args := [ptr b]) Tryz.func60 (by kernel_rfl) rfl Tryz.ntmps60 rfl (fun c => ?_)
 refine rO 3 rfl (zR ze34 rfl (fun b2 => ?_))
 change RunOps _ _ _ _ _ _ _ _ (HA.blk _ [_, _, _, _, _, _] _ :: _) _
 refine oO 7 rfl (pT pn63 rfl rfl ?_)
 refine oO 8 rfl (zT rfl rfl rfl (c108 (ftA fb) mb G v b hU (c105 (ftA fb) mb G v (.inl (numW fb)) hp hs)) (subc 0 rfl (sub2 1 2 rfl rfl)) (fun u10 D10 hv10 => ?_))
 obtain ⟨y10, hy10, b10, rfl, rfl⟩ := hv10
 obtain ⟨u, rfl, hu, he⟩ := out_wr v hp hs y10 hy10
 have hpu : Pl (srtV u) := hu ▸ pl_wr hs hp
 refine zA (zT rfl rfl rfl (c107A fb hpu he b10) (sub2 0 3 rfl rfl) (fun u11 D11 hv11 => ?_))
 obtain ⟨_, rfl, A11, m11, B11, d11, rfl, rfl⟩ := hv11
 rw [hu]
 refine oO 7 rfl (zR ze25 rfl (fun b3 => ?_))
 change RunOps _ _ _ _ _ _ _ _ (HA.blk _ [_, _, _, _, _] _ :: _) _
 refine zA (zF 0 (M' := [HA.blk _ [_, _, _, _, _] _, _]) rfl rfl rfl rfl si25 rfl rfl rfl ?_)
 refine oK 3 [4, 3, 2] rfl rfl (rO 13 rfl ?_)
 refine zQ 0 rfl ag25 rfl rfl (zA ?_)
 refine yS rfl rfl (bu34_1 ..) (zA ?_)
 refine zF 1 (M' := [_, HA.blk _ [_, _, _, _, _, _] _]) rfl rfl rfl rfl si34 rfl rfl rfl (zZ ?_)
 refine wY (M' := [HA.blk b2 [_, _, _, _, _, _] 34]) (by repeat (first | exact yC _ | refine zC 0 rfl ?_ | refine zC 1 rfl ?_ | refine zC 2 rfl ?_ | refine zC 3 rfl ?_ | refine zC 4 rfl ?_)) ?_
 exact yZ 0 Tryz.results60 rfl rfl ag34 ⟨rfl, A11, m11, B11, d11, rfl, rfl⟩ nS (sub1 0 rfl)
theorem sV {D D2 : List DA} (h : ∀ d ∈ D2, d ∈ D := by first | exact sub1 0 rfl | exact sub1 1 rfl | exact sub1 2 rfl | exact sub1 3 rfl | exact sub1 4 rfl | exact sub1 5 rfl | exact sub1 6 rfl) : ∀ d ∈ D2, d ∈ D := h
theorem c27 (a b : V) (ha : Wf a) (hb : Wf b) (y : Value) (A1 A2 : Option Addr) (c1 c2 : Nat) : CtV Tryz.prog 27 #[.agg #[.int .i64 0, .int .i64 a.kind, .int .i64 a.num, .string a.text, .slice A1 a.keys.length c1, .slice A2 a.items.length c2], y] [.val (.agg #[.int .i64 a.kind, .int .i64 a.num, .string a.text, .slice A1 a.keys.length c1, .slice A2 a.items.length c2]) a, .val y b] (.bool (tb (bareV a = bareV b))) := by
 refine Ct.of_run (args := [.agg #[.int .i64 0, .int .i64 a.kind, .int .i64 a.num, .string a.text, .slice A1 a.keys.length c1, .slice A2 a.items.length c2], y]) Tryz.func27 (by kernel_rfl) rfl Tryz.ntmps27 rfl (fun c => ?_)
 refine yW 1 rfl (fun B1 m1 B2 m2 hy hsz hk1 hk2 hi1 hi2 => ?_)
 subst hy
 refine rO 3 rfl (yN rfl rfl rfl (fun b2 => ?_))
 refine zA (yN rfl rfl rfl (fun b3 => ?_))
 refine oR 4 rfl (yT yE ?_)
 refine zS (tP 0 rfl wanted0 (zU fo34_0 rfl) ?_)
 refine yA (tM 1 rfl wanted0 (yP 1 sc2 rfl rfl rfl) ?_)
 refine tM 2 rfl wanted0 (st_eql rfl rfl) (zS ?_)
 refine tP 3 rfl wanted0 (zW rfl) (any_knowT (s := 8) rfl (rfl) ?_)
 refine tP 4 rfl (wanted1 rfl rfl) (zU fo34_1 rfl) (yA ?_)
 refine tM 5 rfl (wanted1 rfl rfl) (st_loadP 1 rfl ag25 rfl rfl rfl) (tM 7 rfl (wanted1 rfl rfl) (wZ 0 rfl ag25 rfl) ?_)
 refine zI 6 (by decide +kernel) ?_
 refine zL (I2 := [[7], [], [], [], []]) rfl (wanted1 rfl rfl) (by decide +kernel) (fun Kd hKd => ?_)
 refine zT rfl rfl rfl (c26 a ha _) sV (fun u11 D11 hv11 => ?_)
 obtain ⟨A11, m11, B11, d11, rfl, rfl⟩ := hv11
 refine hKd _ _ _ (hC (zD (zD (zD (zD (zM)))))) (zI 8 (by decide +kernel) ?_)
 refine zL (I2 := [[], [], [], [], []]) rfl (wanted1 rfl rfl) (by decide +kernel) (fun Kd hKd => ?_)
 refine zT rfl rfl rfl (c26 b hb _) sV (fun u13 D13 hv13 => ?_)
 obtain ⟨A13, m13, B13, d13, rfl, rfl⟩ := hv13
 refine hKd _ _ _ (zD (zD (zD (zD (zD (zM)))))) (zI 9 (by decide +kernel) ?_)
 refine zL (I2 := [[], [], [], [], []]) rfl (wanted1 rfl rfl) (by decide +kernel) (fun Kd hKd => ?_)
 refine zN rfl rfl rfl (c25 (bareV a) (bareV b) _ _) (by first | exact sub2 0 1 rfl rfl | exact sub2 0 2 rfl rfl | exact sub2 0 3 rfl rfl | exact sub2 0 4 rfl rfl | exact sub2 1 0 rfl rfl | exact sub2 1 2 rfl rfl | exact sub2 1 3 rfl rfl | exact sub2 1 4 rfl rfl | exact sub2 2 0 rfl rfl | exact sub2 2 1 rfl rfl | exact sub2 2 3 rfl rfl | exact sub2 2 4 rfl rfl | exact sub2 3 0 rfl rfl | exact sub2 3 1 rfl rfl | exact sub2 3 2 rfl rfl | exact sub2 3 4 rfl rfl | exact sub2 4 0 rfl rfl | exact sub2 4 1 rfl rfl | exact sub2 4 2 rfl rfl | exact sub2 4 3 rfl rfl) (hKd _ _ _ (zD (zD (zD (zD (zD (zM)))))) ?_)
 refine zS (tP 10 rfl wanted0 (st_pick rfl rfl) ?_)
 refine tP 11 rfl wanted0 (xG rfl) (yD (by decide +kernel) ?_)
 refine rK 0 [4] rfl rfl ?_
 exact zE Tryz.results27 rfl ⟨rfl, rfl, rfl⟩ nS (fun _ h => by cases h)
theorem kid_in {sh : Int} {x y : V} (h : y ∈ kidsOf sh x) : y = x ∨ y ∈ x.items := by
 unfold kidsOf at h
 (repeat' split at h) <;> first | (exact .inl (List.mem_singleton.1 h)) | (exact .inr (List.mem_filter.1 h).1) | cases h
theorem pl_kid {v x y : V} {sh : Int} (hp : Pl v) (hx : x ∈ v.items) (h : y ∈ kidsOf sh x) : Pl y := (kid_in h).elim (fun e => e ▸ hp.item x hx) (fun e => (hp.item x hx).item y e)
theorem shape_schema : shapeOf kSchema = 1 := by decide +kernel
theorem norm_zip (v : V) : (normalV v).keys.zip (normalV v).items = ((v.keys.zip v.items).filter (fun p => isKw p.1)).map (fun p => (p.1, turnV (shapeOf p.1) normalV p.2)) := by
  rw [sA]
  unfold filterV
  simp only [V.keys, V.items]
  rw [List.zip_map]
  generalize (List.filter _ _) = l
  induction l with
  | nil => rfl
  | cons a l ih => simp [ih]
theorem pl_norm {v : V} (hs : IsShape v) (hp : Pl v) : Pl (normalV v) := hp.elim fun d h => ⟨d, plain_norm v hs d h⟩
theorem norm_get {v : V} (hs : IsShape v) (hp : Pl v) (key : ByteArray) : getV (normalV v) key = if isKw key = true then (getV v key).map (turnV (shapeOf key) normalV) else none := by
  have hget : ∀ y, getV (normalV v) key = some y ↔ ∃ x, getV v key = some x ∧ isKw key = true ∧ y = turnV (shapeOf key) normalV x := by
    intro y
    rw [← wQ (pl_norm hs hp) (sH v), norm_zip, List.mem_map]
    constructor
    · rintro ⟨⟨k', x⟩, hm, he⟩
      injection he with e1 e2
      subst e1; subst e2
      obtain ⟨h1, h2⟩ := List.mem_filter.1 hm
      exact ⟨x, (wQ hp hs.kind).1 h1, h2, rfl⟩
    · rintro ⟨x, h1, h2, rfl⟩
      exact ⟨(key, x), List.mem_filter.2 ⟨(wQ hp hs.kind).2 h1, h2⟩, rfl⟩
  cases h : getV (normalV v) key with
  | some y =>
    obtain ⟨x, h1, h2, rfl⟩ := (hget y).1 h
    rw [if_pos h2, h1]
    rfl
  | none =>
    split
    · rename_i hk
      cases hv : getV v key with
      | none => rfl
      | some x =>
        have := (hget _).2 ⟨x, hv, hk, rfl⟩
        rw [h] at this
        cases this
    · rfl
theorem valp_shape {w : World} {ok : Nat → Prop} {t : V} {y : Value} (h : ValP w ok t y) : ∃ A1 c1 A2 c2, y = .agg #[.int .i64 t.kind, .int .i64 t.num, .string t.text, .slice A1 t.keys.length c1, .slice A2 t.items.length c2] := by
 obtain ⟨q, r, s, ks, its⟩ := t
 simp only [ValP] at h
 obtain ⟨kv, iv, rfl, _, ⟨A1, c1, rfl, _⟩, A2, c2, rfl, _⟩ := h
 exact ⟨A1, c1, A2, c2, rfl⟩
theorem c62v (x : Value) (t : V) (key : ByteArray) (hkl : t.keys.length ≤ t.items.length) : CtR Tryz.prog 62 #[x, .string key] [.val x t] (fun u D' => ∃ y, u = .tuple #[y, .bool (getV t key).isSome] ∧ RV ((getV t key).getD zV) y D') := by
 refine ⟨(c62 x t key hkl).1, fun w ok hok hM hn hD => Calls.mono ((c62 x t key hkl).2 w ok hok hM hn hD) ?_⟩
 rintro e w' ⟨u, M', D', rfl, ⟨hM', y, rfl, rfl⟩, hchg, hm, hn', hft, hd⟩
 obtain ⟨A1, c1, A2, c2, hy⟩ := valp_shape (hd _ List.mem_cons_self)
 exact ⟨_, M', _, rfl, ⟨hM', y, rfl, A1, c1, A2, c2, hy, rfl⟩, hchg, hm, hn', hft, hd⟩
end Go.Jw

namespace Go.Jw
open Go Go.RowKit
theorem setMany_app (pre zs vs post : List Value) (h : zs.length = vs.length) : setMany (pre ++ (zs ++ post)) pre.length vs = pre ++ (vs ++ post) := by
  induction vs generalizing pre zs with
  | nil =>
    have : zs = [] := List.eq_nil_of_length_eq_zero h
    subst this
    rfl
  | cons v vs ih =>
    cases zs with
    | nil => cases h
    | cons z zs =>
      have e : (pre ++ (z :: zs ++ post)).set pre.length v = (pre ++ [v]) ++ (zs ++ post) := by simp
      have := ih (pre ++ [v]) zs (by simpa using h)
      rw [setMany, e]
      simp only [List.length_append, List.length_singleton] at this
      rw [this]
      simp
section rules
variable {P : Program} {n : Nat} {F : List Nat} {c : Ctx F} {ops : Array Oper} {d : Nat} {T : TypeId} {l : List Oper} {k : List KI} {Q : Post} {e : Env} {M : List HA} {D : List DA}
theorem st_idxRowL (i : Nat) {x y : Operand} {A : Option Addr} {m cap j : Nat} {kd : IntKind} {S E sz by_ U : Nat} {xs : List Value} (hS : SliceOf P S E sz by_) (hx : ev e x = some (.slice A m cap)) (hy : ev e y = some (.int kd (j : Nat))) (hi : M[i]? = some (.row A m cap U sz xs)) (hj : j < m) :
  St P n c (.indexAddr S x y) T e M D (.pointer (some (At A (j * sz)))) := by
 intro d a w hf
 have hrow := hf.toFitsW.mem hi
 rcases hrow.2 with ⟨_, h⟩ | ⟨g, cap', cur, hv, _⟩
 ·omega
 ·injection hv with h4
  subst h4
  exact uF (T := T) hS hx hy hj d a w hf
theorem qV (i : Nat) {x y : Operand} {A : Option Addr} {m cap E sz S : Nat} {pre zs vs : List Value} {v : Value} (hx : ev e x = some (.pointer (some (At A (m * sz))))) (hy : ev e y = some v) (hi : M[i]? = some (.row A (m + 1) cap E sz (pre ++ zs))) (hz : zs.length = sz) (hvs : vs.length = sz) (hv : v.cells = vs.toArray)
  (hs : ∃ i, P.info? S = some i ∧ i.size = sz) (h1 : vs.all (·.oneCell') = true) (next : RunOps P n c ops l k Q e (M.set i (.row A (m + 1) cap E sz (pre ++ vs))) D) : RunOp P n c ops none (.store S x y) T l k Q e M D := by
 intro a w hf
 have hrow := hf.toFitsW.mem hi
 have hpl : pre.length = m * sz := by
  have := hrow.1
  rw [List.length_append, hz, Nat.succ_mul] at this
  omega
 rcases hrow.2 with ⟨_, h⟩ | ⟨g, cap', cur, hv', hg, hc, hnc, hm, hsz, ht⟩
 ·omega
 ·injection hv' with hA _ hcap
  subst hA; subst hcap
  have hcur : cur.toList = pre ++ (zs ++ cur.toList.drop ((m + 1) * sz)) := by
   rw [← List.append_assoc, ← ht, List.take_append_drop]
  have hcs : w.heap[g]? = some (.cells cur.toList.toArray E (0, 0)) := by rw [Array.toArray_toList]; exact hc
  obtain ⟨w', hr, hh, hcg⟩ := run_storeAt_blk (P := P) (T' := S) (v := v) (o := pre.length) hcs hv (by rw [hvs]; exact hs) (by rw [hcur]; simp; omega) (fun u hu => (List.all_eq_true.1 h1) u hu)
  have hadr : At (some ⟨g, 0, none⟩) (m * sz) = ⟨g, pre.length, none⟩ := by
   show (⟨g, 0, none⟩ : Addr).add (m * sz) = _
   rw [wX, Nat.zero_add, hpl]
  unfold Oper.wp
  have : (execOp a.eval (opr none (.store S x y) T)).run P w = .ok .skip w' := by simp [execOp, opr, hf.ev hx, hf.ev hy, hadr, hr]
  rw [this]
  refine next _ _ (hf.world (hf.toFitsW.swapAt hi (x' := .row (some ⟨g, 0, none⟩) (m + 1) cap E sz (pre ++ vs)) ?_ (by simpa [HA.foot] using hcg) (by simp [HA.foot]) (fun q hq => .inl hq)))
  refine ⟨by rw [List.length_append, hpl, hvs, Nat.succ_mul], .inr ⟨g, cap, _, rfl, Nat.zero_le _, hh, hnc, hm, ?_, ?_⟩⟩
  ·rw [List.size_toArray, setMany_length]; simpa using hsz
  ·have e : setMany cur.toList pre.length vs = pre ++ (vs ++ cur.toList.drop ((m + 1) * sz)) := by
    conv => lhs; rw [hcur]
    exact setMany_app _ _ _ _ (by omega)
   rw [e]
   show List.take ((m + 1) * sz) (pre ++ (vs ++ _)) = _
   rw [← List.append_assoc]
   exact List.take_left' (by rw [List.length_append, hpl, hvs, Nat.succ_mul])
theorem qW (i j : Nat) {x y : Operand} {A : Option Addr} {m cap : Nat} {S E sz by_ : Nat} {xs vs : List Value} {b : Nat} {U : TypeId} (hS : SliceOf P S E sz by_) (hd : Nat.blt d n = true) (hx : ev e x = some (.slice A m cap)) (hy : ev e y = some (.slice (some ⟨b, 0, none⟩) 1 1)) (hi : M[i]? = some (.row A m cap E sz xs))
  (hj : M[j]? = some (.blk b vs U)) (hl : vs.length = sz) (h1 : vs.all (·.oneCell') = true) (hsz : m + 1 ≤ maxLen) (hby : (m + 1) * by_ ≤ 140737488355328) (hA : ∀ a, A = some a → c.w0.heap.size ≤ a.block)
  (next : ∀ A' cap', (∀ a, A' = some a → c.w0.heap.size ≤ a.block) → RunOps P n c ops l k Q ((d, .slice A' (m + 1) cap') :: e) (M.set i (.row A' (m + 1) cap' E sz (xs ++ vs))) D) :
  RunOp P n c ops (some d) (.call { callee := .builtin .append, args := #[x, y], argTypes := #[S, S] }) T l k Q e M D :=
 op_appendF i hS hd hx hy hi (by omega) (fun w h => .inr ⟨_, rfl, fun q u hq => by rw [wX]; exact cellM h hj (by rw [Nat.zero_add]; exact hq)⟩) (fun u hu => List.all_eq_true.1 h1 u hu) hsz hby (fun A' cap' h => next A' cap' (h hA))
theorem run_freezeF (i : Nat) {h : HA} (D' : List DA) (hfr : ∀ b ∈ h.foot, c.w0.heap.size ≤ b) (hi : M[i]? = some h) (hd : ∀ (w : World) (ok : Nat → Prop), h.holds w → (∀ b ∈ h.foot, ok b) → (∀ d ∈ D, d.p w ok) → ∀ d ∈ D', d.p w ok)
  (next : Run P n c k Q e (M.eraseIdx i) (D' ++ D)) : Run P n c k Q e M D :=
 run_freeze D' (fun b hb hbF => absurd (c.hF b hbF) (by have := hfr b hb; omega)) (vH hi) hd next
theorem run_frValsF (i j : Nat) {A : Option Addr} {m cap E : Nat} {xs : List Value} (ts : List V) (hA : ∀ a, A = some a → c.w0.heap.size ≤ a.block) (hi : M[i]? = some (.row A m cap E 5 xs)) (hj : D[j]? = some (.its xs ts)) (hm : m = ts.length) (next : Run P n c k Q e (M.eraseIdx i) (.vals (.slice A m cap) ts :: D)) : Run P n c k Q e M D :=
  run_freezeF i [.vals (.slice A m cap) ts] (fun b hb => by
    cases A with
    | none => cases hb
    | some a => rw [List.mem_singleton.1 hb]; exact hA a rfl) hi (fun w ok h hok hD d hd => by
    rcases List.mem_singleton.1 hd with rfl
    exact vals_of_row h hok (hD _ (List.mem_of_getElem? hj)) hm) next
theorem op_callE {fo : Operand} {ags : Array Operand} {ts : Array TypeId} {f : FuncId} {cap : Array Value} {vs : List Value} {pre M1 : List HA} {D1 : List DA} {R : Value → List HA → List DA → Prop} (hd : Nat.blt d n = true) (hfo : ev e fo = some (.func (.func f) #[] cap)) (has : ags.toList.mapM (ev e) = some vs)
  (hct : Ct P f (vs.toArray ++ cap) M1 D1 R) (hM : M = pre ++ M1) (hD : ∀ d ∈ D1, d ∈ D)
  (next : ∀ v M' D', R v M' D' → RunOps P n c ops l k Q ((d, v) :: e) (pre ++ M') (D' ++ D)) : RunOp P n c ops (some d) (.call { callee := .value fo, args := ags, argTypes := ts }) T l k Q e M D := by
 subst hM
 refine fun a w hf => vP (M1 := M1) (M2 := pre) hd hfo has hct rfl hD (fun v M' D' hR a' w' hf' => next v M' D' hR a' w' (hf'.world (hf'.toFitsW.perm List.perm_append_comm))) a w (hf.world (hf.toFitsW.perm List.perm_append_comm))
end rules
end Go.Jw

namespace Go.Jw
open Go Go.RowKit Go.Proofs
def HE (M N : List HA) : Prop := (∀ w : World, (∀ h ∈ M, h.holds w) ↔ ∀ h ∈ N, h.holds w) ∧ (foots M).Perm (foots N)
theorem HE.refl (M : List HA) : HE M M := ⟨fun _ => Iff.rfl, .refl _⟩
theorem HE.symm {M N : List HA} (h : HE M N) : HE N M := ⟨fun w => (h.1 w).symm, h.2.symm⟩
theorem HE.trans {M N L : List HA} (h : HE M N) (k : HE N L) : HE M L := ⟨fun w => (h.1 w).trans (k.1 w), h.2.trans k.2⟩
theorem HE.perm {M N : List HA} (h : M.Perm N) : HE M N := ⟨fun w => ⟨fun a x hx => a x (h.mem_iff.2 hx), fun a x hx => a x (h.mem_iff.1 hx)⟩, foots_perm h⟩
theorem HE.append {M N M' N' : List HA} (h : HE M N) (k : HE M' N') : HE (M ++ M') (N ++ N') := by
 refine ⟨fun w => ?_, by rw [yI, yI]; exact h.2.append k.2⟩
 have e : ∀ A B : List HA, (∀ x ∈ A ++ B, x.holds w) ↔ (∀ x ∈ A, x.holds w) ∧ ∀ x ∈ B, x.holds w := fun A B =>
  ⟨fun a => ⟨fun x hx => a x (List.mem_append_left _ hx), fun x hx => a x (List.mem_append_right _ hx)⟩, fun a x hx => (List.mem_append.1 hx).elim (a.1 x) (a.2 x)⟩
 rw [e, e, h.1 w, k.1 w]
theorem FitsW.he {F : List Nat} {c : Ctx F} {M N : List HA} {D : List DA} {w : World} (h : FitsW c M D w) (he : HE M N) : FitsW c N D w :=
 ⟨h.chg, (he.1 w).1 h.own, he.2.nodup_iff.1 h.nodup, fun b hb => h.foot b (he.2.mem_iff.2 hb), fun d hd =>
  d.mono (fun k hk => ⟨hk.1, hk.2.1, fun h' => hk.2.2 (he.2.mem_iff.2 h')⟩) (fun _ _ => rfl) (h.dat d hd)⟩
theorem Ct.he {P : Program} {f : FuncId} {args : Array Value} {M N : List HA} {D : List DA} {R : Value → List HA → List DA → Prop} (h : Ct P f args N D R) (he : HE M N) : Ct P f args M D R := by
 refine ⟨h.1, fun w ok hok hM hn hD => ?_⟩
 refine Calls.mono (h.2 w ok (fun k hk => ⟨(hok k hk).1, fun h' => (hok k hk).2 (he.2.mem_iff.2 h')⟩) ((he.1 w).1 hM) (he.2.nodup_iff.1 hn) hD) ?_
 rintro e w' ⟨v, M', D', rfl, hR, hchg, hm, hnd, hft, hdat⟩
 exact ⟨v, M', D', rfl, hR, hchg.mono (fun k _ hk => he.2.mem_iff.2 hk), hm, hnd, fun b hb => (hft b hb).imp (fun h => he.2.mem_iff.2 h) id, hdat⟩
theorem Ct.turn {P : Program} {f : FuncId} {args : Array Value} {M : List HA} {D : List DA} {R R' : Value → List HA → List DA → Prop} (h : Ct P f args M D R)
  (hr : (foots M).Nodup → ∀ u M' D', (foots M').Nodup → R u M' D' → ∃ N' E', HE M' N' ∧ (∀ (w : World) (ok : Nat → Prop), (∀ d ∈ D', d.p w ok) → (∀ d ∈ D, d.p w ok) → ∀ d ∈ E', d.p w ok) ∧ R' u N' E') : Ct P f args M D R' := by
 refine ⟨h.1, fun w ok hok hM hn hD => Calls.mono (h.2 w ok hok hM hn hD) ?_⟩
 rintro e w' ⟨v, M', D', rfl, hR, hchg, hm, hnd, hft, hdat⟩
 obtain ⟨N', E', he, hE, hR'⟩ := hr hn v M' D' hnd hR
 refine ⟨v, N', E', rfl, hR', hchg, (he.1 w').1 hm, he.2.nodup_iff.1 hnd, fun b hb => hft b (he.2.mem_iff.2 hb), hE _ _ (fun d hd => ?_) (fun d hd => ?_)⟩
 ·exact d.mono (fun k hk => ⟨hk.1, hk.2.1, fun h' => hk.2.2 (he.2.mem_iff.2 h')⟩) (fun _ _ => rfl) (hdat d hd)
 ·refine d.mono (fun k hk => ⟨.inl hk, Nat.lt_of_lt_of_le (hok k hk).1 hchg.size, fun h' => ?_⟩) (fun k hk => hchg.block k (hok k hk).1 (hok k hk).2) (hD d hd)
  rcases hft k (he.2.mem_iff.2 h') with h1 | h1
  ·exact (hok k hk).2 h1
  ·exact absurd (hok k hk).1 (by omega)
theorem Ct.draw {P : Program} {f : FuncId} {args : Array Value} {M : List HA} {D E : List DA} {R : Value → List HA → List DA → Prop} (hE : ∀ (w : World) (ok : Nat → Prop), (∀ d ∈ D, d.p w ok) → ∀ d ∈ E, d.p w ok) (h : Ct P f args M E R) : Ct P f args M D R :=
 ⟨h.1, fun w ok hok hM hn hD => h.2 w ok hok hM hn (hE w ok hD)⟩


abbrev Sig := Nat → Option Flds
def upd (σ : Sig) (b : Nat) (o : Option Flds) : Sig := fun d => if d = b then o else σ d
theorem uC (σ : Sig) (b : Nat) (o : Option Flds) : upd σ b o b = o := if_pos rfl
theorem tN {σ : Sig} {b d : Nat} (h : d ≠ b) (o : Option Flds) : upd σ b o d = σ d := if_neg h
theorem upd_upd (σ : Sig) (b : Nat) (o o' : Option Flds) : upd (upd σ b o) b o' = upd σ b o' := by
 funext d
 by_cases h : d = b
 ·rw [h, uC, uC]
 ·rw [tN h, tN h, tN h]
theorem upd_same {σ : Sig} {b : Nat} {o : Option Flds} (h : σ b = o) : upd σ b o = σ := by
 funext x
 by_cases h1 : x = b
 ·rw [h1, uC, h]
 ·rw [tN h1]
def GOk (G : Gr) (σ : Sig) : Prop := (G.map (·.1)).Nodup ∧ ∀ b f, G.at b f ↔ σ b = some f
theorem GOk.ex {G : Gr} (h : (G.map (·.1)).Nodup) : ∃ σ, GOk G σ := by
  induction G with
  | nil => exact ⟨fun _ => none, h, fun b f => ⟨(fun ⟨cs, hm⟩ => absurd hm (by simp)), (fun h => by cases h)⟩⟩
  | cons g G ih =>
    rw [List.map_cons, List.nodup_cons] at h
    obtain ⟨σ, h1, h2⟩ := ih h.2
    refine ⟨upd σ g.1 (some g.2.2), by rw [List.map_cons, List.nodup_cons]; exact h, fun b f => ?_⟩
    by_cases hb : b = g.1
    · subst hb
      rw [uC]
      constructor
      · rintro ⟨cs, hm⟩
        rcases List.mem_cons.1 hm with e | e
        · rw [← e]
        · exact absurd (List.mem_map.2 ⟨_, e, rfl⟩) h.1
      · intro e
        injection e with e
        exact ⟨g.2.1, by rw [← e]; exact List.mem_cons_self⟩
    · rw [tN hb, ← h2]
      constructor
      · rintro ⟨cs, hm⟩
        rcases List.mem_cons.1 hm with e | e
        · exact absurd (congrArg Prod.fst e) hb
        · exact ⟨cs, e⟩
      · rintro ⟨cs, hm⟩
        exact ⟨cs, List.mem_cons_of_mem _ hm⟩
theorem GOk.perm {G G' : Gr} {σ : Sig} (h : GOk G σ) (hp : G.Perm G') : GOk G' σ :=
 ⟨(hp.map _).nodup_iff.1 h.1, fun b f => by rw [← h.2]; exact ⟨fun ⟨cs, hm⟩ => ⟨cs, hp.mem_iff.2 hm⟩, fun ⟨cs, hm⟩ => ⟨cs, hp.mem_iff.1 hm⟩⟩⟩
theorem GOk.tail {g : Nat × List Value × Flds} {R : Gr} {σ : Sig} (h : GOk (g :: R) σ) : GOk R (upd σ g.1 none) := by
 have hn := h.1
 rw [List.map_cons, List.nodup_cons] at hn
 refine ⟨hn.2, fun b f => ?_⟩
 by_cases hb : b = g.1
 ·subst hb
  rw [uC]
  exact ⟨fun ⟨cs, hm⟩ => absurd (List.mem_map.2 ⟨_, hm, rfl⟩) hn.1, fun e => by cases e⟩
 ·rw [tN hb, ← h.2]
  constructor
  ·rintro ⟨cs, hm⟩; exact ⟨cs, List.mem_cons_of_mem _ hm⟩
  ·rintro ⟨cs, hm⟩
   rcases List.mem_cons.1 hm with e | e
   ·exact absurd (congrArg Prod.fst e) hb
   ·exact ⟨cs, e⟩
theorem GOk.join {R : Gr} {σ : Sig} {b : Nat} (h : GOk R (upd σ b none)) (cs : List Value) (f : Flds) : GOk ((b, cs, f) :: R) (upd σ b (some f)) := by
 have hno : ∀ cs f, (b, cs, f) ∉ R := fun cs f hm => by
  have := (h.2 b f).1 ⟨cs, hm⟩
  rw [uC] at this
  cases this
 refine ⟨?_, fun d f' => ?_⟩
 ·rw [List.map_cons, List.nodup_cons]
  refine ⟨fun hm => ?_, h.1⟩
  obtain ⟨⟨b', cs', f'⟩, h1, h2⟩ := List.mem_map.1 hm
  exact hno cs' f' (by rw [show b = b' from h2.symm]; exact h1)
 ·by_cases hb : d = b
  ·subst hb
   rw [uC]
   constructor
   ·rintro ⟨cs', hm⟩
    rcases List.mem_cons.1 hm with e | e
    ·injection e with _ e; injection e with _ e; rw [e]
    ·exact absurd e (hno _ _)
   ·intro e; injection e with e; exact ⟨cs, by rw [e]; exact List.mem_cons_self⟩
  ·rw [tN hb]
   have := h.2 d f'
   rw [tN hb] at this
   rw [← this]
   constructor
   ·rintro ⟨cs', hm⟩
    rcases List.mem_cons.1 hm with e | e
    ·exact absurd (congrArg Prod.fst e) hb
    ·exact ⟨cs', e⟩
   ·rintro ⟨cs', hm⟩; exact ⟨cs', List.mem_cons_of_mem _ hm⟩
theorem GOk.split {G : Gr} {σ : Sig} {b : Nat} {f : Flds} (h : GOk G σ) (hb : σ b = some f) : ∃ cs R, G.Perm ((b, cs, f) :: R) ∧ GOk R (upd σ b none) := by
 obtain ⟨cs, hm⟩ := (h.2 b f).2 hb
 obtain ⟨s, t, rfl⟩ := List.append_of_mem hm
 have hp : (s ++ (b, cs, f) :: t).Perm ((b, cs, f) :: (s ++ t)) := List.perm_middle
 exact ⟨cs, s ++ t, hp, (h.perm hp).tail⟩
theorem blks_perm {G G' : Gr} (h : G.Perm G') : (Gr.blks G).Perm (Gr.blks G') := h.map _
theorem he_manyP {U : TypeId} {gs gs' : List (Nat × List Value)} (h : gs.Perm gs') : HE [.many U gs] [.many U gs'] :=
 ⟨fun w => by
  constructor <;> intro a x hx <;> rcases List.mem_singleton.1 hx with rfl <;> intro g hg
  ·exact (a _ List.mem_cons_self : (HA.many U gs).holds w) g (h.mem_iff.2 hg)
  ·exact (a _ List.mem_cons_self : (HA.many U gs').holds w) g (h.mem_iff.1 hg), by simpa [foots, HA.foot] using h.map _⟩
theorem he_many1 (U : TypeId) (b : Nat) (cs : List Value) (gs : List (Nat × List Value)) : HE [.many U ((b, cs) :: gs)] [.blk b cs U, .many U gs] :=
 ⟨fun w => by
  constructor
  ·intro a x hx
   have h1 : (HA.many U ((b, cs) :: gs)).holds w := a _ List.mem_cons_self
   simp only [List.mem_cons, List.not_mem_nil, or_false] at hx
   rcases hx with rfl | rfl
   ·exact h1 (b, cs) List.mem_cons_self
   ·exact fun g hg => h1 g (List.mem_cons_of_mem _ hg)
  ·intro a x hx
   rcases List.mem_singleton.1 hx with rfl
   intro g hg
   rcases List.mem_cons.1 hg with rfl | hg
   ·exact (a _ List.mem_cons_self : (HA.blk b cs U).holds w)
   ·exact (a _ (List.mem_cons_of_mem _ List.mem_cons_self) : (HA.many U gs).holds w) g hg, by simp [foots, HA.foot]⟩
theorem he_split {G R : Gr} {b : Nat} {cs : List Value} {f : Flds} (h : G.Perm ((b, cs, f) :: R)) : HE [.many 124 (Gr.blks G)] [.blk b cs 124, .many 124 (Gr.blks R)] :=
 (he_manyP (blks_perm h)).trans (he_many1 124 b cs (Gr.blks R))
theorem many_nodup {U : TypeId} {gs : List (Nat × List Value)} {M : List HA} (h : (foots (.many U gs :: M)).Nodup) : (gs.map (·.1)).Nodup := (List.nodup_append.1 h).1
theorem graph_nodup {G : Gr} {M : List HA} (h : (foots (.many 124 (Gr.blks G) :: M)).Nodup) : (G.map (·.1)).Nodup := by
 have := many_nodup h
 rw [Gr.blks, List.map_map] at this
 exact this
def Flds.put (f : Flds) (i : Nat) (o : Option FVal) : Flds := fun j => if j = i then o else f j
section rules
variable {P : Program} {n : Nat} {F : List Nat} {c : Ctx F} {ops : Array Oper} {d : Nat} {T : TypeId} {l : List Oper} {k : List KI} {Q : Post} {e : Env} {M : List HA} {D : List DA}
theorem run_he {N : List HA} (he : HE M N) (next : Run P n c k Q e N D) : Run P n c k Q e M D := fun a w hf => next a w (hf.world (hf.toFitsW.he he))
theorem ops_he {N : List HA} (he : HE M N) (next : RunOps P n c ops l k Q e N D) : RunOps P n c ops l k Q e M D := fun a w hf => next a w (hf.world (hf.toFitsW.he he))
theorem run_nd (next : (foots M).Nodup → Run P n c k Q e M D) : Run P n c k Q e M D := fun a w hf => next hf.toFitsW.nodup a w hf
theorem cellsP_get {w : World} {ok : Nat → Prop} {mb : Nat} {cs : List Value} {f : Flds} (h : CellsP w ok mb cs f) {i : Nat} (h1 : 1 ≤ i) (h2 : i ≤ 36) : ∃ p : Option Addr, cs[i]? = some (.pointer p) ∧ p.isSome = (f i).isSome ∧ ∀ fv, f i = some fv → FvP w ok fv (.pointer p) := by
  obtain ⟨u, hu, hm⟩ := h.2.2 i h1 h2
  cases hf : f i with
  | none =>
    rw [hf] at hm
    exact ⟨none, by rw [hu]; exact congrArg some hm, rfl, fun fv h => by cases h⟩
  | some fv =>
    rw [hf] at hm
    have : ∃ p : Addr, u = .pointer (some p) := by
      cases fv with
      | text s => obtain ⟨p, a, b⟩ := hm; exact ⟨_, a⟩
      | bool x => obtain ⟨p, a, b⟩ := hm; exact ⟨_, a⟩
      | int n => obtain ⟨p, a, b⟩ := hm; exact ⟨_, a⟩
      | numI n => obtain ⟨b, p, a, c⟩ := hm; exact ⟨_, a⟩
      | numF n => obtain ⟨b, p, a, c⟩ := hm; exact ⟨_, a⟩
      | sbS c => obtain ⟨b, a, d⟩ := hm; exact ⟨_, a⟩
      | sbB x => obtain ⟨b, p, a, c⟩ := hm; exact ⟨_, a⟩
      | itS c => obtain ⟨b, a, d⟩ := hm; exact ⟨_, a⟩
      | itL bs => obtain ⟨b, p, sl, a, c⟩ := hm; exact ⟨_, a⟩
      | texts l => obtain ⟨p, sl, a, d⟩ := hm; exact ⟨_, a⟩
      | named l => obtain ⟨p, sl, nbs, a, d⟩ := hm; exact ⟨_, a⟩
      | deps l => obtain ⟨p, sl, nbs, a, d⟩ := hm; exact ⟨_, a⟩
      | enums l => obtain ⟨p, A, c, a, d⟩ := hm; exact ⟨_, a⟩
      | tyS s => obtain ⟨b, p, a, c⟩ := hm; exact ⟨_, a⟩
      | tyL l => obtain ⟨b, p, sl, a, c⟩ := hm; exact ⟨_, a⟩
      | list bs => obtain ⟨p, sl, a, d⟩ := hm; exact ⟨_, a⟩
      | one c => exact ⟨_, hm⟩
      | any => obtain ⟨p, a⟩ := hm; exact ⟨_, a⟩
    obtain ⟨p, rfl⟩ := this
    exact ⟨some p, hu, rfl, fun fv' h => by injection h with h; subst h; exact hm⟩
theorem cellsP_put {w : World} {ok : Nat → Prop} {mb : Nat} {cs : List Value} {f : Flds} (h : CellsP w ok mb cs f) {i : Nat} (h1 : 1 ≤ i) {p : Option Addr} {o : Option FVal} (hp : p.isSome = o.isSome) (ho : ∀ fv, o = some fv → FvP w ok fv (.pointer p)) : CellsP w ok mb (cs.set i (.pointer p)) (f.put i o) := by
  refine ⟨by simp [h.1], by rw [List.getElem?_set_ne (by omega)]; exact h.2.1, fun q hq hq2 => ?_⟩
  by_cases hoq : q = i
  · subst hoq
    refine ⟨.pointer p, by rw [List.getElem?_set_self (by rw [h.1]; omega)], ?_⟩
    simp only [Flds.put, if_true]
    cases o with
    | none => cases p with
      | none => rfl
      | some a => cases hp
    | some fv => exact ho fv rfl
  · obtain ⟨u', hu', hm⟩ := h.2.2 q hq hq2
    exact ⟨u', by rw [List.getElem?_set_ne (by omega)]; exact hu', by simp only [Flds.put, if_neg hoq]; exact hm⟩
end rules
end Go.Jw

namespace Go.Jw
open Go Go.RowKit
def stepF (q : Nat) (f s : Flds) : Flds := fun i => if i = q then (s i).or (f i) else f i
theorem steps_eq (l : List Nat) (hn : l.Nodup) (f s : Flds) : l.foldl (fun g q => stepF q g s) f = fun i => if i ∈ l then (s i).or (f i) else f i := by
  induction l generalizing f with
  | nil => funext i; simp
  | cons q l ih =>
    rw [List.nodup_cons] at hn
    rw [List.foldl_cons, ih hn.2]
    funext i
    by_cases hi : i ∈ l
    · have hq : i ≠ q := fun e => hn.1 (e ▸ hi)
      simp [hi, stepF, hq]
    · by_cases hq : i = q
      · subst hq; simp [hi, stepF]
      · simp [hi, stepF, hq]
section rules
variable {P : Program} {n : Nat} {F : List Nat} {c : Ctx F} {ops : Array Oper} {d : Nat} {T : TypeId} {l : List Oper} {k : List KI} {Q : Post} {e : Env} {M : List HA} {D : List DA}
theorem look_self (t : Nat) (v : Value) (e : Env) : look ((t, v) :: e) t = some v := by rw [vE, if_pos rfl]
theorem look_ne {t s : Nat} (v : Value) (e : Env) (h : s ≠ t) : look ((s, v) :: e) t = look e t := by rw [vE, if_neg h]
theorem blt_of {a n : Nat} (h : a < n) : Nat.blt a n = true := by simpa using h
theorem yY {b s mb mb2 : Nat} {cs cs2 : List Value} {f f2 : Flds} (a q T : Nat) (ha : 2 ≤ a) (hn : a + 11 < n) (h1 : 1 ≤ q) (h2 : q ≤ 36) (hT : Scalar P T) (hfo : FieldOff P 124 q q) (hpn : P.underlying T = some (.pointer (P.pointee T))) (hsi : ∃ i, P.info? T = some i ∧ i.size = 1)
    {i1 i2 : Nat} {A1 A2 A3 A4 A5 B1 B2 B3 B4 B5 B6 B7 B8 C1 : TypeId} {p1 p2 p3 p4 p5 q1 q2 q3 q4 q5 q6 q7 q8 : String} {e1 e2 e3 e4 e5 g1 g2 g3 g4 g5 g6 g7 g8 : Array Edge}
    (next : ∀ cs', Run P n c k Q [(0, ptr b), (1, ptr s)] [.blk b cs' 124, .blk s cs2 124] [.flds mb cs' (stepF q f f2), .flds mb2 cs2 f2]) :
    Run P n c (.code (.seq (.region i1 #[⟨some a, .move (.tmp 1), A1, p1, e1, none⟩, ⟨some (a + 1), .nilCheck (.tmp a), A2, p2, e2, none⟩, ⟨some (a + 2), .fieldAddr 124 (.tmp (a + 1)) q, A3, p3, e3, none⟩, ⟨some (a + 3), .load T (.tmp (a + 2)), A4, p4, e4, none⟩, ⟨some (a + 4), .binOp .neq T (.tmp (a + 3)) (.const (.pointer none)) C1, A5, p5, e5, none⟩] false)
      (.cond (.tmp (a + 4)) (.region i2 #[⟨some (a + 5), .move (.tmp 0), B1, q1, g1, none⟩, ⟨some (a + 6), .move (.tmp 1), B2, q2, g2, none⟩, ⟨some (a + 7), .nilCheck (.tmp (a + 6)), B3, q3, g3, none⟩, ⟨some (a + 8), .fieldAddr 124 (.tmp (a + 7)) q, B4, q4, g4, none⟩, ⟨some (a + 9), .load T (.tmp (a + 8)), B5, q5, g5, none⟩, ⟨some (a + 10), .nilCheck (.tmp (a + 5)), B6, q6, g6, none⟩, ⟨some (a + 11), .fieldAddr 124 (.tmp (a + 10)) q, B7, q7, g7, none⟩, ⟨none, .store T (.tmp (a + 11)) (.tmp (a + 9)), B8, q8, g8, none⟩] false) .skip)) :: k)
      Q [(0, ptr b), (1, ptr s)] [.blk b cs 124, .blk s cs2 124] [.flds mb cs f, .flds mb2 cs2 f2] := by
  have ev1 : ∀ (t : Nat) (v : Value) (e : Env), ev ((t, v) :: e) (.tmp t) = some v := fun t v e => look_self t v e
  have evn : ∀ (t s : Nat) (v : Value) (e : Env), s ≠ t → ev ((s, v) :: e) (.tmp t) = ev e (.tmp t) := fun t s v e h => look_ne v e h
  have hbl : ∀ j, j ≤ 11 → Nat.blt (a + j) n = true := fun j hj => blt_of (by omega)
  refine uW (p := cs.length = 37) (fun w ok h => (h (.flds mb cs f) (by simp)).1) (fun hcl => ?_)
  refine uW (p := ∃ p : Option Addr, cs2[q]? = some (.pointer p) ∧ p.isSome = (f2 q).isSome) (fun w ok h => ?_) (fun ⟨p, hcp, hps⟩ => ?_)
  · obtain ⟨p, a1, a2, _⟩ := cellsP_get (h (.flds mb2 cs2 f2) (by simp)) h1 h2
    exact ⟨p, a1, a2⟩
  refine xA (run_region (zA ?_))
  refine op_move (hbl 0 (by omega)) (v := ptr s) (by rw [evn 1 0 _ _ (by decide)]; exact ev1 1 _ _) (zA ?_)
  refine qO (hbl 1 (by omega)) (ev1 _ _ _) (zA ?_)
  refine zB hfo (hbl 2 (by omega)) (ev1 _ _ _) (zA ?_)
  refine tU 1 hT (hbl 3 (by omega)) (ev1 _ _ _) rfl (by rw [Nat.zero_add]; exact hcp) (zA ?_)
  refine yL hpn (hbl 4 (by omega)) (ev1 _ _ _) (zZ ?_)
  refine yF (ev1 _ _ _) (fun hb => ?_) (fun hb => ?_)
  · refine run_region (zA ?_)
    refine op_move (hbl 5 (by omega)) (v := ptr b) (by (repeat rw [evn 0 _ _ _ (by omega)]); exact ev1 0 _ _) (zA ?_)
    refine op_move (hbl 6 (by omega)) (v := ptr s) (by (repeat rw [evn 1 _ _ _ (by omega)]); exact ev1 1 _ _) (zA ?_)
    refine qO (hbl 7 (by omega)) (ev1 _ _ _) (zA ?_)
    refine zB hfo (hbl 8 (by omega)) (ev1 _ _ _) (zA ?_)
    refine tU 1 hT (hbl 9 (by omega)) (ev1 _ _ _) rfl (by rw [Nat.zero_add]; exact hcp) (zA ?_)
    refine qO (p := ⟨b, 0, none⟩) (hbl 10 (by omega)) (by (repeat rw [evn (a + 5) _ _ _ (by omega)]); exact ev1 _ _ _) (zA ?_)
    refine zB hfo (hbl 11 (by omega)) (ev1 _ _ _) (zA ?_)
    rw [Nat.zero_add]
    refine pR 0 (v := .pointer p) (ev1 _ _ _) (by (repeat rw [evn (a + 9) _ _ _ (by omega)]); exact ev1 _ _ _) rfl rfl rfl hsi (by omega) (zZ ?_)
    refine run_env (e' := [(0, ptr b), (1, ptr s)]) (eC (by (repeat rw [look_ne _ _ (by omega)]); exact look_self _ _ _) (eC (by (repeat rw [look_ne _ _ (by omega)]); exact look_self _ _ _) (eN _))) ?_
    refine uI (fun w ok h x hx => ?_) (next (cs.set q (.pointer p)))
    have hf1 : CellsP w ok mb cs f := h (.flds mb cs f) (by simp)
    have hf2 : CellsP w ok mb2 cs2 f2 := h (.flds mb2 cs2 f2) (by simp)
    simp only [List.mem_cons, List.not_mem_nil, or_false] at hx
    rcases hx with rfl | rfl
    · obtain ⟨p', a1, a2, a3⟩ := cellsP_get hf2 h1 h2
      rw [hcp] at a1
      injection a1 with a1
      injection a1 with a1
      subst a1
      have e : stepF q f f2 = f.put q (f2 q) := by
        funext i
        unfold stepF Flds.put
        by_cases hi : i = q
        · subst hi
          rw [if_pos rfl, if_pos rfl]
          cases hfi : f2 i with
          | none => rw [hfi] at a2; rw [hb] at a2; cases a2
          | some fv => rfl
        · rw [if_neg hi, if_neg hi]
      show CellsP w ok mb (cs.set q (.pointer p)) (stepF q f f2)
      rw [e]
      exact cellsP_put hf1 h1 a2 a3
    · exact hf2
  · refine xU ?_
    refine run_env (e' := [(0, ptr b), (1, ptr s)]) (eC (by (repeat rw [look_ne _ _ (by omega)]); exact look_self _ _ _) (eC (by (repeat rw [look_ne _ _ (by omega)]); exact look_self _ _ _) (eN _))) ?_
    have e : stepF q f f2 = f := by
      funext i
      unfold stepF
      by_cases hi : i = q
      · subst hi
        rw [if_pos rfl]
        cases hfi : f2 i with
        | none => rfl
        | some fv => rw [hfi, hb] at hps; cases hps
      · rw [if_neg hi]
    have := next cs
    rw [e] at this
    exact this
end rules
end Go.Jw

namespace Go.Jw
open Go Go.RowKit Go.Proofs
set_option maxRecDepth 8000
abbrev Prs := List (ByteArray × V)
def lk (l : Prs) (k : ByteArray) : Option V := (l.find? (fun p => decide (p.1 = k))).map (·.2)
theorem lk_nil (k : ByteArray) : lk [] k = none := rfl
theorem tL (p : ByteArray × V) (l : Prs) (k : ByteArray) : lk (p :: l) k = if p.1 = k then some p.2 else lk l k := by
 unfold lk
 rw [List.find?_cons]
 by_cases h : p.1 = k
 ·simp [h]
 ·simp [h]
theorem lk_map (l : Prs) (f : ByteArray → V → V) (k : ByteArray) : lk (l.map fun p => (p.1, f p.1 p.2)) k = (lk l k).map (f k) := by
  induction l with
  | nil => rfl
  | cons p l ih =>
    rw [List.map_cons, tL, tL, ih]
    split
    · rename_i h; simp only at h; rw [h]; rfl
    · rfl
theorem lk_filter (l : Prs) (q : ByteArray → Bool) (k : ByteArray) : lk (l.filter fun p => q p.1) k = if q k = true then lk l k else none := by
  induction l with
  | nil => simp [lk_nil]
  | cons p l ih =>
    rw [List.filter_cons]
    by_cases hq : q p.1 = true
    · rw [if_pos hq, tL, tL, ih]
      by_cases h : p.1 = k
      · rw [if_pos h, if_pos h, ← h, if_pos hq]
      · rw [if_neg h, if_neg h]
    · rw [if_neg hq, ih, tL]
      by_cases h : p.1 = k
      · rw [← h, if_neg hq, if_neg hq]
      · rw [if_neg h]
theorem lk_mem {l : Prs} {k : ByteArray} {x : V} (h : lk l k = some x) : (k, x) ∈ l := by
  induction l with
  | nil => cases h
  | cons p l ih =>
    rw [tL] at h
    split at h
    · rename_i hp
      injection h with h
      rw [← hp, ← h]
      exact List.mem_cons_self
    · exact List.mem_cons_of_mem _ (ih h)
theorem findIdx_lk (ks : List ByteArray) (ts : List V) (key : ByteArray) (h : ks.length ≤ ts.length) : (if ks.findIdx (fun x => decide (x = key)) < ks.length then ts[ks.findIdx (fun x => decide (x = key))]? else none) = lk (ks.zip ts) key := by
  induction ks generalizing ts with
  | nil => rfl
  | cons k ks ih =>
    cases ts with
    | nil => simp at h
    | cons t ts =>
      rw [List.zip_cons_cons, tL, List.findIdx_cons]
      by_cases hk : k = key
      · simp [hk]
      · have := ih ts (by simpa using h)
        simp only [hk, decide_false, cond_false, if_false, List.length_cons, Nat.add_lt_add_iff_right, List.getElem?_cons_succ]
        exact this
theorem getV_lk {v : V} (h : v.keys.length ≤ v.items.length) (key : ByteArray) : getV v key = lk (v.keys.zip v.items) key := by
 rw [← findIdx_lk _ _ _ h]
 unfold getV findI
 split
 ·rename_i hlt
  rw [if_neg (by omega)]
  simp
 ·rw [if_pos rfl]
def mkM (l : Prs) : V := .mk 5 0 ⟨#[]⟩ (l.map (·.1)) (l.map (·.2))
theorem mkM_zip (l : Prs) : (mkM l).keys.zip (mkM l).items = l := by
  show (l.map (·.1)).zip (l.map (·.2)) = l
  induction l with
  | nil => rfl
  | cons p l ih => simp [ih]
theorem getV_mkM (l : Prs) (key : ByteArray) : getV (mkM l) key = lk l key := by
 rw [getV_lk (by simp [mkM, V.keys, V.items]), mkM_zip]
def withL (key : ByteArray) (own : V) : Prs → Prs
  | [] => [(key, own)]
  | p :: l => if Op.bytesLess p.1.toList key.toList = false then (key, own) :: (p :: l).filter (fun q => !decide (q.1 = key)) else p :: withL key own l
def withV (v : V) (key : ByteArray) (own : V) : V := mkM (withL key own (v.keys.zip v.items))
def withoutV (v : V) (key : ByteArray) : V := mkM ((v.keys.zip v.items).filter (fun q => !decide (q.1 = key)))
theorem bl_irr (k : ByteArray) : Op.bytesLess k.toList k.toList = false := by
 rw [less_lt]
 exact decide_eq_false (List.lt_irrefl _)
theorem lk_with (key : ByteArray) (own : V) (l : Prs) (k : ByteArray) : lk (withL key own l) k = if k = key then some own else lk l k := by
  induction l with
  | nil =>
    rw [withL, tL]
    by_cases h : k = key
    · rw [if_pos h.symm, if_pos h]
    · rw [if_neg (Ne.symm h), if_neg h]
  | cons p l ih =>
    rw [withL]
    split
    · rw [tL, lk_filter (p :: l) (fun x => !decide (x = key))]
      by_cases h : k = key
      · rw [if_pos h.symm, if_pos h]
      · rw [if_neg (Ne.symm h), if_neg h, if_pos (by simp [h])]
    · rename_i hlt
      rw [tL, tL, ih]
      by_cases h : k = key
      · rw [if_pos h, if_pos h]
        split
        · rename_i hp
          rw [hp, h, bl_irr] at hlt
          exact absurd rfl hlt
        · rfl
      · rw [if_neg h, if_neg h]
theorem get_with {v : V} (h : v.keys.length ≤ v.items.length) (key : ByteArray) (own : V) (k : ByteArray) : getV (withV v key own) k = if k = key then some own else getV v k := by
 rw [withV, getV_mkM, lk_with, getV_lk h]
theorem get_without {v : V} (h : v.keys.length ≤ v.items.length) (key k : ByteArray) : getV (withoutV v key) k = if k = key then none else getV v k := by
 rw [withoutV, getV_mkM, lk_filter _ (fun x => !decide (x = key)), getV_lk h]
 by_cases hk : k = key <;> simp [hk]
theorem without_le (v : V) (key : ByteArray) : (withoutV v key).keys.length ≤ (withoutV v key).items.length := by simp [withoutV, mkM, V.keys, V.items]
theorem with_le (v : V) (key : ByteArray) (own : V) : (withV v key own).keys.length ≤ (withV v key own).items.length := by simp [withV, mkM, V.keys, V.items]
noncomputable def belowV (g : V → V) (v : V) : V := mkM ((v.keys.zip v.items).map fun p => (p.1, turnV (shapeOf p.1) g p.2))
theorem sJ {v : V} (h : v.keys.length ≤ v.items.length) (g : V → V) (k : ByteArray) : getV (belowV g v) k = (getV v k).map (turnV (shapeOf k) g) := by
 rw [belowV, getV_mkM, lk_map _ (fun k x => turnV (shapeOf k) g x), getV_lk h]
theorem mkM_le (l : Prs) : (mkM l).keys.length ≤ (mkM l).items.length := by simp [mkM, V.keys, V.items]

def Srt (l : Prs) : Prop := l.Pairwise (fun a b => rl a.1 < rl b.1)
theorem bl_iff (a b : ByteArray) : Op.bytesLess a.toList b.toList = false ↔ rl b ≤ rl a := by
 rw [less_lt, sG, sG, decide_eq_false_iff_not, List.not_lt]
theorem keysOk_srt {ks : List ByteArray} (h : KeysOk ks) (ts : List V) : Srt (ks.zip ts) := zip_pw (keysOk_lt h)
theorem with_mem {key : ByteArray} {own : V} {l : Prs} {p : ByteArray × V} (h : p ∈ withL key own l) : p = (key, own) ∨ p ∈ l := by
  induction l with
  | nil => exact .inl (List.mem_singleton.1 h)
  | cons q l ih =>
    rw [withL] at h
    split at h
    · rcases List.mem_cons.1 h with h | h
      · exact .inl h
      · exact .inr (List.mem_filter.1 h).1
    · rcases List.mem_cons.1 h with h | h
      · exact .inr (by rw [h]; exact List.mem_cons_self)
      · exact (ih h).imp id (List.mem_cons_of_mem _)
theorem with_srt {key : ByteArray} {own : V} {l : Prs} (h : Srt l) : Srt (withL key own l) := by
  induction l with
  | nil => exact List.pairwise_singleton _ _
  | cons p l ih =>
    have hc := List.pairwise_cons.1 h
    rw [withL]
    split
    · rename_i hle
      refine List.pairwise_cons.2 ⟨fun q hq => ?_, h.filter _⟩
      obtain ⟨hq1, hq2⟩ := List.mem_filter.1 hq
      have hne : q.1 ≠ key := by simpa using hq2
      have h1 : rl key ≤ rl p.1 := (bl_iff _ _).1 hle
      have h2 : rl key ≤ rl q.1 := by
        rcases List.mem_cons.1 hq1 with e | e
        · rw [e]; exact h1
        · exact List.le_trans h1 (List.le_of_lt (hc.1 q e))
      refine Classical.byContradiction fun hn => hne (rl_inj (List.le_antisymm (List.not_lt.1 hn) h2))
    · rename_i hlt
      refine List.pairwise_cons.2 ⟨fun q hq => ?_, ih hc.2⟩
      rcases with_mem hq with e | e
      · rw [e]
        have : ¬ rl key ≤ rl p.1 := fun hle => hlt ((bl_iff _ _).2 hle)
        exact List.not_le.1 this
      · exact hc.1 q e
theorem shape_get {v : V} (hp : Pl v) (hk : v.kind = 5) (h : ∀ key x, getV v key = some x → FitLoc (shapeOf key) x ∧ (∀ z ∈ kidsOf (shapeOf key) x, IsShape z) ∧ (key = kId → ∃ u, getV v kSchema = some u ∧ IsFourth u.text)) : IsShape v := by
 refine (wI v).2 ⟨hk, fun j k x hj hx => h k x ((wQ hp hk).1 ?_)⟩
 refine List.mem_of_getElem? (i := j) ?_
 rw [List.getElem?_zip_eq_some]
 exact ⟨hj, hx⟩
theorem wO {v : V} (hs : IsShape v) {key : ByteArray} {x : V} (h : getV v key = some x) : FitLoc (shapeOf key) x ∧ (∀ z ∈ kidsOf (shapeOf key) x, IsShape z) ∧ (key = kId → ∃ u, getV v kSchema = some u ∧ IsFourth u.text) := by
 obtain ⟨j, hj1, hj2⟩ := qH h
 exact ((wI v).1 hs).2 j _ _ hj1 hj2
def fkids : FVal → List Nat
  | .sbS b => [b]
  | .itS b => [b]
  | .itL bs => bs
  | .named l => l.map (·.2)
  | .list bs => bs
  | .one b => [b]
  | _ => []
def kidsAt (f : Flds) (i : Nat) : List Nat := match f i with
  | none => []
  | some fv => fkids fv
theorem All2.map {α β γ : Type} {R : α → β → Prop} {S : α → γ → Prop} {g : β → γ} {l : List α} {l' : List β} (h : ∀ a b, a ∈ l → b ∈ l' → R a b → S a (g b)) (h2 : All2 R l l') : All2 S l (l'.map g) := by
  refine ⟨by rw [List.length_map]; exact h2.1, fun i a b ha hb => ?_⟩
  rw [List.getElem?_map] at hb
  cases hl : l'[i]? with
  | none => rw [hl] at hb; cases hb
  | some b' =>
    rw [hl] at hb
    injection hb with hb
    rw [← hb]
    exact h a b' (List.mem_of_getElem? ha) (List.mem_of_getElem? hl) (h2.2 i a b' ha hl)
theorem zip_mapR (ks : List ByteArray) (ts : List V) (g : V → V) : ks.zip (ts.map g) = (ks.zip ts).map (fun p => (p.1, g p.2)) := by
  induction ks generalizing ts with
  | nil => rfl
  | cons k ks ih => cases ts with
    | nil => rfl
    | cons t ts => simp [ih]
theorem FvRel.turn {U U' : Nat → V → Prop} {g : V → V} (hg : ∀ z, (g z).kind = 5) {sh : Int} {x : V} {fv : FVal} (hfit : FitLoc sh x) (h : ∀ c z, c ∈ fkids fv → z ∈ kidsOf sh x → U c z → U' c (g z)) (hf : FvRel U sh x fv) : FvRel U' sh (turnV sh g x) fv := by
  have all5 : ∀ (hi : ∀ y ∈ x.items, y.kind = 5), ∀ y ∈ x.items, mapKids g y = g y := fun hi y hy => wD (hi y hy)
  cases fv with
  | text s => obtain ⟨rfl, h2⟩ := hf; exact ⟨rfl, h2⟩
  | bool s => obtain ⟨rfl, h2⟩ := hf; exact ⟨rfl, h2⟩
  | int s => obtain ⟨rfl, h2⟩ := hf; exact ⟨rfl, h2⟩
  | numI s => obtain ⟨rfl, h2⟩ := hf; exact ⟨rfl, h2⟩
  | numF s => obtain ⟨rfl, h2⟩ := hf; exact ⟨rfl, h2⟩
  | sbS b =>
    obtain ⟨rfl, h5, hu⟩ := hf
    have e : turnV 6 g x = g x := by simp [turnV, h5]
    rw [e]
    exact ⟨rfl, hg x, h b x (by simp [fkids]) (by simp [kidsOf, h5]) hu⟩
  | sbB s =>
    obtain ⟨rfl, h1, h2⟩ := hf
    have e : turnV 6 g x = x := by simp [turnV, h1]
    rw [e]
    exact ⟨rfl, h1, h2⟩
  | itS b =>
    obtain ⟨rfl, h5, hu⟩ := hf
    have e : turnV 7 g x = g x := by simp [turnV, h5]
    rw [e]
    exact ⟨rfl, hg x, h b x (by simp [fkids]) (by simp [kidsOf, h5]) hu⟩
  | itL bs =>
    obtain ⟨rfl, h4, hu⟩ := hf
    have hi : ∀ y ∈ x.items, y.kind = 5 := by simpa [FitLoc, h4] using hfit
    have e : turnV 7 g x = turnAll g x := by simp [turnV, h4]
    rw [e]
    refine ⟨rfl, h4, ?_⟩
    show All2 U' bs (x.items.map (mapKids g))
    exact hu.map fun a b ha hb hab => by rw [all5 hi b hb]; exact h a b ha (by rw [kids7l h4 hi]; exact hb) hab
  | texts l => obtain ⟨rfl, h2⟩ := hf; exact ⟨rfl, h2⟩
  | named l =>
    obtain ⟨rfl, ps, hp, hu⟩ := hf
    have hi : ∀ y ∈ x.items, y.kind = 5 := by
      have : x.kind = 5 ∧ ∀ x' ∈ x.items, x'.kind = 5 := by simpa [FitLoc] using hfit
      exact this.2
    have e : turnV 9 g x = turnAll g x := by simp [turnV]
    rw [e]
    refine ⟨rfl, ps.map (fun p => (p.1, mapKids g p.2)), ?_, ?_⟩
    · show (ps.map _).Perm (x.keys.zip (x.items.map (mapKids g)))
      rw [zip_mapR]
      exact hp.map _
    · exact hu.map fun a b ha hb hab => by
        have hm := (List.of_mem_zip (hp.mem_iff.1 hb)).2
        refine ⟨hab.1, ?_⟩
        show U' a.2 (mapKids g b.2)
        rw [all5 hi _ hm]
        exact h a.2 b.2 (List.mem_map.2 ⟨a, ha, rfl⟩) (by rw [kids9 hi]; exact hm) hab.2
  | deps l => obtain ⟨rfl, h2⟩ := hf; exact ⟨rfl, h2⟩
  | enums l => obtain ⟨rfl, h2⟩ := hf; exact ⟨rfl, h2⟩
  | tyS s => obtain ⟨rfl, h2⟩ := hf; exact ⟨rfl, h2⟩
  | tyL l => obtain ⟨rfl, h2⟩ := hf; exact ⟨rfl, h2⟩
  | list bs =>
    obtain ⟨rfl, hu⟩ := hf
    have hi : ∀ y ∈ x.items, y.kind = 5 := by
      have : x.kind = 4 ∧ ∀ x' ∈ x.items, x'.kind = 5 := by simpa [FitLoc] using hfit
      exact this.2
    have e : turnV 13 g x = turnAll g x := by simp [turnV]
    rw [e]
    refine ⟨rfl, ?_⟩
    show All2 U' bs (x.items.map (mapKids g))
    exact hu.map fun a b ha hb hab => by rw [all5 hi b hb]; exact h a b ha (by rw [kids13 hi]; exact hb) hab
  | one b =>
    obtain ⟨rfl, hu⟩ := hf
    exact ⟨rfl, h b x (by simp [fkids]) (by simp [kidsOf]) hu⟩
  | any => exact hf
def kidsV (v : V) : List V := (v.keys.zip v.items).flatMap (fun p => kidsOf (shapeOf p.1) p.2)
theorem vD {v z : V} (h : z ∈ kidsV v) : SizeOf.sizeOf z < SizeOf.sizeOf v := by
 obtain ⟨p, hp, hz⟩ := List.mem_flatMap.1 h
 exact Nat.lt_of_le_of_lt (tJ hz) (yQ (List.of_mem_zip hp).2)
noncomputable def DeepV (p : V → Prop) : V → Prop := V.fix (α := Prop) (fun v f => p v ∧ ∀ z ∈ kidsV v, f z)
theorem wS (p : V → Prop) (v : V) : DeepV p v ↔ p v ∧ ∀ z ∈ kidsV v, DeepV p z := by
 have := V.fix_eq (α := Prop) (G := fun v f => p v ∧ ∀ z ∈ kidsV v, f z) (fun t g g' h => by
  have : (∀ z ∈ kidsV t, g z) ↔ ∀ z ∈ kidsV t, g' z := ⟨fun a z hz => by rw [← h z (vD hz)]; exact a z hz, fun a z hz => by rw [h z (vD hz)]; exact a z hz⟩
  simp only [this]) v
 show V.fix _ v ↔ _
 rw [this]
 rfl
theorem wP {v x z : V} {key : ByteArray} (hp : Pl v) (hk : v.kind = 5) (h : getV v key = some x) (hz : z ∈ kidsOf (shapeOf key) x) : z ∈ kidsV v :=
 List.mem_flatMap.2 ⟨(key, x), (wQ hp hk).2 h, hz⟩
theorem kid_pl {v z : V} (hp : Pl v) (h : z ∈ kidsV v) : Pl z := by
 obtain ⟨p, hpm, hz⟩ := List.mem_flatMap.1 h
 exact pl_kid hp (List.of_mem_zip hpm).2 hz
theorem rA {v z : V} (hp : Pl v) (hs : IsShape v) (h : z ∈ kidsV v) : IsShape z := by
 obtain ⟨p, hpm, hz⟩ := List.mem_flatMap.1 h
 exact (wO hs ((wQ hp hs.kind).1 (show (p.1, p.2) ∈ _ from hpm))).2.1 z hz
theorem belowV_congr {g g' : V → V} {v : V} (h : ∀ x, SizeOf.sizeOf x < SizeOf.sizeOf v → g x = g' x) : belowV g v = belowV g' v := by
 unfold belowV
 congr 1
 refine List.map_congr_left fun p hp => ?_
 rw [rM fun x hx => h x (Nat.lt_of_le_of_lt hx (yQ (List.of_mem_zip hp).2))]

noncomputable def choV (u : V) : V := match getV u k29 with
  | some a => withV (withoutV u k29) k30 a
  | none => u
noncomputable def chosenV : V → V := V.fix (α := V) (fun v g => choV (belowV g v))
theorem chosenV_eq (v : V) : chosenV v = choV (belowV chosenV v) :=
 V.fix_eq (α := V) (G := fun v g => choV (belowV g v)) (fun t g g' h => by rw [belowV_congr h]) v
theorem qA (g : V → V) (v : V) : (belowV g v).keys.length ≤ (belowV g v).items.length := mkM_le _
def kidIdx : List Nat := [14, 15, 22, 23, 24, 28, 29, 30, 31, 32]
inductive Rch (σ : Sig) : Nat → Nat → Prop where
  | refl (b : Nat) : Rch σ b b
  | step {b c d i : Nat} {f : Flds} (h : σ b = some f) (hi : i ∈ kidIdx) (hc : c ∈ kidsAt f i) (r : Rch σ c d) : Rch σ b d
theorem kid_idx {U : Nat → V → Prop} {i : Nat} {x : V} {fv : FVal} {c : Nat} (h1 : 1 ≤ i) (h2 : i ≤ 36) (h : FvRel U (shIdx i) x fv) (hc : c ∈ fkids fv) : i ∈ kidIdx := by
  have key : shIdx i = 5 ∨ shIdx i = 6 ∨ shIdx i = 7 ∨ shIdx i = 9 ∨ shIdx i = 13 → i ∈ kidIdx := by
    have : ∀ i : Fin 37, shIdx i.1 = 5 ∨ shIdx i.1 = 6 ∨ shIdx i.1 = 7 ∨ shIdx i.1 = 9 ∨ shIdx i.1 = 13 → i.1 ∈ kidIdx := by decide
    exact this ⟨i, by omega⟩
  cases fv with
  | sbS b => exact key (.inr (.inl h.1))
  | itS b => exact key (.inr (.inr (.inl h.1)))
  | itL bs => exact key (.inr (.inr (.inl h.1)))
  | named l => exact key (.inr (.inr (.inr (.inl h.1))))
  | list bs => exact key (.inr (.inr (.inr (.inr h.1))))
  | one b => exact key (.inl h.1)
  | _ => simp [fkids] at hc
def NoBoth (v : V) : Prop := ¬ ((getV v k29).isSome = true ∧ (getV v k30).isSome = true)
theorem kwI {key : ByteArray} {i : Nat} (h : kwIdx key = i) (k : ByteArray) (hk : kwIdx k = i) (h0 : i ≠ 0) : key = k := kw_inj (h.trans hk.symm) (by rw [h]; exact h0)
theorem kid_allG {g : V → V} {x : V} (h : ∀ y ∈ x.items, y.kind = 5) {p : V → Prop} (hs : ∀ y ∈ x.items, p (g y)) : ∀ z ∈ (turnAll g x).items, p z := by
 intro z hz
 unfold turnAll at hz
 simp only [V.items] at hz
 obtain ⟨y, hy, rfl⟩ := List.mem_map.1 hz
 rw [wD (h y hy)]
 exact hs y hy
theorem shape_turnG {g : V → V} {sh : Int} {x : V} (hf : FitLoc sh x) (h : ∀ y ∈ kidsOf sh x, IsShape (g y)) : FitLoc sh (turnV sh g x) ∧ ∀ y ∈ kidsOf sh (turnV sh g x), IsShape y := by
 unfold turnV
 split
 ·rename_i h5
  subst h5
  exact fits5.2 (h x (by simp [kidsOf]))
 split
 ·rename_i h6
  subst h6
  split
  ·rename_i hk
   exact fits6.2 (.inr (h x (by rw [kids6 hk]; simp)))
  ·rename_i hk
   have hf' : x.kind = 1 ∨ x.kind = 5 := by simpa [FitLoc] using hf
   exact fits6.2 (.inl (hf'.resolve_right hk))
 split
 ·rename_i h7
  subst h7
  split
  ·rename_i hk
   exact fits7.2 (.inl (h x (by rw [kids7 hk]; simp)))
  ·rename_i hk
   have hf' : x.kind = 5 ∨ (x.kind = 4 ∧ ∀ x' ∈ x.items, x'.kind = 5) := by simpa [FitLoc] using hf
   have h4 := hf'.resolve_left hk
   exact fits7.2 (.inr ⟨h4.1, kid_allG h4.2 fun y hy => h y (by rw [kids7l h4.1 h4.2]; exact hy)⟩)
 split
 ·rename_i h9
  rcases h9 with h9 | h9
  ·subst h9
   have hf' : x.kind = 5 ∧ ∀ x' ∈ x.items, x'.kind = 5 := by simpa [FitLoc] using hf
   exact fits9.2 ⟨hf'.1, kid_allG hf'.2 fun y hy => h y (by rw [kids9 hf'.2]; exact hy)⟩
  ·subst h9
   have hf' : x.kind = 4 ∧ ∀ x' ∈ x.items, x'.kind = 5 := by simpa [FitLoc] using hf
   exact fits13.2 ⟨hf'.1, kid_allG hf'.2 fun y hy => h y (by rw [kids13 hf'.2]; exact hy)⟩
 ·rename_i h5 h6 h7 h9
  refine ⟨hf, fun y hy => ?_⟩
  unfold kidsOf at hy
  rw [if_neg h5, if_neg h6, if_neg h7, if_neg h9] at hy
  cases hy
theorem kids_turn {g : V → V} (hg : ∀ z, (g z).kind = 5) {sh : Int} {x z : V} (hf : FitLoc sh x) (h : z ∈ kidsOf sh (turnV sh g x)) : ∃ y ∈ kidsOf sh x, z = g y := by
 have all : ∀ (hi : ∀ y ∈ x.items, y.kind = 5), z ∈ (turnAll g x).items → ∃ y ∈ x.items, z = g y := fun hi hz => by
  unfold turnAll at hz
  simp only [V.items] at hz
  obtain ⟨y, hy, rfl⟩ := List.mem_map.1 hz
  exact ⟨y, hy, by rw [wD (hi y hy)]⟩
 unfold turnV at h
 split at h
 ·rename_i h5
  subst h5
  simp [kidsOf] at h
  exact ⟨x, by simp [kidsOf], h⟩
 split at h
 ·rename_i h6
  subst h6
  split at h
  ·rename_i hk
   rw [kids6 (hg x)] at h
   exact ⟨x, by rw [kids6 hk]; simp, List.mem_singleton.1 h⟩
  ·rename_i hk
   exact ⟨z, h, by simp [kidsOf, hk] at h⟩
 split at h
 ·rename_i h7
  subst h7
  split at h
  ·rename_i hk
   rw [kids7 (hg x)] at h
   exact ⟨x, by rw [kids7 hk]; simp, List.mem_singleton.1 h⟩
  ·rename_i hk
   have hf' : x.kind = 5 ∨ (x.kind = 4 ∧ ∀ x' ∈ x.items, x'.kind = 5) := by simpa [FitLoc] using hf
   have h4 := hf'.resolve_left hk
   rw [kids7l h4.1 h4.2]
   refine all h4.2 ?_
   have hk' : ¬ (turnAll g x).kind = 5 := hk
   simp only [kidsOf, hk'] at h
   simp at h
   exact h.1
 split at h
 ·rename_i h9
  have hf' : ∀ x' ∈ x.items, x'.kind = 5 := by
   rcases h9 with h9 | h9
   ·subst h9
    have : x.kind = 5 ∧ ∀ x' ∈ x.items, x'.kind = 5 := by simpa [FitLoc] using hf
    exact this.2
   ·subst h9
    have : x.kind = 4 ∧ ∀ x' ∈ x.items, x'.kind = 5 := by simpa [FitLoc] using hf
    exact this.2
  have e : kidsOf sh x = x.items := by
   rcases h9 with h9 | h9
   ·subst h9; exact kids9 hf'
   ·subst h9; exact kids13 hf'
  rw [e]
  refine all hf' ?_
  rcases h9 with h9 | h9 <;> subst h9 <;> simp [kidsOf] at h <;> exact h.1
 ·rename_i h5 h6 h7 h9
  unfold kidsOf at h
  rw [if_neg h5, if_neg h6, if_neg h7, if_neg h9] at h
  cases h
theorem kw_of_sh {key : ByteArray} {i : Nat} (h : kwIdx key = i) (h0 : i ≠ 0) : shapeOf key = shIdx i := by rw [kw_sh (by rw [h]; exact h0), h]
theorem kw_isKw {key : ByteArray} (h : kwIdx key ≠ 0) : isKw key = true := by
  have hs : shapeOf key = shIdx (kwIdx key) := kw_sh h
  unfold isKw
  rw [hs]
  refine decide_eq_true ?_
  rcases kw_case (key := key) with ⟨_, hm⟩ | h0
  · have : ∀ q ∈ [35, 36, 32, 31, 30, 29, 28, 26, 20, 19, 18, 17, 16, 14, 13, 12, 11, 10, 9, 8, 7, 6, 3, 25, 23, 24, 22, 21, 34, 15, 27, 1, 2, 33], shIdx q ≠ 0 := by decide
    exact this _ hm
  · exact absurd h0 h
theorem shape_norm (v : V) : IsShape v → Pl v → IsShape (normalV v) := by
  refine V.indS (p := fun v => IsShape v → Pl v → IsShape (normalV v)) (fun v IH hs hp => ?_) v
  refine shape_get (pl_norm hs hp) (sH v) fun key y hy => ?_
  rw [norm_get hs hp] at hy
  split at hy
  · cases hx : getV v key with
    | none => rw [hx] at hy; cases hy
    | some x =>
      rw [hx] at hy
      injection hy with hy
      subst hy
      obtain ⟨h1, h2, h3⟩ := wO hs hx
      obtain ⟨h4, h5⟩ := shape_turnG (g := normalV) h1 (fun z hz => IH z (vD (wP hp hs.kind hx hz)) (h2 z hz) (kid_pl hp (wP hp hs.kind hx hz)))
      refine ⟨h4, h5, fun he => ?_⟩
      obtain ⟨u, hu, hf⟩ := h3 he
      refine ⟨turnV (shapeOf kSchema) normalV u, ?_, ?_⟩
      · rw [norm_get hs hp, if_pos (by decide +kernel), hu]; rfl
      · rw [shape_schema]; exact hf
  · cases hy
theorem unf_normal {G : Gr} (v : V) : ∀ b, Pl v → IsShape v → Unf G v b → Unf G (normalV v) b := by
  refine V.indS (p := fun v => ∀ b, Pl v → IsShape v → Unf G v b → Unf G (normalV v) b) (fun v IH b hp hs hu => ?_) v
  obtain ⟨f, hat, hU⟩ := (qS G v b).1 hu
  refine (qS G _ b).2 ⟨f, hat, fun i hi hj => ?_⟩
  have := hU i hi hj
  cases hfi : f i with
  | none =>
    rw [hfi] at this
    intro key hkw
    rw [norm_get hs hp, this key hkw]
    split <;> rfl
  | some fv =>
    rw [hfi] at this
    obtain ⟨key, x, hkw, hx, hrel⟩ := this
    have hsh := kw_of_sh hkw (by omega)
    refine ⟨key, turnV (shapeOf key) normalV x, hkw, by rw [norm_get hs hp, if_pos (kw_isKw (by rw [hkw]; omega)), hx]; rfl, ?_⟩
    have hfit := wO hs hx
    rw [hsh] at hfit ⊢
    refine FvRel.turn sH hfit.1 (fun c z hc hz huc => ?_) hrel
    have hzk : z ∈ kidsV v := wP hp hs.kind hx (by rw [hsh]; exact hz)
    exact IH z (vD hzk) c (kid_pl hp hzk) (rA hp hs hzk) huc
theorem kidsV_norm {v z : V} (hp : Pl v) (hs : IsShape v) (h : z ∈ kidsV (normalV v)) : ∃ y ∈ kidsV v, z = normalV y := by
  obtain ⟨p, hpm, hz⟩ := List.mem_flatMap.1 h
  have hg := (wQ (pl_norm hs hp) (sH v)).1 (show (p.1, p.2) ∈ _ from hpm)
  rw [norm_get hs hp] at hg
  split at hg
  · cases hx : getV v p.1 with
    | none => rw [hx] at hg; cases hg
    | some x =>
      rw [hx] at hg
      injection hg with hg
      rw [← hg] at hz
      obtain ⟨y, hy, rfl⟩ := kids_turn sH (wO hs hx).1 hz
      exact ⟨y, wP hp hs.kind hx hy, rfl⟩
  · cases hg
theorem deep_norm {p q : V → Prop} (hpq : ∀ v, Pl v → IsShape v → p v → q (normalV v)) (v : V) : Pl v → IsShape v → DeepV p v → DeepV q (normalV v) := by
 refine V.indS (p := fun v => Pl v → IsShape v → DeepV p v → DeepV q (normalV v)) (fun v IH hp hs hd => ?_) v
 obtain ⟨h1, h2⟩ := (wS _ _).1 hd
 refine (wS _ _).2 ⟨hpq v hp hs h1, fun z hz => ?_⟩
 obtain ⟨y, hy, rfl⟩ := kidsV_norm hp hs hz
 exact IH y (vD hy) (kid_pl hp hy) (rA hp hs hy) (h2 y hy)
theorem deep_true {p : V → Prop} (h : ∀ v, p v) (v : V) : DeepV p v :=
 V.indS (p := fun v => DeepV p v) (fun v IH => (wS _ _).2 ⟨h v, fun z hz => IH z (vD hz)⟩) v
def Kw1 (v : V) : Prop := ∀ k ∈ v.keys, isKw k = true
theorem kw1_norm (v : V) : Kw1 (normalV v) := by
 intro k hk
 rw [sA] at hk
 obtain ⟨p, hp, rfl⟩ := List.mem_map.1 hk
 exact (List.mem_filter.1 hp).2
theorem turn_fix {g : V → V} {sh : Int} {x : V} (hp : Pl x) (hf : FitLoc sh x) (h : ∀ y ∈ kidsOf sh x, g y = y) : turnV sh g x = x := by
  have all : (x.kind = 4 ∨ x.kind = 5) → (∀ y ∈ x.items, y.kind = 5) → (∀ y ∈ x.items, g y = y) → turnAll g x = x := by
    intro hk hi hfix
    have e : x.items.map (mapKids g) = x.items := by
      conv => rhs; rw [← List.map_id x.items]
      exact List.map_congr_left fun y hy => by rw [wD (hi y hy), hfix y hy]; rfl
    unfold turnAll
    rw [e]
    obtain ⟨d, hd⟩ := hp
    obtain ⟨q, m, s, ks, ts⟩ := x
    simp only [V.kind, V.keys, V.items] at hk ⊢
    cases d with
    | zero => exact absurd hd (tA hk)
    | succ d =>
      obtain ⟨⟨h1, h2, _⟩, _⟩ := (wN hk).1 hd
      rw [h1, h2]
  unfold turnV
  split
  · rename_i h5; subst h5; exact h x (by simp [kidsOf])
  split
  · rename_i h6; subst h6
    split
    · rename_i hk; exact h x (by rw [kids6 hk]; simp)
    · rfl
  split
  · rename_i h7; subst h7
    split
    · rename_i hk; exact h x (by rw [kids7 hk]; simp)
    · rename_i hk
      have hf' : x.kind = 5 ∨ (x.kind = 4 ∧ ∀ x' ∈ x.items, x'.kind = 5) := by simpa [FitLoc] using hf
      have h4 := hf'.resolve_left hk
      exact all (.inl h4.1) h4.2 (fun y hy => h y (by rw [kids7l h4.1 h4.2]; exact hy))
  split
  · rename_i h9
    rcases h9 with h9 | h9
    · subst h9
      have hf' : x.kind = 5 ∧ ∀ x' ∈ x.items, x'.kind = 5 := by simpa [FitLoc] using hf
      exact all (.inr hf'.1) hf'.2 (fun y hy => h y (by rw [kids9 hf'.2]; exact hy))
    · subst h9
      have hf' : x.kind = 4 ∧ ∀ x' ∈ x.items, x'.kind = 5 := by simpa [FitLoc] using hf
      exact all (.inl hf'.1) hf'.2 (fun y hy => h y (by rw [kids13 hf'.2]; exact hy))
  · rfl
theorem normal_fix (w : V) : Pl w → IsShape w → DeepV Kw1 w → normalV w = w := by
 refine V.indS (p := fun w => Pl w → IsShape w → DeepV Kw1 w → normalV w = w) (fun w IH hp hs hd => ?_) w
 obtain ⟨h1, h2⟩ := (wS _ _).1 hd
 have hm := rV hp hs.kind
 rw [sA]
 unfold filterV
 have e : (w.keys.zip w.items).filter (fun p => isKw p.1) = w.keys.zip w.items := List.filter_eq_self.2 fun p hpm => h1 _ (List.of_mem_zip hpm).1
 have e2 : (w.keys.zip w.items).map (fun p => turnV (shapeOf p.1) normalV p.2) = (w.keys.zip w.items).map (fun p => p.2) := List.map_congr_left fun p hpm => by
  have hg := (wQ hp hs.kind).1 (show (p.1, p.2) ∈ _ from hpm)
  refine turn_fix (hp.item _ (List.of_mem_zip hpm).2) (wO hs hg).1 fun y hy => ?_
  have hyk := wP hp hs.kind hg hy
  exact IH y (vD hyk) (kid_pl hp hyk) (rA hp hs hyk) (h2 y hyk)
 rw [e, e2]
 have e3 : (w.keys.zip w.items).map (·.1) = w.keys := List.map_fst_zip (by rw [hm.2.1]; exact Nat.le_refl _)
 have e4 : (w.keys.zip w.items).map (fun p => p.2) = w.items := List.map_snd_zip (by rw [hm.2.1]; exact Nat.le_refl _)
 rw [e3, e4]
 exact hm.1.symm
theorem srt_map {l : Prs} (f : ByteArray → V → V) (h : Srt l) : Srt (l.map fun p => (p.1, f p.1 p.2)) := by
 unfold Srt
 rw [List.pairwise_map]
 exact h
theorem srt_filter {l : Prs} (q : ByteArray × V → Bool) (h : Srt l) : Srt (l.filter q) := h.sublist List.filter_sublist
noncomputable def USig (σ : Sig) : V → Nat → Prop := V.fix (α := Nat → Prop) (fun v r b => ∃ f, σ b = some f ∧ ∀ i, 1 ≤ i → i ≤ 36 → FldRel (fun b x => r x b) v i (f i))
theorem sU (σ : Sig) (v : V) (b : Nat) : USig σ v b ↔ ∃ f, σ b = some f ∧ ∀ i, 1 ≤ i → i ≤ 36 → FldRel (fun b x => USig σ x b) v i (f i) := by
 have := V.fix_eq (α := Nat → Prop) (G := fun v r b => ∃ f, σ b = some f ∧ ∀ i, 1 ≤ i → i ≤ 36 → FldRel (fun b x => r x b) v i (f i)) (fun t g g' h => by
  funext b
  apply propext
  constructor
  ·rintro ⟨f, h1, h2⟩
   exact ⟨f, h1, fun i hi hj => (h2 i hi hj).mono fun b x hx hu => by rw [← h x hx]; exact hu⟩
  ·rintro ⟨f, h1, h2⟩
   exact ⟨f, h1, fun i hi hj => (h2 i hi hj).mono fun b x hx hu => by rw [h x hx]; exact hu⟩) v
 show V.fix (α := Nat → Prop) _ v b ↔ _
 rw [this]
 rfl
theorem unf_usig {G : Gr} {σ : Sig} (h : GOk G σ) (v : V) : ∀ b, Unf G v b ↔ USig σ v b := by
 refine V.indS (p := fun v => ∀ b, Unf G v b ↔ USig σ v b) (fun v IH b => ?_) v
 rw [qS, sU]
 constructor
 ·rintro ⟨f, h1, h2⟩
  exact ⟨f, (h.2 b f).1 h1, fun i hi hj => (h2 i hi hj).mono fun c x hx hu => (IH x hx c).1 hu⟩
 ·rintro ⟨f, h1, h2⟩
  exact ⟨f, (h.2 b f).2 h1, fun i hi hj => (h2 i hi hj).mono fun c x hx hu => (IH x hx c).2 hu⟩
theorem FvRel.kid {U : Nat → V → Prop} {sh : Int} {x : V} {fv : FVal} {c : Nat} (hfit : FitLoc sh x) (h : FvRel U sh x fv) (hc : c ∈ fkids fv) : ∃ z ∈ kidsOf sh x, U c z := by
  have get : ∀ (bs : List Nat) (l : List V), All2 U bs l → c ∈ bs → ∃ z ∈ l, U c z := fun bs l h2 hm => by
    obtain ⟨i, hi, rfl⟩ := List.getElem_of_mem hm
    have hi' : i < l.length := by rw [← h2.1]; exact hi
    exact ⟨l[i], List.getElem_mem hi', h2.2 i _ _ (List.getElem?_eq_getElem hi) (List.getElem?_eq_getElem hi')⟩
  cases fv with
  | sbS b => obtain ⟨rfl, h5, hu⟩ := h; exact ⟨x, by simp [kidsOf, h5], by rw [List.mem_singleton.1 hc]; exact hu⟩
  | itS b => obtain ⟨rfl, h5, hu⟩ := h; exact ⟨x, by simp [kidsOf, h5], by rw [List.mem_singleton.1 hc]; exact hu⟩
  | itL bs =>
    obtain ⟨rfl, h4, hu⟩ := h
    have hi : ∀ y ∈ x.items, y.kind = 5 := by simpa [FitLoc, h4] using hfit
    rw [kids7l h4 hi]
    exact get bs _ hu hc
  | named l =>
    obtain ⟨rfl, ps, hp, hu⟩ := h
    have hi : ∀ y ∈ x.items, y.kind = 5 := by
      have : x.kind = 5 ∧ ∀ x' ∈ x.items, x'.kind = 5 := by simpa [FitLoc] using hfit
      exact this.2
    rw [kids9 hi]
    obtain ⟨q, hq, rfl⟩ := List.mem_map.1 hc
    obtain ⟨i, hi, rfl⟩ := List.getElem_of_mem hq
    have hi' : i < ps.length := by rw [← hu.1]; exact hi
    exact ⟨ps[i].2, (List.of_mem_zip (hp.mem_iff.1 (List.getElem_mem hi'))).2, (hu.2 i _ _ (List.getElem?_eq_getElem hi) (List.getElem?_eq_getElem hi')).2⟩
  | list bs =>
    obtain ⟨rfl, hu⟩ := h
    have hi : ∀ y ∈ x.items, y.kind = 5 := by
      have : x.kind = 4 ∧ ∀ x' ∈ x.items, x'.kind = 5 := by simpa [FitLoc] using hfit
      exact this.2
    rw [kids13 hi]
    exact get bs _ hu hc
  | one b => obtain ⟨rfl, hu⟩ := h; exact ⟨x, by simp [kidsOf], by rw [List.mem_singleton.1 hc]; exact hu⟩
  | _ => simp [fkids] at hc
def FvOk (sh : Int) : FVal → Prop
  | .text _ => sh = 1
  | .bool _ => sh = 2
  | .int _ => sh = 4
  | .numI _ => sh = 3
  | .numF _ => sh = 3
  | .sbS _ => sh = 6
  | .sbB _ => sh = 6
  | .itS _ => sh = 7
  | .itL _ => sh = 7
  | .texts _ => sh = 8
  | .named _ => sh = 9
  | .deps _ => sh = 10
  | .enums _ => sh = 11
  | .tyS _ => sh = 12
  | .tyL _ => sh = 12
  | .list _ => sh = 13
  | .one _ => sh = 5
  | .any => sh = 14
theorem FvRel.ok {U : Nat → V → Prop} {sh : Int} {x : V} {fv : FVal} (h : FvRel U sh x fv) : FvOk sh fv := by
 cases fv <;> first | exact h.1 | exact h
def FT (f : Flds) : Prop := ∀ i fv, 1 ≤ i → i ≤ 36 → f i = some fv → FvOk (shIdx i) fv
theorem usig_ft {σ : Sig} {v : V} {b : Nat} (h : USig σ v b) : ∃ f, σ b = some f ∧ FT f := by
 obtain ⟨f, h1, h2⟩ := (sU σ v b).1 h
 refine ⟨f, h1, fun i fv hi hj hf => ?_⟩
 have := h2 i hi hj
 rw [hf] at this
 obtain ⟨key, x, _, _, hr⟩ := this
 exact hr.ok
theorem kidIdx_le : ∀ i ∈ kidIdx, 1 ≤ i ∧ i ≤ 36 := by decide
theorem usig_kid {σ : Sig} {v : V} {b c i : Nat} {f : Flds} (hp : Pl v) (hs : IsShape v) (h : USig σ v b) (hf : σ b = some f) (hi : i ∈ kidIdx) (hc : c ∈ kidsAt f i) : ∃ z ∈ kidsV v, USig σ z c := by
  obtain ⟨f', h1, h2⟩ := (sU σ v b).1 h
  rw [hf] at h1
  injection h1 with h1
  subst h1
  have hle := kidIdx_le i hi
  have := h2 i hle.1 hle.2
  unfold kidsAt at hc
  cases hfi : f i with
  | none => rw [hfi] at hc; cases hc
  | some fv =>
    rw [hfi] at this hc
    obtain ⟨key, x, hkw, hx, hr⟩ := this
    have hsh := kw_of_sh hkw (by omega)
    have hfit := (wO hs hx).1
    rw [hsh] at hfit
    obtain ⟨z, hz, hu⟩ := hr.kid hfit hc
    exact ⟨z, wP hp hs.kind hx (by rw [hsh]; exact hz), hu⟩
theorem least_nat {p : Nat → Prop} (n : Nat) : p n → ∃ m, p m ∧ ∀ k, p k → m ≤ k := by
  induction n using Nat.strongRecOn with
  | _ n ih =>
    intro hn
    by_cases h : ∃ k, k < n ∧ p k
    · obtain ⟨k, hk, hp⟩ := h
      exact ih k hk hp
    · exact ⟨n, hn, fun k hk => Nat.le_of_not_lt fun hlt => h ⟨k, hlt, hk⟩⟩
structure GoodV (good : V → Prop) : Prop where
 pl : ∀ v, good v → Pl v
 shape : ∀ v, good v → IsShape v
 kid : ∀ v, good v → ∀ z ∈ kidsV v, good z
def SGood (good : V → Prop) (σ : Sig) (d : Nat) : Prop := ∃ v, good v ∧ USig σ v d
theorem tree_mu {good : V → Prop} (hg : GoodV good) (σ : Sig) : ∃ mu : Nat → Nat, ∀ d, SGood good σ d → ∃ f, σ d = some f ∧ FT f ∧ ∀ i ∈ kidIdx, ∀ c ∈ kidsAt f i, SGood good σ c ∧ mu c < mu d := by
 have hex : ∀ d, ∃ m : Nat, SGood good σ d → (∃ v, good v ∧ USig σ v d ∧ SizeOf.sizeOf v = m) ∧ ∀ v, good v → USig σ v d → m ≤ SizeOf.sizeOf v := fun d => by
  by_cases h : SGood good σ d
  ·obtain ⟨v, h1, h2⟩ := h
   obtain ⟨m, hm, hl⟩ := least_nat (p := fun m => ∃ v, good v ∧ USig σ v d ∧ SizeOf.sizeOf v = m) _ ⟨v, h1, h2, rfl⟩
   exact ⟨m, fun _ => ⟨hm, fun v h1 h2 => hl _ ⟨v, h1, h2, rfl⟩⟩⟩
  ·exact ⟨0, fun h' => absurd h' h⟩
 refine ⟨fun d => Classical.choose (hex d), fun d hd => ?_⟩
 obtain ⟨⟨v, h1, h2, h3⟩, _⟩ := Classical.choose_spec (hex d) hd
 obtain ⟨f, hf, hft⟩ := usig_ft h2
 refine ⟨f, hf, hft, fun i hi c hc => ?_⟩
 obtain ⟨z, hz, hu⟩ := usig_kid (hg.pl v h1) (hg.shape v h1) h2 hf hi hc
 have hc' : SGood good σ c := ⟨z, hg.kid v h1 z hz, hu⟩
 refine ⟨hc', ?_⟩
 have hle := (Classical.choose_spec (hex c) hc').2 z (hg.kid v h1 z hz) hu
 have hlt := vD hz
 show Classical.choose (hex c) < Classical.choose (hex d)
 omega
theorem All2.mono2 {α β : Type} {R R' : α → β → Prop} {l : List α} {l' : List β} (h : ∀ a b, a ∈ l → b ∈ l' → R a b → R' a b) (h2 : All2 R l l') : All2 R' l l' :=
 ⟨h2.1, fun i a b ha hb => h a b (List.mem_of_getElem? ha) (List.mem_of_getElem? hb) (h2.2 i a b ha hb)⟩
theorem FvRel.monoK {U U' : Nat → V → Prop} {sh : Int} {v : V} {fv : FVal} (h : ∀ c x, c ∈ fkids fv → SizeOf.sizeOf x ≤ SizeOf.sizeOf v → U c x → U' c x) (hf : FvRel U sh v fv) : FvRel U' sh v fv := by
  have hi : ∀ c x, c ∈ fkids fv → x ∈ v.items → U c x → U' c x := fun c x hc hx => h c x hc (Nat.le_of_lt (yQ hx))
  cases fv with
  | sbS b => exact ⟨hf.1, hf.2.1, h b v (by simp [fkids]) (Nat.le_refl _) hf.2.2⟩
  | itS b => exact ⟨hf.1, hf.2.1, h b v (by simp [fkids]) (Nat.le_refl _) hf.2.2⟩
  | itL bs => exact ⟨hf.1, hf.2.1, hf.2.2.mono2 hi⟩
  | named l =>
    obtain ⟨h1, ps, h2, h3⟩ := hf
    exact ⟨h1, ps, h2, h3.mono2 fun q p hq hp hr => ⟨hr.1, hi _ _ (List.mem_map.2 ⟨q, hq, rfl⟩) (List.of_mem_zip (h2.mem_iff.1 hp)).2 hr.2⟩⟩
  | list bs => exact ⟨hf.1, hf.2.mono2 hi⟩
  | one b => exact ⟨hf.1, h b v (by simp [fkids]) (Nat.le_refl _) hf.2⟩
  | text s => exact hf
  | bool x => exact hf
  | int n => exact hf
  | numI n => exact hf
  | numF n => exact hf
  | sbB x => exact hf
  | texts l => exact hf
  | deps l => exact hf
  | enums l => exact hf
  | tyS s => exact hf
  | tyL l => exact hf
  | any => exact hf
theorem fldRel_monoK {U U' : Nat → V → Prop} {v : V} {i : Nat} {f : Flds} (h1 : 1 ≤ i) (h2 : i ≤ 36) (h : ∀ c x, i ∈ kidIdx → c ∈ kidsAt f i → SizeOf.sizeOf x < SizeOf.sizeOf v → U c x → U' c x) (hf : FldRel U v i (f i)) : FldRel U' v i (f i) := by
  cases hfi : f i with
  | none => rw [hfi] at hf; exact hf
  | some fv =>
    rw [hfi] at hf
    obtain ⟨key, x, a, b, hr⟩ := hf
    exact ⟨key, x, a, b, hr.monoK fun c y hc hy hu => h c y (kid_idx h1 h2 hr hc) (by unfold kidsAt; rw [hfi]; exact hc) (Nat.lt_of_le_of_lt hy (yQ (getV_mem b))) hu⟩
theorem usig_agree {σ σ' : Sig} (v : V) : ∀ b, (∀ d, Rch σ b d → σ' d = σ d) → USig σ v b → USig σ' v b := by
 refine V.indS (p := fun v => ∀ b, (∀ d, Rch σ b d → σ' d = σ d) → USig σ v b → USig σ' v b) (fun v IH b hr hu => ?_) v
 obtain ⟨f, hf, hU⟩ := (sU _ _ _).1 hu
 exact (sU _ _ _).2 ⟨f, (hr b (.refl b)).trans hf, fun i hi hj => fldRel_monoK hi hj (fun c x hik hc hx huc => IH x hx c (fun d hd => hr d (.step hf hik hc hd)) huc) (hU i hi hj)⟩
theorem rch_agree' {σ σ' : Sig} {b d : Nat} (h : Rch σ' b d) : (∀ d, Rch σ b d → σ' d = σ d) → Rch σ b d := by
  induction h with
  | refl b => exact fun _ => .refl b
  | step h hi hc r ih =>
    intro hr
    have h' := h
    rw [hr _ (.refl _)] at h'
    exact .step h' hi hc (ih fun d hd => hr d (.step h' hi hc hd))
theorem Rch.trans {σ : Sig} {a b d : Nat} (h : Rch σ a b) (k : Rch σ b d) : Rch σ a d := by
  induction h with
  | refl b => exact k
  | step h hi hc r ih => exact .step h hi hc (ih k)

def setL (l : Prs) (out : V) : V := l.foldl (fun o p => withV o p.1 p.2) out
def mergeV (own out : V) : V := setL (own.keys.zip own.items) out
theorem setL_get {l : Prs} {out : V} (h : out.keys.length ≤ out.items.length) (hn : (l.map (·.1)).Nodup) (key : ByteArray) : getV (setL l out) key = (lk l key).or (getV out key) := by
  induction l generalizing out with
  | nil => simp [setL, lk_nil]
  | cons p l ih =>
    rw [List.map_cons, List.nodup_cons] at hn
    show getV (setL l (withV out p.1 p.2)) key = _
    rw [ih (with_le _ _ _) hn.2, get_with h, tL]
    by_cases hk : key = p.1
    · subst hk
      have : lk l p.1 = none := by
        cases hl : lk l p.1 with
        | none => rfl
        | some x => exact absurd (List.mem_map.2 ⟨_, lk_mem hl, rfl⟩) hn.1
      rw [if_pos rfl, if_pos rfl, this]
      rfl
    · rw [if_neg hk, if_neg (Ne.symm hk)]
theorem zip_fst_sub (ks : List ByteArray) (ts : List V) : List.Sublist ((ks.zip ts).map (·.1)) ks := by
  induction ks generalizing ts with
  | nil => exact List.Sublist.refl _
  | cons k ks ih => cases ts with
    | nil => exact List.nil_sublist _
    | cons t ts => exact (ih ts).cons_cons k
theorem map_fst_zip' {ks : List ByteArray} {ts : List V} (h : ks.Nodup) : ((ks.zip ts).map (·.1)).Nodup := h.sublist (zip_fst_sub ks ts)
theorem merge_get {own out : V} (ho : own.keys.Nodup) (hl : own.keys.length ≤ own.items.length) (h : out.keys.length ≤ out.items.length) (key : ByteArray) : getV (mergeV own out) key = (getV own key).or (getV out key) := by
 rw [mergeV, setL_get h (map_fst_zip' ho), ← getV_lk hl]
theorem setL_kind {l : Prs} {out : V} (h : out.kind = 5) : (setL l out).kind = 5 := by
  induction l generalizing out with
  | nil => exact h
  | cons p l ih => exact ih rfl
theorem setL_mem {l : Prs} {out : V} {q : ByteArray × V} (h : q ∈ (setL l out).keys.zip (setL l out).items) : q ∈ l ∨ q ∈ out.keys.zip out.items := by
  induction l generalizing out with
  | nil => exact .inr h
  | cons p l ih =>
    rcases ih (out := withV out p.1 p.2) h with e | e
    · exact .inl (List.mem_cons_of_mem _ e)
    · rw [withV, mkM_zip] at e
      rcases with_mem e with e | e
      · exact .inl (by rw [e]; exact List.mem_cons_self)
      · exact .inr e

def cpyL : List Nat := [1, 2, 6, 7, 8, 9, 10, 11, 12, 13, 14, 15, 16, 17, 18, 19, 20, 21, 22, 23, 24, 25, 26, 27, 28, 29, 30, 31, 32, 33, 34, 35, 36, 3]
def cpy (f s : Flds) : Flds := fun i => if i ∈ cpyL then (s i).or (f i) else f i
theorem cpyL_all : ∀ i : Fin 37, i.1 ∈ cpyL ∨ i.1 = 0 ∨ i.1 = 4 ∨ i.1 = 5 := by decide
theorem kw45 (key : ByteArray) : kwIdx key ≠ 4 ∧ kwIdx key ≠ 5 := by
 rcases kw_case (key := key) with ⟨_, hm⟩ | h0
 ·constructor <;> intro h <;> rw [h] at hm <;> revert hm <;> decide
 ·rw [h0]; decide
theorem fld45 {U : Nat → V → Prop} {v : V} {i : Nat} {o : Option FVal} (h : FldRel U v i o) (hi : i = 4 ∨ i = 5) : o = none := by
  cases o with
  | none => rfl
  | some fv =>
    obtain ⟨key, x, hk, _⟩ := h
    have := kw45 key
    rcases hi with rfl | rfl
    · exact absurd hk this.1
    · exact absurd hk this.2
theorem fld_merge {U : Nat → V → Prop} {own out : V} {i : Nat} {s f : Option FVal} (hget : ∀ key, getV (mergeV own out) key = (getV own key).or (getV out key)) (hs : FldRel U own i s) (hf : FldRel U out i f) : FldRel U (mergeV own out) i (s.or f) := by
  cases s with
  | some fv =>
    obtain ⟨key, x, h1, h2, h3⟩ := hs
    exact ⟨key, x, h1, by rw [hget, h2]; rfl, h3⟩
  | none =>
    cases f with
    | none => intro key hk; rw [hget, hs key hk, hf key hk]; rfl
    | some fv =>
      obtain ⟨key, x, h1, h2, h3⟩ := hf
      exact ⟨key, x, h1, by rw [hget, hs key h1, h2]; rfl, h3⟩
theorem fld_cpy {U : Nat → V → Prop} {own out : V} {i : Nat} {s f : Flds} (h1 : 1 ≤ i) (h2 : i ≤ 36) (hget : ∀ key, getV (mergeV own out) key = (getV own key).or (getV out key)) (hs : FldRel U own i (s i)) (hf : FldRel U out i (f i)) : FldRel U (mergeV own out) i (cpy f s i) := by
 unfold cpy
 split
 ·exact fld_merge hget hs hf
 ·rename_i hn
  have h45 : i = 4 ∨ i = 5 := by
   rcases cpyL_all ⟨i, by omega⟩ with h | h | h
   ·exact absurd h hn
   ·simp only at h; omega
   ·exact h
  rw [fld45 hf h45]
  have := fld_merge hget hs hf
  rw [fld45 hf h45, fld45 hs h45] at this
  exact this
theorem c74 (b s mb mb2 : Nat) (cs cs2 : List Value) (f f2 : Flds) : Ct Tryz.prog 74 #[ptr b, ptr s] [.blk b cs 124, .blk s cs2 124] [.flds mb cs f, .flds mb2 cs2 f2] (fun u M' D' => u = .tuple #[] ∧ ∃ cs', M' = [.blk b cs' 124, .blk s cs2 124] ∧ D' = [.flds mb cs' (cpy f f2)]) := by
 refine Ct.of_run (args := [ptr b, ptr s]) Tryz.func74 (by kernel_rfl) rfl Tryz.ntmps74 rfl (fun c => ?_)
 refine xA (yY 4 1 111 (by decide) (by decide) (by decide) (by decide) sc111 fo124_1 pn111 si111 (fun cs41 => ?_))
 refine xA (yY 16 2 111 (by decide) (by decide) (by decide) (by decide) sc111 fo124_2 pn111 si111 (fun cs42 => ?_))
 refine xA (yY 28 6 113 (by decide) (by decide) (by decide) (by decide) sc113 fo124_6 pn113 si113 (fun cs46 => ?_))
 refine xA (yY 40 7 113 (by decide) (by decide) (by decide) (by decide) sc113 fo124_7 pn113 si113 (fun cs47 => ?_))
 refine xA (yY 52 8 112 (by decide) (by decide) (by decide) (by decide) sc112 fo124_8 pn112 si112 (fun cs48 => ?_))
 refine xA (yY 64 9 113 (by decide) (by decide) (by decide) (by decide) sc113 fo124_9 pn113 si113 (fun cs49 => ?_))
 refine xA (yY 76 10 112 (by decide) (by decide) (by decide) (by decide) sc112 fo124_10 pn112 si112 (fun cs50 => ?_))
 refine xA (yY 88 11 114 (by decide) (by decide) (by decide) (by decide) sc114 fo124_11 pn114 si114 (fun cs51 => ?_))
 refine xA (yY 100 12 114 (by decide) (by decide) (by decide) (by decide) sc114 fo124_12 pn114 si114 (fun cs52 => ?_))
 refine xA (yY 112 13 111 (by decide) (by decide) (by decide) (by decide) sc111 fo124_13 pn111 si111 (fun cs53 => ?_))
 refine xA (yY 124 14 115 (by decide) (by decide) (by decide) (by decide) sc115 pC pn115 si115 (fun cs54 => ?_))
 refine xA (yY 136 15 116 (by decide) (by decide) (by decide) (by decide) sc116 sM pn116 si116 (fun cs55 => ?_))
 refine xA (yY 148 16 114 (by decide) (by decide) (by decide) (by decide) sc114 fo124_16 pn114 si114 (fun cs56 => ?_))
 refine xA (yY 160 17 114 (by decide) (by decide) (by decide) (by decide) sc114 fo124_17 pn114 si114 (fun cs57 => ?_))
 refine xA (yY 172 18 112 (by decide) (by decide) (by decide) (by decide) sc112 fo124_18 pn112 si112 (fun cs58 => ?_))
 refine xA (yY 184 19 114 (by decide) (by decide) (by decide) (by decide) sc114 fo124_19 pn114 si114 (fun cs59 => ?_))
 refine xA (yY 196 20 114 (by decide) (by decide) (by decide) (by decide) sc114 fo124_20 pn114 si114 (fun cs60 => ?_))
 refine xA (yY 208 21 117 (by decide) (by decide) (by decide) (by decide) sc117 fo124_21 pn117 si117 (fun cs61 => ?_))
 refine xA (yY 220 22 115 (by decide) (by decide) (by decide) (by decide) sc115 pD pn115 si115 (fun cs62 => ?_))
 refine xA (yY 232 23 118 (by decide) (by decide) (by decide) (by decide) sc118 pE pn118 si118 (fun cs63 => ?_))
 refine xA (yY 244 24 118 (by decide) (by decide) (by decide) (by decide) sc118 pF pn118 si118 (fun cs64 => ?_))
 refine xA (yY 256 25 119 (by decide) (by decide) (by decide) (by decide) sc119 pG pn119 si119 (fun cs65 => ?_))
 refine xA (yY 268 26 120 (by decide) (by decide) (by decide) (by decide) sc120 fo124_26 pn120 si120 (fun cs66 => ?_))
 refine xA (yY 280 27 121 (by decide) (by decide) (by decide) (by decide) sc121 fo124_27 pn121 si121 (fun cs67 => ?_))
 refine xA (yY 292 28 122 (by decide) (by decide) (by decide) (by decide) sc122 sN pn122 si122 (fun cs68 => ?_))
 refine xA (yY 304 29 122 (by decide) (by decide) (by decide) (by decide) sc122 pH pn122 si122 (fun cs69 => ?_))
 refine xA (yY 316 30 122 (by decide) (by decide) (by decide) (by decide) sc122 pI pn122 si122 (fun cs70 => ?_))
 refine xA (yY 328 31 63 (by decide) (by decide) (by decide) (by decide) sc63 pJ pn63 si63 (fun cs71 => ?_))
 refine xA (yY 340 32 118 (by decide) (by decide) (by decide) (by decide) sc118 pK pn118 si118 (fun cs72 => ?_))
 refine xA (yY 352 33 111 (by decide) (by decide) (by decide) (by decide) sc111 fo124_33 pn111 si111 (fun cs73 => ?_))
 refine xA (yY 364 34 111 (by decide) (by decide) (by decide) (by decide) sc111 fo124_34 pn111 si111 (fun cs74 => ?_))
 refine xA (yY 376 35 102 (by decide) (by decide) (by decide) (by decide) sc102 fo124_35 pn102 si102 (fun cs75 => ?_))
 refine xA (yY 388 36 111 (by decide) (by decide) (by decide) (by decide) sc111 fo124_36 pn111 si111 (fun cs76 => ?_))
 refine yY 400 3 111 (by decide) (by decide) (by decide) (by decide) sc111 fo124_3 pn111 si111 (fun cs43 => ?_)
 refine sS Tryz.results74 ⟨rfl, _, rfl, ?_⟩ (List.Sublist.refl _) (D' := [.flds mb _ (cpyL.foldl (fun g q => stepF q g f2) f)]) (fun d hd => by rw [List.mem_singleton.1 hd]; exact List.mem_cons_self)
 rw [steps_eq cpyL (by decide) f f2]
 rfl
def Sch (v : V) : Prop := Pl v ∧ IsShape v
theorem qI : GoodV Sch := ⟨fun v h => h.1, fun v h => h.2, fun v h z hz => ⟨kid_pl h.1 hz, rA h.1 h.2 hz⟩⟩
def R109 (k : ByteArray) (t : V) (bo nk n : Nat) (xk : List Value) (ts : List V) (u : Value) (M' : List HA) (D' : List DA) : Prop :=
 u = .tuple #[] ∧ ∃ Ak ck A ca xs, M' = [.row Ak (nk + 1) ck 9 1 (xk ++ [.string k]), .row A (n + 1) ca 25 5 xs, .blk bo [.int .i64 5, .int .i64 0, .string ⟨#[]⟩, .slice Ak (nk + 1) ck, .slice A (n + 1) ca] 25] ∧ D' = [.its xs (ts ++ [t])]
def restL (key : ByteArray) (own : V) (done : Bool) (l : Prs) : Prs := if done then l.filter (fun q => !decide (q.1 = key)) else withL key own l
def WAt (key : ByteArray) (own : V) (l : Prs) (i : Nat) (done : Bool) (nk : Nat) (xk : List Value) (ts : List V) : Prop :=
 i ≤ l.length ∧ ∃ acc : Prs, nk = acc.length ∧ xk = acc.map (fun p => Value.string p.1) ∧ ts = acc.map (fun p => p.2) ∧ acc ++ restL key own done (l.drop i) = withL key own l ∧ acc.length ≤ i + 1 ∧ (done = false → acc.length ≤ i)
section
variable {key k : ByteArray} {own x : V} {l : Prs} {i nk : Nat} {xk : List Value} {ts : List V}
theorem WAt.zero (key : ByteArray) (own : V) (l : Prs) : WAt key own l 0 false 0 [] [] := ⟨Nat.zero_le _, [], rfl, rfl, rfl, rfl, Nat.zero_le _, fun _ => Nat.le_refl _⟩
theorem drop_at {l : Prs} {i : Nat} {p : ByteArray × V} (h : l[i]? = some p) : l.drop i = p :: l.drop (i + 1) := by
 obtain ⟨hi, he⟩ := List.getElem?_eq_some_iff.1 h
 rw [← he, List.drop_eq_getElem_cons hi]
theorem at_lt {l : Prs} {i : Nat} {p : ByteArray × V} (h : l[i]? = some p) : i < l.length := (List.getElem?_eq_some_iff.1 h).1
theorem rest_t {p : ByteArray × V} {r : Prs} (h : p.1 ≠ key) : restL key own true (p :: r) = p :: restL key own true r := by
 simp [restL, h]
theorem rest_e {p : ByteArray × V} {r : Prs} (h : p.1 = key) : restL key own true (p :: r) = restL key own true r := by
 simp [restL, h]
theorem rest_g {p : ByteArray × V} {r : Prs} (h : Op.bytesLess p.1.toList key.toList = false) : restL key own false (p :: r) = (key, own) :: restL key own true (p :: r) := by
 show withL key own (p :: r) = _
 rw [withL, if_pos h]; rfl
theorem rest_l {p : ByteArray × V} {r : Prs} (h : ¬ Op.bytesLess p.1.toList key.toList = false) : restL key own false (p :: r) = p :: restL key own false r := by
 show withL key own (p :: r) = _
 rw [withL, if_neg h]; rfl
theorem WAt.s1 (h : WAt key own l i true nk xk ts) (hp : l[i]? = some (k, x)) (hk : k ≠ key) : WAt key own l (i + 1) true (nk + 1) (xk ++ [.string k]) (ts ++ [x]) := by
 obtain ⟨h0, acc, h1, h2, h3, h4, h5⟩ := h
 rw [drop_at hp, rest_t hk] at h4
 exact ⟨at_lt hp, acc ++ [(k, x)], by simp [h1], by simp [h2], by simp [h3], by rw [← h4]; simp, by simp; omega, fun h => by cases h⟩
theorem WAt.s2 (h : WAt key own l i true nk xk ts) (hp : l[i]? = some (k, x)) (hk : k = key) : WAt key own l (i + 1) true nk xk ts := by
 obtain ⟨h0, acc, h1, h2, h3, h4, h5⟩ := h
 rw [drop_at hp, rest_e hk] at h4
 exact ⟨at_lt hp, acc, h1, h2, h3, h4, by omega, fun h => by cases h⟩
theorem WAt.len {done : Bool} (h : WAt key own l i done nk xk ts) : nk ≤ i + 1 := by
 obtain ⟨h0, acc, h1, h2, h3, h4, h5⟩ := h
 omega
theorem WAt.s3 (h : WAt key own l i false nk xk ts) (hp : l[i]? = some (k, x)) (hl : Op.bytesLess k.toList key.toList = false) (hk : k ≠ key) : WAt key own l (i + 1) true (nk + 1 + 1) (xk ++ [.string key] ++ [.string k]) (ts ++ [own] ++ [x]) := by
 obtain ⟨h0, acc, h1, h2, h3, h4, h5, h6⟩ := h
 rw [drop_at hp, rest_g hl, rest_t hk] at h4
 have := h6 rfl
 exact ⟨at_lt hp, acc ++ [(key, own)] ++ [(k, x)], by simp [h1], by simp [h2], by simp [h3], by rw [← h4]; simp, by simp; omega, fun h => by cases h⟩
theorem WAt.s4 (h : WAt key own l i false nk xk ts) (hp : l[i]? = some (k, x)) (hl : Op.bytesLess k.toList key.toList = false) (hk : k = key) : WAt key own l (i + 1) true (nk + 1) (xk ++ [.string key]) (ts ++ [own]) := by
 obtain ⟨h0, acc, h1, h2, h3, h4, h5, h6⟩ := h
 rw [drop_at hp, rest_g hl, rest_e hk] at h4
 have := h6 rfl
 exact ⟨at_lt hp, acc ++ [(key, own)], by simp [h1], by simp [h2], by simp [h3], by rw [← h4]; simp, by simp; omega, fun h => by cases h⟩
theorem WAt.s5 (h : WAt key own l i false nk xk ts) (hp : l[i]? = some (k, x)) (hl : ¬ Op.bytesLess k.toList key.toList = false) : WAt key own l (i + 1) false (nk + 1) (xk ++ [.string k]) (ts ++ [x]) := by
 obtain ⟨h0, acc, h1, h2, h3, h4, h5, h6⟩ := h
 rw [drop_at hp, rest_l hl] at h4
 have := h6 rfl
 exact ⟨at_lt hp, acc ++ [(k, x)], by simp [h1], by simp [h2], by simp [h3], by rw [← h4]; simp, by simp; omega, fun _ => by simp; omega⟩
theorem WAt.endT (h : WAt key own l l.length true nk xk ts) : nk = ((withL key own l).map (fun p => p.2)).length ∧ xk = (withL key own l).map (fun p => Value.string p.1) ∧ ts = (withL key own l).map (fun p => p.2) := by
 obtain ⟨h0, acc, h1, h2, h3, h4, h5, h6⟩ := h
 rw [List.drop_length] at h4
 have e : acc = withL key own l := by rw [← h4]; exact (List.append_nil acc).symm
 subst e
 exact ⟨by rw [List.length_map]; exact h1, h2, h3⟩
theorem WAt.endF (h : WAt key own l l.length false nk xk ts) : nk + 1 = ((withL key own l).map (fun p => p.2)).length ∧ xk ++ [.string key] = (withL key own l).map (fun p => Value.string p.1) ∧ ts ++ [own] = (withL key own l).map (fun p => p.2) := by
 obtain ⟨h0, acc, h1, h2, h3, h4, h5, h6⟩ := h
 rw [List.drop_length] at h4
 have e : acc ++ [(key, own)] = withL key own l := h4
 rw [← e]
 exact ⟨by simp [h1], by simp [h2], by simp [h3]⟩
theorem with_sizes {own : V} (hk : key.size ≤ maxLen) (hl : ∀ p ∈ l, p.1.size ≤ maxLen) : ∀ s ∈ (withL key own l).map (fun p => p.1), s.size ≤ maxLen := by
 intro s hs
 obtain ⟨p, hp, rfl⟩ := List.mem_map.1 hs
 rcases with_mem hp with e | e
 ·rw [e]; exact hk
 ·exact hl p e
end

theorem c109 (k : ByteArray) (x : Value) (t : V) (bo : Nat) (Ak A : Option Addr) (nk ck n ca : Nat) (xk xs : List Value) (ts : List V) (h1 : nk ≤ 2000000) (h2 : n ≤ 2000000) : Ct Tryz.prog 109 #[.string k, x, ptr bo] [.row Ak nk ck 9 1 xk, .row A n ca 25 5 xs, .blk bo [.int .i64 5, .int .i64 0, .string ⟨#[]⟩, .slice Ak nk ck, .slice A n ca] 25] [.val x t, .its xs ts] (R109 k t bo nk n xk ts) := by
 refine Ct.of_run (args := [.string k, x, ptr bo]) Tryz.func109 (by kernel_rfl) rfl Tryz.ntmps109 rfl (fun c => ?_)
 refine yW 0 rfl (fun A1 c1 A2 c2 hx hsz hk1 hk2 hi1 hi2 => ?_)
 subst hx
 refine rO 3 rfl (yN rfl rfl rfl (fun b4 => ?_))
 refine oO 4 rfl (zB xB rfl rfl ?_)
 refine zA (zH 3 sc22 rfl rfl rfl rfl ?_)
 refine oO 3 rfl (zK sl22 rfl rfl rfl rfl rfl (fun b8 => ?_))
 refine zA ?_
 refine op_apd 2 0 sl22 (fun A9 c9 => ?_)
 refine zA (zB xB rfl rfl ?_)
 refine zA (zF 4 (M' := [_, _, _, _, HA.blk _ [_, _, _, _, _] _]) rfl rfl rfl rfl si22 rfl rfl rfl ?_)
 refine zZ (yT yE ?_)
 refine zS (tP 0 rfl wanted0 (zU yO rfl) ?_)
 refine yA (tM 1 rfl wanted0 (yP 4 sc23 rfl rfl rfl) ?_)
 refine tM 2 rfl wanted0 (wZ 1 rfl ag25 rfl) (tM 3 rfl wanted0 (st_lenSl sl23 rfl) ?_)
 refine zI 4 (by decide +kernel) ?_
 refine zL (I2 := [[3, 2, 1], [0], []]) rfl wanted0 (by decide +kernel) (fun Kd hKd => ?_)
 refine zK sl23 rfl rfl rfl rfl rfl (fun b15 => ?_)
 refine hKd _ _ _ (hC (hC (zD (zM)))) (zI 5 (by decide +kernel) ?_)
 refine zL (I2 := [[], [], []]) rfl wanted0 (by decide +kernel) (fun Kd hKd => ?_)
 refine op_apd 4 0 sl23 (fun A16 c16 => ?_)
 refine hKd _ _ _ (zD (zD (zD (zM)))) (zS ?_)
 refine tP 8 rfl wanted0 (zU yO rfl) (any_grpG (zC 4 rfl (yC _)) ?_)
 refine uM (zC 4 rfl (yC _)) 6 (xC _ _ _ _) rfl wanted0 (by decide +kernel) (by decide +kernel) (by decide +kernel) rfl (st_idxRowL 0 sl23 rfl rfl rfl (by omega)) (tH (rs := [7, 9]) (by decide +kernel) (by simp) ?_)
 intro j hj
 simp only [List.mem_cons, List.not_mem_nil, or_false] at hj
 rcases hj with rfl | rfl
 ·refine zL (I2 := [[], [8], [], [], []]) rfl wanted0 (by decide +kernel) (fun Kd hKd => ?_)
  refine qV 4 rfl rfl rfl rfl rfl rfl si25 rfl (hKd _ _ _ (zD (hC (zD (zD (zD (zM)))))) ?_)
  refine zI 9 (by decide +kernel) ?_
  refine zL (I2 := [[], [], [], [], []]) rfl wanted0 (by decide +kernel) (fun Kd hKd => ?_)
  refine zF 5 (M' := [_, _, _, _, _, HA.blk _ [_, _, _, _, _] _]) rfl rfl rfl rfl si23 rfl rfl rfl (hKd _ _ _ (zD (zD (zD (zD (zD (zM)))))) ?_)
  refine yD (by decide +kernel) (rK 0 [] rfl rfl ?_)
  refine wB 3 2 rfl rfl rfl ?_
  exact sS Tryz.results109 ⟨rfl, _, _, _, _, _, rfl, rfl⟩ (by repeat (first | exact List.Sublist.refl _ | apply List.Sublist.cons)) (sub1 0 rfl)
 refine zL (I2 := [[6], [], [], [], []]) rfl wanted0 (by decide +kernel) (fun Kd hKd => ?_)
 refine zF 5 (M' := [_, _, _, _, _, HA.blk _ [_, _, _, _, _] _]) rfl rfl rfl rfl si23 rfl rfl rfl ?_
 refine hKd _ _ _ (vX sK sQ (zD (zD (zD (zD (zM)))))) ?_
 refine zI 7 (by decide +kernel) ?_
 refine zL (I2 := [[], [], [], [], []]) rfl wanted0 (by decide +kernel) (fun Kd hKd => ?_)
 refine qV 4 rfl rfl rfl rfl rfl rfl si25 rfl (hKd _ _ _ (zD (zD (zD (zD (zD (zM)))))) ?_)
 refine yD (by decide +kernel) (rK 0 [] rfl rfl ?_)
 refine wB 3 2 rfl rfl rfl ?_
 exact sS Tryz.results109 ⟨rfl, _, _, _, _, _, rfl, rfl⟩ (by repeat (first | exact List.Sublist.refl _ | apply List.Sublist.cons)) (sub1 0 rfl)
theorem c64 (v own : V) (key : ByteArray) (x y : Value) (hkl : v.keys.length ≤ 1000000) (hl : v.keys.length ≤ v.items.length) (hks : key.size ≤ maxLen) : CtR Tryz.prog 64 #[x, .string key, y] [.val x v, .val y own] (RV (withV v key own)) := by
 refine Ct.of_run (args := [x, .string key, y]) Tryz.func64 (by kernel_rfl) rfl Tryz.ntmps64 rfl (fun c => ?_)
 refine yW 0 rfl (fun A1 c1 A2 c2 hx hsz1 hk1 hk2 hi1 hi2 => ?_)
 subst hx
 refine yW 3 rfl (fun A3 c3 A4 c4 hx hsz3 hk3 hk4 hi3 hi4 => ?_)
 subst hx
 refine vY 2 rfl (fun hksz => ?_)
 have hzl : (v.keys.zip v.items).length = v.keys.length := by rw [List.length_zip]; omega
 refine rO 3 rfl (yN rfl rfl rfl (fun b3 => ?_))
 refine zA (yN rfl rfl rfl (fun b5 => ?_))
 refine zA (zR ze25 rfl (fun b6 => ?_))
 change RunOps _ _ _ _ _ _ _ _ (HA.blk _ [_, _, _, _, _] _ :: _) _
 refine oO 4 rfl (yS rfl rfl (bu25_0 ..) ?_)
 refine zA (zR ze25 rfl (fun b7 => ?_))
 change RunOps _ _ _ _ _ _ _ _ (HA.blk _ [_, _, _, _, _] _ :: _) _
 refine zA (zF 0 (M' := [HA.blk _ [_, _, _, _, _] _, _, _, _]) rfl rfl rfl rfl si25 rfl rfl rfl ?_)
 refine oO 6 rfl (rI rfl rfl rfl ?_)
 refine oO 7 rfl (zB xB rfl rfl ?_)
 refine zA (zH 3 sc22 rfl rfl rfl rfl ?_)
 refine zA (zX sl22 rfl rfl ?_)
 refine oK 3 [17, 16, 15, 9, 8, 7, 6, 5, 3, 1] rfl rfl (rK 1 [17, 8, 16, 15, 9, 7, 6, 5, 3, 1] rfl rfl ?_)
 refine xN 25 5 (xN 9 1 ?_)
 refine uY (yH 2 (fun (⟨i, done, nk, Ak, ck, xk, A, ca, xs, ts⟩ : Nat × Bool × Nat × Option Addr × Nat × List Value × Option Addr × Nat × List Value × List V) => WAt key own (v.keys.zip v.items) i done nk xk ts) (fun (⟨i, done, nk, Ak, ck, xk, A, ca, xs, ts⟩ : Nat × Bool × Nat × Option Addr × Nat × List Value × Option Addr × Nat × List Value × List V) => [(17, .int .i64 ((i : Nat) : Int)), (8, .bool done)]) (fun (⟨i, done, nk, Ak, ck, xk, A, ca, xs, ts⟩ : Nat × Bool × Nat × Option Addr × Nat × List Value × Option Addr × Nat × List Value × List V) => HA.row Ak nk ck 9 1 xk :: HA.row A nk ca 25 5 xs :: HA.blk b7 [.int .i64 5, .int .i64 0, .string ⟨#[]⟩, .slice Ak nk ck, .slice A nk ca] 25 :: HA.blk b6 [.int .i64 0, .int .i64 0, .string ⟨#[]⟩, .slice none 0 0, .slice none 0 0] 25 :: HA.blk b5 [.int .i64 own.kind, .int .i64 own.num, .string own.text, .slice A3 own.keys.length c3, .slice A4 own.items.length c4] 25 :: HA.blk b3 [.int .i64 v.kind, .int .i64 v.num, .string v.text, .slice A1 v.keys.length c1, .slice A2 v.items.length c2] 25 :: []) (fun (⟨i, done, nk, Ak, ck, xk, A, ca, xs, ts⟩ : Nat × Bool × Nat × Option Addr × Nat × List Value × Option Addr × Nat × List Value × List V) => .its xs ts :: .strs (.slice A3 own.keys.length c3) own.keys :: .vals (.slice A4 own.items.length c4) own.items :: .strs (.slice A1 v.keys.length c1) v.keys :: .vals (.slice A2 v.items.length c2) v.items :: .val (.agg #[.int .i64 v.kind, .int .i64 v.num, .string v.text, .slice A1 v.keys.length c1, .slice A2 v.items.length c2]) v :: .val (.agg #[.int .i64 own.kind, .int .i64 own.num, .string own.text, .slice A3 own.keys.length c3, .slice A4 own.items.length c4]) own :: []) (fun (⟨i, done, nk, Ak, ck, xk, A, ca, xs, ts⟩ : Nat × Bool × Nat × Option Addr × Nat × List Value × Option Addr × Nat × List Value × List V) => v.keys.length - i) (0, false, 0, none, 0, [], none, 0, [], []) (WAt.zero _ _ _) (eC rfl (eC rfl (eN _))) rfl rfl ?_ (eC rfl (eC rfl (eC rfl (eC rfl (eC rfl (eC rfl (eC rfl (eC rfl (eN _))))))))))
 intro ⟨i, done, nk, Ak, ck, xk, A, ca, xs, ts⟩ hI K hK
 replace hI : WAt key own (v.keys.zip v.items) i done nk xk ts := hI
 change Run _ _ _ _ _ [(17, _), (8, _), (16, _), (15, _), (9, _), (7, _), (6, _), (5, _), (3, _), (1, _)] [_, _, _, _, _, _] [_, _, _, _, _, _, _]
 replace hI : WAt key own (v.keys.zip v.items) i done nk xk ts := hI
 have hi : i ≤ v.keys.length := hzl ▸ hI.1
 refine rO 3 rfl (yM rfl rfl rfl ?_)
 refine oR 2 rfl (zO rfl (fun h18 => ?_) (fun h18 => ?_))
 ·refine rO 8 rfl (wM 3 sl22 rfl rfl rfl rfl h18 ?_)
  have hlt : i < v.items.length := by omega
  have hp : (v.keys.zip v.items)[i]? = some (v.keys[i], v.items[i]) := by rw [List.getElem?_zip_eq_some]; exact ⟨List.getElem?_eq_getElem h18, List.getElem?_eq_getElem hlt⟩
  have hlen := hI.len
  refine zA (yJ sc9 rfl rfl (fun _ h => wE h (j := 3) rfl (List.getElem?_eq_getElem h18)) ?_)
  refine oK 5 [11, 10, 17, 8, 16, 15, 9, 7, 6, 5, 3, 1] rfl rfl (rS 9 rfl ?_)
  refine yU (s := 24) rfl (fun h24 => ?_) (fun h24 => ?_)
  ·have hdf : done = false := by simpa using h24
   subst hdf
   refine oO 5 rfl (op_sgeq rfl rfl rfl ?_)
   refine oK 3 [28, 11, 10, 17, 8, 16, 15, 9, 7, 6, 5, 3, 1] rfl rfl (yF rfl (fun h28 => ?_) (fun h28 => ?_))
   ·refine rO 7 rfl (zQ 4 rfl ag25 rfl rfl ?_)
    refine zA ?_
    refine vP (M1 := [_, _, _]) (M2 := _) rfl rfl rfl (c109 key _ own b7 _ _ _ _ _ _ _ _ _ (by omega) (by omega)) rfl (sub2 6 0 rfl rfl) (fun u32 M32 D32 hv32 => ?_)
    obtain ⟨rfl, Ak32, ck32, A32, ca32, xs32, rfl, rfl⟩ := hv32
    refine oK 1 [11, 10, 17, 16, 15, 9, 7, 6, 5, 3, 1] rfl rfl (rO 11 rfl ?_)
    refine op_sneq rfl rfl rfl (oK 1 [35, 8, 11, 10, 17, 16, 15, 9, 7, 6, 5, 3, 1] rfl rfl ?_)
    refine zO rfl (fun h35 => ?_) (fun h35 => ?_)
    ·refine rO 6 rfl (zB yO rfl rfl ?_)
     refine zA (zH 5 sc23 rfl rfl rfl rfl ?_)
     refine oO 3 rfl (xV 5 sl23 rfl rfl rfl rfl hlt ?_)
     refine zA (xQ 5 ag25 rfl rfl rfl (List.getElem?_eq_getElem hlt) (fun A42 c42 B42 d42 => ?_))
     refine zA ?_
     refine vP (M1 := [_, _, _]) (M2 := _) rfl rfl rfl (c109 _ _ (v.items[i]'hlt) b7 _ _ _ _ _ _ _ _ _ (by omega) (by omega)) rfl (sub2 0 1 rfl rfl) (fun u43 M43 D43 hv43 => ?_)
     obtain ⟨rfl, Ak43, ck43, A43, ca43, xs43, rfl, rfl⟩ := hv43
     refine oK 1 [8, 17, 16, 15, 9, 7, 6, 5, 3, 1] rfl rfl (rO 3 rfl ?_)
     refine yB rfl rfl (by omega) (oR 3 rfl ?_)
     exact kQ (hK (i + 1, true, _, _, _, _, _, _, _, _) (hI.s3 hp (by simpa using h28) (by simpa using h35)) (by show v.keys.length - (i + 1) < v.keys.length - i; omega)) (eC rfl (eC rfl (eC rfl (eC rfl (eC rfl (eC rfl (eC rfl (eC rfl (eC rfl (eC rfl (eN _))))))))))) (hD := (subc 0 rfl sQ))
    refine rO 4 rfl (yB rfl rfl (by omega) ?_)
    refine oR 3 rfl ?_
    exact kQ (hK (i + 1, true, _, _, _, _, _, _, _, _) (hI.s4 hp (by simpa using h28) (by simpa using h35)) (by show v.keys.length - (i + 1) < v.keys.length - i; omega)) (eC rfl (eC rfl (eC rfl (eC rfl (eC rfl (eC rfl (eC rfl (eC rfl (eC rfl (eC rfl (eN _))))))))))) (hD := (subc 0 rfl sQ))
   refine rO 8 rfl (op_sneq rfl rfl rfl ?_)
   refine oK 1 [35, 11, 10, 17, 8, 16, 15, 9, 7, 6, 5, 3, 1] rfl rfl (zO rfl (fun h35 => ?_) (fun h35 => ?_))
   ·refine rO 6 rfl (zB yO rfl rfl ?_)
    refine zA (zH 5 sc23 rfl rfl rfl rfl ?_)
    refine oO 3 rfl (xV 4 sl23 rfl rfl rfl rfl hlt ?_)
    refine zA (xQ 4 ag25 rfl rfl rfl (List.getElem?_eq_getElem hlt) (fun A42 c42 B42 d42 => ?_))
    refine zA ?_
    refine vP (M1 := [_, _, _]) (M2 := _) rfl rfl rfl (c109 _ _ (v.items[i]'hlt) b7 _ _ _ _ _ _ _ _ _ (by omega) (by omega)) rfl (sub2 0 1 rfl rfl) (fun u43 M43 D43 hv43 => ?_)
    obtain ⟨rfl, Ak43, ck43, A43, ca43, xs43, rfl, rfl⟩ := hv43
    refine oK 1 [17, 8, 16, 15, 9, 7, 6, 5, 3, 1] rfl rfl (rO 3 rfl ?_)
    refine yB rfl rfl (by omega) (oR 3 rfl ?_)
    exact kQ (hK (i + 1, false, _, _, _, _, _, _, _, _) (hI.s5 hp (by simpa using h28)) (by show v.keys.length - (i + 1) < v.keys.length - i; omega)) (eC rfl (eC rfl (eC rfl (eC rfl (eC rfl (eC rfl (eC rfl (eC rfl (eC rfl (eC rfl (eN _))))))))))) (hD := (subc 0 rfl sQ))
   refine rO 4 rfl (yB rfl rfl (by omega) ?_)
   refine oR 3 rfl ?_
   exact kQ (hK (i + 1, false, _, _, _, _, _, _, _, _) (absurd (by rw [show v.keys[i] = key from by simpa using h35]; exact bl_irr key) (by simpa using h28 : ¬ Op.bytesLess v.keys[i].toList key.toList = false)) (by show v.keys.length - (i + 1) < v.keys.length - i; omega)) (eC rfl (eC rfl (eC rfl (eC rfl (eC rfl (eC rfl (eC rfl (eC rfl (eC rfl (eC rfl (eN _))))))))))) (hD := (subc 0 rfl sQ))
  have hdf : done = true := by simpa using h24
  subst hdf
  refine oK 6 [28, 11, 10, 17, 8, 16, 15, 9, 7, 6, 5, 3, 1] rfl rfl (rO 9 rfl ?_)
  refine op_sneq rfl rfl rfl (oK 1 [35, 11, 10, 17, 8, 16, 15, 9, 7, 6, 5, 3, 1] rfl rfl ?_)
  refine zO rfl (fun h35 => ?_) (fun h35 => ?_)
  ·refine rO 6 rfl (zB yO rfl rfl ?_)
   refine zA (zH 5 sc23 rfl rfl rfl rfl ?_)
   refine oO 3 rfl (xV 4 sl23 rfl rfl rfl rfl hlt ?_)
   refine zA (xQ 4 ag25 rfl rfl rfl (List.getElem?_eq_getElem hlt) (fun A42 c42 B42 d42 => ?_))
   refine zA ?_
   refine vP (M1 := [_, _, _]) (M2 := _) rfl rfl rfl (c109 _ _ (v.items[i]'hlt) b7 _ _ _ _ _ _ _ _ _ (by omega) (by omega)) rfl (sub2 0 1 rfl rfl) (fun u43 M43 D43 hv43 => ?_)
   obtain ⟨rfl, Ak43, ck43, A43, ca43, xs43, rfl, rfl⟩ := hv43
   refine oK 1 [17, 8, 16, 15, 9, 7, 6, 5, 3, 1] rfl rfl (rO 3 rfl ?_)
   refine yB rfl rfl (by omega) (oR 3 rfl ?_)
   exact kQ (hK (i + 1, true, _, _, _, _, _, _, _, _) (hI.s1 hp (by simpa using h35)) (by show v.keys.length - (i + 1) < v.keys.length - i; omega)) (eC rfl (eC rfl (eC rfl (eC rfl (eC rfl (eC rfl (eC rfl (eC rfl (eC rfl (eC rfl (eN _))))))))))) (hD := (subc 0 rfl sQ))
  refine rO 4 rfl (yB rfl rfl (by omega) ?_)
  refine oR 3 rfl ?_
  exact kQ (hK (i + 1, true, _, _, _, _, _, _, _, _) (hI.s2 hp (by simpa using h35)) (by show v.keys.length - (i + 1) < v.keys.length - i; omega)) (eC rfl (eC rfl (eC rfl (eC rfl (eC rfl (eC rfl (eC rfl (eC rfl (eC rfl (eC rfl (eN _))))))))))) (hD := (subc 0 rfl sQ))
 obtain rfl : i = v.keys.length := by omega
 have hlen := hI.len
 refine rR 9 rfl (yF rfl (fun h46 => ?_) (fun h46 => ?_))
 ·refine rO 6 rfl (zQ 4 rfl ag25 rfl rfl ?_)
  refine zA ?_
  refine vP (M1 := [_, _, _]) (M2 := _) rfl rfl rfl (c109 key _ own b7 _ _ _ _ _ _ _ _ _ (by omega) (by omega)) rfl (sub2 6 0 rfl rfl) (fun u50 M50 D50 hv50 => ?_)
  obtain ⟨rfl, Ak50, ck50, A50, ca50, xs50, rfl, rfl⟩ := hv50
  refine oK 1 [7, 6] rfl rfl (rO 3 rfl ?_)
  refine zQ 2 rfl ag25 rfl rfl (zA ?_)
  refine zF 3 (M' := [_, _, _, HA.blk _ [_, _, _, _, _] _, _, _]) rfl rfl rfl rfl si25 rfl rfl rfl (zZ ?_)
  have hdf : done = false := by simpa using h46
  subst hdf
  rw [← hzl] at hI
  obtain ⟨e1, e2, e3⟩ := hI.endF
  refine wC 0 ((withL key own (v.keys.zip v.items)).map (fun p => p.1)) rfl (by intro b h; cases h) (by rw [e2, List.map_map]; rfl) (with_sizes hks (fun p hp => hksz _ (List.of_mem_zip hp).1)) (vS 0 1 ((withL key own (v.keys.zip v.items)).map (fun p => p.2)) rfl (by rw [← e3]; rfl) (by intro b h; cases h) e1 ?_)
  refine wH (q := 5) (m := 0) (s := ⟨#[]⟩) 1 0 rfl rfl (by decide) ?_
  exact yZ 1 Tryz.results64 rfl rfl ag25 ⟨rfl, _, _, _, _, by show _ = Value.agg #[.int .i64 5, .int .i64 0, .string ⟨#[]⟩, .slice _ ((withL key own (v.keys.zip v.items)).map (fun p => p.1)).length _, .slice _ ((withL key own (v.keys.zip v.items)).map (fun p => p.2)).length _]; rw [← e1, show ((withL key own (v.keys.zip v.items)).map (fun p => p.1)).length = ((withL key own (v.keys.zip v.items)).map (fun p => p.2)).length by simp, ← e1], rfl⟩ nS (sub1 0 rfl)
 refine rO 4 rfl (zQ 2 rfl ag25 rfl rfl ?_)
 refine zA (zF 3 (M' := [_, _, _, HA.blk _ [_, _, _, _, _] _, _, _]) rfl rfl rfl rfl si25 rfl rfl rfl ?_)
 refine oK 1 [6] rfl rfl ?_
 have hdf : done = true := by simpa using h46
 subst hdf
 rw [← hzl] at hI
 obtain ⟨e1, e2, e3⟩ := hI.endT
 refine wC 0 ((withL key own (v.keys.zip v.items)).map (fun p => p.1)) rfl (by intro b h; cases h) (by rw [e2, List.map_map]; rfl) (with_sizes hks (fun p hp => hksz _ (List.of_mem_zip hp).1)) (vS 0 1 ((withL key own (v.keys.zip v.items)).map (fun p => p.2)) rfl (by rw [← e3]; rfl) (by intro b h; cases h) e1 ?_)
 refine wH (q := 5) (m := 0) (s := ⟨#[]⟩) 1 0 rfl rfl (by decide) ?_
 exact yZ 1 Tryz.results64 rfl rfl ag25 ⟨rfl, _, _, _, _, by show _ = Value.agg #[.int .i64 5, .int .i64 0, .string ⟨#[]⟩, .slice _ ((withL key own (v.keys.zip v.items)).map (fun p => p.1)).length _, .slice _ ((withL key own (v.keys.zip v.items)).map (fun p => p.2)).length _]; rw [← e1, show ((withL key own (v.keys.zip v.items)).map (fun p => p.1)).length = ((withL key own (v.keys.zip v.items)).map (fun p => p.2)).length by simp, ← e1], rfl⟩ nS (sub1 0 rfl)
abbrev kOneOf : ByteArray := ⟨#[79, 110, 101, 79, 102]⟩
structure Trv (β : Type) where
 mb : Nat
 X : β → List HA
 D0 : List DA
 I : β × Sig → Prop
 S : Nat → Prop
 mu : Nat → Nat
 dn : β × Sig → Bool → Nat → Prop
def Trv.Post {β : Type} (t : Trv β) (x : β × Sig) (one : Bool) (b : Nat) (same : Nat → Prop) : Value → List HA → List DA → Prop := fun u M' D' =>
 u = .tuple #[] ∧ ∃ (y : β × Sig) (G' : Gr), t.I y ∧ GOk G' y.2 ∧ M' = .many 124 (Gr.blks G') :: t.X y.1 ∧ D' = [.graph t.mb G'] ∧ (∀ o d, t.dn x o d → t.dn y o d) ∧ t.dn y one b ∧ ∀ d, same d → y.2 d = x.2 d
structure Trv.Ok {β : Type} (t : Trv β) (P : Program) (fo : FuncId) (cap : Array Value) : Prop where
 kid : ∀ x b, t.I x → t.S b → ∃ f, x.2 b = some f ∧ FT f ∧ ∀ i ∈ kidIdx, ∀ c ∈ kidsAt f i, t.S c ∧ t.mu c < t.mu b
 op : ∀ x b f ctx G, t.I x → t.S b → x.2 b = some f → (∀ i ∈ kidIdx, ∀ c ∈ kidsAt f i, t.dn x (decide (i = 30)) c) → GOk G x.2 →
  Ct P fo (#[ptr b, .string ctx] ++ cap) (.many 124 (Gr.blks G) :: t.X x.1) (.graph t.mb G :: t.D0) (t.Post x (decide (ctx = kOneOf)) b (· ≠ b))
theorem rB {fv : FVal} (h : FvOk 13 fv) : ∃ bs, fv = .list bs := by
 cases fv <;> first | exact ⟨_, rfl⟩ | exact absurd h (by simp [FvOk])
section
variable {β : Type} {t : Trv β} {x0 y : β × Sig} {b : Nat} {f : Flds} {l : List Nat} {G : Gr}
def AtS (t : Trv β) (x0 : β × Sig) (b : Nat) (f : Flds) (l : List Nat) (y : β × Sig) (G : Gr) : Prop :=
 t.I y ∧ GOk G y.2 ∧ (∀ o d, t.dn x0 o d → t.dn y o d) ∧ y.2 b = some f ∧ (∀ i ∈ l, ∀ c ∈ kidsAt f i, t.dn y (decide (i = 30)) c) ∧ ∀ d, t.mu b ≤ t.mu d → y.2 d = x0.2 d
theorem AtS.add {q : Nat} (h : AtS t x0 b f l y G) (hq : ∀ c ∈ kidsAt f q, t.dn y (decide (q = 30)) c) : AtS t x0 b f (q :: l) y G :=
 ⟨h.1, h.2.1, h.2.2.1, h.2.2.2.1, fun i hi c hc => (List.mem_cons.1 hi).elim (fun e => by subst e; exact hq c hc) (fun e => h.2.2.2.2.1 i e c hc), h.2.2.2.2.2⟩
theorem AtS.none {q : Nat} (h : AtS t x0 b f l y G) (hq : f q = none) : AtS t x0 b f (q :: l) y G := h.add (fun c hc => by unfold kidsAt at hc; rw [hq] at hc; cases hc)
theorem AtS.mem (h : AtS t x0 b f l y G) : ∃ cs, (b, cs, f) ∈ G := (h.2.1.2 b f).2 h.2.2.2.1
theorem AtS.move {c : Nat} {one : Bool} {y' : β × Sig} {G' : Gr} (h : AtS t x0 b f l y G) (hc : t.mu c < t.mu b) (hI : t.I y') (hG : GOk G' y'.2) (hm : ∀ o d, t.dn y o d → t.dn y' o d) (hs : ∀ d, t.mu c < t.mu d → y'.2 d = y.2 d) : AtS t x0 b f l y' G' :=
 ⟨hI, hG, fun o d hd => hm o d (h.2.2.1 o d hd), (hs b hc).trans h.2.2.2.1, fun i hi c hc => hm _ _ (h.2.2.2.2.1 i hi c hc), fun d hd => (hs d (Nat.lt_of_lt_of_le hc hd)).trans (h.2.2.2.2.2 d hd)⟩
end
def IH121 {β : Type} (t : Trv β) (fn : Value) (b : Nat) : Prop := ∀ c, t.mu c < t.mu b → t.S c → ∀ (y : β × Sig) (G : Gr) (ctx : ByteArray), t.I y → GOk G y.2 →
 Ct Tryz.prog 121 #[ptr c, fn, .string ctx] (.many 124 (Gr.blks G) :: t.X y.1) (.graph t.mb G :: t.D0) (t.Post y (decide (ctx = kOneOf)) c (fun d => t.mu c < t.mu d))
theorem muInd {mu : Nat → Nat} {p : Nat → Prop} (h : ∀ b, (∀ c, mu c < mu b → p c) → p b) (b : Nat) : p b := by
  have : ∀ m b, mu b = m → p b := fun m => by
    induction m using Nat.strongRecOn with
    | _ m ih => exact fun b hb => h b fun c hc => ih _ (hb ▸ hc) c rfl
  exact this _ b rfl
theorem sb_of_ok {fv : FVal} (h : FvOk 6 fv) : (∃ c, fv = .sbS c) ∨ ∃ x, fv = .sbB x := by
 cases fv <;> first | exact .inl ⟨_, rfl⟩ | exact .inr ⟨_, rfl⟩ | exact absurd h (by simp [FvOk])
theorem it_of_ok {fv : FVal} (h : FvOk 7 fv) : (∃ c, fv = .itS c) ∨ ∃ bs, fv = .itL bs := by
 cases fv <;> first | exact .inl ⟨_, rfl⟩ | exact .inr ⟨_, rfl⟩ | exact absurd h (by simp [FvOk])
theorem nam_of_ok {fv : FVal} (h : FvOk 9 fv) : ∃ l, fv = .named l := by
 cases fv <;> first | exact ⟨_, rfl⟩ | exact absurd h (by simp [FvOk])
theorem dep_of_ok {fv : FVal} (h : FvOk 10 fv) : ∃ l, fv = .deps l := by
 cases fv <;> first | exact ⟨_, rfl⟩ | exact absurd h (by simp [FvOk])
theorem one_of_ok {fv : FVal} (h : FvOk 5 fv) : ∃ c, fv = .one c := by
 cases fv <;> first | exact ⟨_, rfl⟩ | exact absurd h (by simp [FvOk])
theorem uD {f : Flds} {q : Nat} {fv : FVal} (h : f q = some fv) : kidsAt f q = fkids fv := by unfold kidsAt; rw [h]
def oP (o : Option Nat) : Value := .pointer (o.map fun c => ⟨c, 0, none⟩)
def DA.itd (o : Option Addr) (fv : FVal) : DA := ⟨fun w ok => ∀ p, o = some p → ∃ sl bs, fv = .itL bs ∧ PtsTo w ok p sl ∧ RowPtrs w ok sl bs, fun h1 h2 h p hp => by
 obtain ⟨sl, bs, a, c, d⟩ := h p hp
 exact ⟨sl, bs, a, c.mono h1 h2, d.mono h1 h2⟩⟩
section rules
variable {P : Program} {n : Nat} {F : List Nat} {c : Ctx F} {ops : Array Oper} {d : Nat} {T : TypeId} {l : List Oper} {k : List KI} {Q : Post} {e : Env} {M : List HA} {D : List DA}
theorem vO (j q : Nat) {mb b : Nat} {cs : List Value} {f : Flds} {G : Gr} (hj : D[j]? = some (.graph mb G)) (hm : (b, cs, f) ∈ G) (h1 : 1 ≤ q) (h2 : q ≤ 36) (next : ∀ p : Option Addr, cs[q]? = some (.pointer p) → p.isSome = (f q).isSome → Run P n c k Q e M D) : Run P n c k Q e M D :=
 uW (p := ∃ p : Option Addr, cs[q]? = some (.pointer p) ∧ p.isSome = (f q).isSome) (fun w ok h => by
  obtain ⟨p, a, a2, _⟩ := cellsP_get ((dget h j hj : (DA.graph mb G).p w ok) _ hm) h1 h2
  exact ⟨p, a, a2⟩) (fun ⟨p, a, a2⟩ => next p a a2)
theorem tW (j q : Nat) {mb b : Nat} {cs : List Value} {f : Flds} {G : Gr} {p : Option Addr} {fv : FVal} (hj : D[j]? = some (.graph mb G)) (hm : (b, cs, f) ∈ G) (h1 : 1 ≤ q) (h2 : q ≤ 36) (hc : cs[q]? = some (.pointer p)) (hf : f q = some fv) (next : Run P n c k Q e M (.fv (.pointer p) fv :: D)) : Run P n c k Q e M D :=
 yK (.fv (.pointer p) fv) (fun w ok h => by
  obtain ⟨p', a, _, a3⟩ := cellsP_get ((dget h j hj : (DA.graph mb G).p w ok) _ hm) h1 h2
  rw [hc] at a
  injection a with a
  injection a with a
  subst a
  exact a3 fv hf) next
theorem wA {G : Gr} {b : Nat} {cs : List Value} {f : Flds} (hm : (b, cs, f) ∈ G) : (b, cs) ∈ Gr.blks G := List.mem_map.2 ⟨_, hm, rfl⟩
theorem run_sb (j : Nat) {u : Value} {fv : FVal} (hj : D[j]? = some (.fv u fv)) (hok : FvOk 6 fv) (next : ∀ (b : Nat) (o : Option Nat) (q : Option Addr), u = ptr b → fkids fv = o.toList → Run P n c k Q e M (.dblk b [oP o, .pointer q] 185 :: D)) : Run P n c k Q e M D := by
 rcases sb_of_ok hok with ⟨z, rfl⟩ | ⟨z, rfl⟩
 ·exact wR (α := Nat) (fun b => u = ptr b) (fun b => [.dblk b [ptr z, .pointer none] 185]) (fun w ok h => by
   obtain ⟨b, h1, h3⟩ : FvP w ok (.sbS z) u := dget h j hj
   exact ⟨b, h1, all1 h3⟩) (fun b hx => next b (some z) none hx rfl)
 ·exact wR (α := Nat × Addr) (fun x => u = ptr x.1) (fun x => [.dblk x.1 [.pointer none, .pointer (some x.2)] 185]) (fun w ok h => by
   obtain ⟨b, p, h1, h3, _⟩ : FvP w ok (.sbB z) u := dget h j hj
   exact ⟨(b, p), h1, all1 h3⟩) (fun x hx => next x.1 none (some x.2) hx rfl)
theorem run_it (j : Nat) {u : Value} {fv : FVal} (hj : D[j]? = some (.fv u fv)) (hok : FvOk 7 fv) (next : ∀ (b : Nat) (o : Option Nat) (q : Option Addr), u = ptr b → (q = none → fkids fv = o.toList) → Run P n c k Q e M (.dblk b [oP o, .pointer q] 187 :: .itd q fv :: D)) : Run P n c k Q e M D := by
 rcases it_of_ok hok with ⟨z, rfl⟩ | ⟨bs, rfl⟩
 ·exact wR (α := Nat) (fun b => u = ptr b) (fun b => [.dblk b [ptr z, .pointer none] 187, .itd none (.itS z)]) (fun w ok h => by
   obtain ⟨b, h1, h3⟩ : FvP w ok (.itS z) u := dget h j hj
   exact ⟨b, h1, allc h3 (all1 (fun p hp => by cases hp))⟩) (fun b hx => next b (some z) none hx (fun _ => rfl))
 ·exact wR (α := Nat × Addr) (fun x => u = ptr x.1) (fun x => [.dblk x.1 [.pointer none, .pointer (some x.2)] 187, .itd (some x.2) (.itL bs)]) (fun w ok h => by
   obtain ⟨b, p, sl, h1, h3, h4, h5⟩ : FvP w ok (.itL bs) u := dget h j hj
   exact ⟨(b, p), h1, allc h3 (all1 (fun p' hp => by cases hp; exact ⟨sl, bs, rfl, h4, h5⟩))⟩) (fun x hx => next x.1 none (some x.2) hx (fun h => by cases h))
theorem run_itd (j : Nat) {p : Addr} {fv : FVal} (hj : D[j]? = some (.itd (some p) fv)) (next : ∀ sl bs, fv = .itL bs → Run P n c k Q e M (.pts p sl :: .rowp sl bs :: D)) : Run P n c k Q e M D :=
 wR (α := Value × List Nat) (fun x => fv = .itL x.2) (fun x => [.pts p x.1, .rowp x.1 x.2]) (fun w ok h => by
  obtain ⟨sl, bs, h1, h2, h3⟩ := (dget h j hj : (DA.itd (some p) fv).p w ok) p rfl
  exact ⟨(sl, bs), h1, allc h2 (all1 h3)⟩) (fun x hx => next x.1 x.2 hx)
theorem qJ {β : Type} {t : Trv β} {x0 y : β × Sig} {b b1 : Nat} {f : Flds} {L : List Nat} (q : Nat) {G : Gr} {fn : Value} {ctx : ByteArray} {fo : Operand} {ags : Array Operand} {ts : Array TypeId} (hI : AtS t x0 b f L y G) (hone : decide (ctx = kOneOf) = decide (q = 30))
  (IH : IH121 t fn b) (hk : t.S b1 ∧ t.mu b1 < t.mu b) (hd : Nat.blt d n = true) (hfo : ev e fo = some (.func (.func 121) #[] #[])) (has : ags.toList.mapM (ev e) = some [ptr b1, fn, .string ctx]) (hD : ∀ x ∈ DA.graph t.mb G :: t.D0, x ∈ D)
  (next : ∀ y' G', AtS t x0 b f L y' G' → t.dn y' (decide (q = 30)) b1 → (∀ o d, t.dn y o d → t.dn y' o d) → RunOps Tryz.prog n c ops l k Q ((d, .tuple #[]) :: e) (.many 124 (Gr.blks G') :: t.X y'.1) (.graph t.mb G' :: D)) :
  RunOp Tryz.prog n c ops (some d) (.call { callee := .value fo, args := ags, argTypes := ts }) T l k Q e (.many 124 (Gr.blks G) :: t.X y.1) D := by
 refine vP (M1 := .many 124 (Gr.blks G) :: t.X y.1) (M2 := []) hd hfo has (IH b1 hk.2 hk.1 y G ctx hI.1 hI.2.1) (List.append_nil _) hD ?_
 rintro v M' D' ⟨rfl, y', G', hy, hG, rfl, rfl, hm, hdn, hs⟩
 rw [List.append_nil]
 rw [hone] at hdn
 exact next y' G' (hI.move (one := true) hk.2 hy hG hm hs) hdn hm
end rules
theorem dn_step {β : Type} {t : Trv β} {y y' : β × Sig} {o : Bool} {bs : List Nat} {i : Nat} {c : Nat} (h : ∀ j c, j < i → bs[j]? = some c → t.dn y o c) (hm : ∀ o d, t.dn y o d → t.dn y' o d) (hc : bs[i]? = some c) (hd : t.dn y' o c) : ∀ j c, j < i + 1 → bs[j]? = some c → t.dn y' o c := by
 intro j c' hj hc'
 rcases Nat.lt_or_eq_of_le (Nat.le_of_lt_succ hj) with h1 | h1
 ·exact hm _ _ (h j c' h1 hc')
 ·subst h1; rw [hc] at hc'; injection hc' with hc'; rw [← hc']; exact hd
theorem dn_end {β : Type} {t : Trv β} {y : β × Sig} {o : Bool} {bs : List Nat} {i : Nat} (hi : bs.length ≤ i) (h : ∀ j c, j < i → bs[j]? = some c → t.dn y o c) : ∀ c ∈ bs, t.dn y o c := by
 intro c hc
 obtain ⟨j, hj, rfl⟩ := List.getElem_of_mem hc
 exact h j _ (by omega) (List.getElem?_eq_getElem hj)

section rules
variable {P : Program} {n : Nat} {F : List Nat} {c : Ctx F} {ops : Array Oper} {d : Nat} {T : TypeId} {l : List Oper} {k : List KI} {Q : Post} {e : Env} {M : List HA} {D : List DA}
theorem op_callW {fo : Operand} {ags : Array Operand} {ts : Array TypeId} {f : FuncId} {cap : Array Value} {vs : List Value} {D1 : List DA} {R : Value → List HA → List DA → Prop} (hd : Nat.blt d n = true) (hfo : ev e fo = some (.func (.func f) #[] cap)) (has : ags.toList.mapM (ev e) = some vs)
  (hct : Ct P f (vs.toArray ++ cap) M D1 R) (hD : ∀ d ∈ D1, d ∈ D)
  (next : ∀ v M' D', R v M' D' → RunOps P n c ops l k Q ((d, v) :: e) M' (D' ++ D)) : RunOp P n c ops (some d) (.call { callee := .value fo, args := ags, argTypes := ts }) T l k Q e M D :=
 vP (M1 := M) (M2 := []) hd hfo has hct (List.append_nil _) hD (fun v M' D' h => by rw [List.append_nil]; exact next v M' D' h)
end rules
theorem c121 {β : Type} (t : Trv β) (fo : FuncId) (cap : Array Value) (hok : t.Ok Tryz.prog fo cap) (b : Nat) : t.S b → ∀ (y : β × Sig) (G : Gr) (ctx : ByteArray), t.I y → GOk G y.2 →
  Ct Tryz.prog 121 #[ptr b, .func (.func fo) #[] cap, .string ctx] (.many 124 (Gr.blks G) :: t.X y.1) (.graph t.mb G :: t.D0) (t.Post y (decide (ctx = kOneOf)) b (fun d => t.mu b < t.mu d)) := by
 revert b
 refine muInd (mu := t.mu) (fun b IH => ?_)
 intro hS y G ctx hI0 hG0
 replace IH : IH121 t (.func (.func fo) #[] cap) b := IH
 refine Ct.of_run (args := [ptr b, .func (.func fo) #[] cap, .string ctx]) Tryz.func121 (by kernel_rfl) rfl Tryz.ntmps121 rfl (fun c => ?_)
 obtain ⟨f, hf, hft, hkid⟩ := hok.kid y b hI0 hS
 obtain ⟨x0, hx0⟩ : ∃ x0, x0 = y := ⟨y, rfl⟩
 have hI : AtS t x0 b f [] y G := ⟨hI0, hG0, fun o d h => hx0 ▸ h, hf, fun i h => (by cases h), fun d h => (by rw [hx0])⟩
 obtain ⟨cs, hm⟩ := hI.mem
 refine vO 0 14 rfl hm (by decide) (by decide) (fun p14 hc14 hp14 => ?_)
 refine rO 8 rfl (zB pC rfl rfl ?_)
 refine zA (xJ 0 sc115 rfl rfl rfl (wA hm) (by rw [Nat.zero_add]; exact hc14) ?_)
 refine zA (yL pn115 rfl rfl ?_)
 refine oK 1 [33, 0, 1, 2] rfl rfl (wU [0, 1, 2] (fun (⟨y, G⟩ : (β × Sig) × Gr) => AtS t x0 b f [14] y G) (fun (⟨y, G⟩ : (β × Sig) × Gr) => []) (fun (⟨y, G⟩ : (β × Sig) × Gr) => .many 124 (Gr.blks G) :: t.X y.1) (fun (⟨y, G⟩ : (β × Sig) × Gr) => .graph t.mb G :: t.D0) ?_ ?_)
 ·intro K hK
  refine yF rfl (fun h33 => ?_) (fun h33 => ?_)
  ·obtain ⟨fv, hfv⟩ : ∃ fv, f 14 = some fv := Option.isSome_iff_exists.1 (hp14.symm.trans h33)
   have hok := hft 14 fv (by decide) (by decide) hfv
   refine tW 0 14 rfl hm (by decide) (by decide) hc14 hfv ?_
   have hks := uD hfv
   refine run_sb 0 rfl hok (fun bb o q hu hfk => ?_)
   cases hu
   rw [hfk] at hks
   refine rO 7 rfl (zB pC rfl rfl ?_)
   refine zA (xJ 0 sc115 rfl rfl rfl (wA hm) (by rw [Nat.zero_add]; exact hc14) ?_)
   refine oO 3 rfl (zB fo185_0 rfl rfl ?_)
   refine zA (zG 0 sc63 rfl rfl rfl rfl ?_)
   refine oO 8 rfl (yL pn63 rfl rfl ?_)
   refine oK 1 [42, 6, 0, 1, 2] rfl rfl (yF rfl (fun h42 => ?_) (fun h42 => ?_))
   ·obtain ⟨bb, rfl⟩ : ∃ bb, o = some bb := by
     cases o with
     | none => cases h42
     | some z => exact ⟨z, rfl⟩
    refine rO 6 rfl ?_
    refine qJ 14 hI (by decide +kernel) IH (hkid 14 (by decide) _ (by rw [hks]; simp)) rfl rfl rfl (by intro d hd; rcases List.mem_cons.1 hd with rfl | hd <;> (repeat (first | exact List.mem_cons_self | exact hd | apply List.mem_cons_of_mem))) (fun y45 G45 hI45 hd45 hm45 => ?_)
    refine zZ ?_
    exact kQ (hK (_, _) (hI45.add (fun c hc => by rw [hks] at hc; rcases List.mem_singleton.1 hc with rfl; exact hd45))) (eC rfl (eC rfl (eC rfl (eN _))))
   obtain rfl : o = none := by
    cases o with
    | none => rfl
    | some z => cases h42
   refine xU ?_
   exact kQ (hK (_, _) (hI.add (fun c hc => by rw [hks] at hc; cases hc))) (eC rfl (eC rfl (eC rfl (eN _))))
  have hf14 : f 14 = none := uQ hp14 h33
  refine xU ?_
  exact kQ (hK (_, _) (hI.none hf14)) (eC rfl (eC rfl (eC rfl (eN _))))
 intro ⟨y, G⟩ hI
 replace hI : AtS t x0 b f [14] y G := hI
 change Run _ _ _ _ _ [(0, _), (1, _), (2, _)] (.many 124 (Gr.blks G) :: t.X y.1) (.graph t.mb G :: t.D0)
 obtain ⟨cs, hm⟩ := hI.mem
 refine vO 0 15 rfl hm (by decide) (by decide) (fun p15 hc15 hp15 => ?_)
 refine rO 8 rfl (zB sM rfl rfl ?_)
 refine zA (xJ 0 sc116 rfl rfl rfl (wA hm) (by rw [Nat.zero_add]; exact hc15) ?_)
 refine zA (yL pn116 rfl rfl ?_)
 refine oK 1 [50, 0, 1, 2] rfl rfl (wU [0, 1, 2] (fun (⟨y, G⟩ : (β × Sig) × Gr) => AtS t x0 b f [15, 14] y G) (fun (⟨y, G⟩ : (β × Sig) × Gr) => []) (fun (⟨y, G⟩ : (β × Sig) × Gr) => .many 124 (Gr.blks G) :: t.X y.1) (fun (⟨y, G⟩ : (β × Sig) × Gr) => .graph t.mb G :: t.D0) ?_ ?_)
 ·intro Kj2 hKj2
  refine yF rfl (fun h50 => ?_) (fun h50 => ?_)
  ·obtain ⟨fv, hfv⟩ : ∃ fv, f 15 = some fv := Option.isSome_iff_exists.1 (hp15.symm.trans h50)
   have hok := hft 15 fv (by decide) (by decide) hfv
   refine tW 0 15 rfl hm (by decide) (by decide) hc15 hfv ?_
   have hks := uD hfv
   refine run_it 0 rfl hok (fun bb o q hu hfk => ?_)
   cases hu
   refine rO 7 rfl (zB sM rfl rfl ?_)
   refine zA (xJ 0 sc116 rfl rfl rfl (wA hm) (by rw [Nat.zero_add]; exact hc15) ?_)
   refine oO 3 rfl (zB fo187_1 rfl rfl ?_)
   refine zA (zG 0 sc122 rfl rfl rfl rfl ?_)
   refine zA (yL pn122 rfl rfl ?_)
   refine zZ (yF rfl (fun h58 => ?_) (fun h58 => ?_))
   ·obtain ⟨pl, rfl⟩ : ∃ pl, q = some pl := Option.isSome_iff_exists.1 h58
    refine run_itd 1 rfl (fun sl bs hx => ?_)
    subst hx
    refine uK 1 rfl (fun A1 c1 hx hk1 hk2 => ?_)
    subst hx
    unfold maxLen at hk2
    change kidsAt f 15 = bs at hks
    refine rO 7 rfl (zB sM rfl rfl ?_)
    refine zA (xJ 0 sc116 rfl rfl rfl (wA hm) (by rw [Nat.zero_add]; exact hc15) ?_)
    refine oO 3 rfl (zB fo187_1 rfl rfl ?_)
    refine zA (zG 2 sc122 rfl rfl rfl rfl ?_)
    refine oO 3 rfl (yV 0 sc137 rfl rfl rfl ?_)
    refine zA (zX sl137 rfl rfl ?_)
    refine oK 3 [69, 68, 67, 0, 1, 2] rfl rfl (rK 1 [69, 68, 67, 0, 1, 2] rfl rfl ?_)
    refine uS (D' := .graph t.mb G :: .rowp (.slice A1 bs.length c1) bs :: t.D0) (by intro d hd; simp only [List.mem_cons] at hd ⊢; rcases hd with rfl | rfl | hd <;> simp_all) (yH 1 (fun (⟨i, y, G⟩ : Nat × (β × Sig) × Gr) => i ≤ bs.length ∧ AtS t x0 b f [14] y G ∧ ∀ j c, j < i → bs[j]? = some c → t.dn y (decide (15 = 30)) c) (fun (⟨i, y, G⟩ : Nat × (β × Sig) × Gr) => [(69, .int .i64 ((i : Nat) : Int))]) (fun (⟨i, y, G⟩ : Nat × (β × Sig) × Gr) => .many 124 (Gr.blks G) :: t.X y.1) (fun (⟨i, y, G⟩ : Nat × (β × Sig) × Gr) => .graph t.mb G :: .rowp (.slice A1 bs.length c1) bs :: t.D0) (fun (⟨i, y, G⟩ : Nat × (β × Sig) × Gr) => bs.length - i) (0, y, G) (⟨Nat.zero_le _, hI, fun j c h => absurd h (Nat.not_lt_zero _)⟩) (eC rfl (eN _)) rfl rfl ?_ (eC rfl (eC rfl (eC rfl (eC rfl (eC rfl (eN _)))))))
    intro ⟨i, y, G⟩ hI K hK
    replace hI : i ≤ bs.length ∧ AtS t x0 b f [14] y G ∧ ∀ j c, j < i → bs[j]? = some c → t.dn y (decide (15 = 30)) c := hI
    change Run _ _ _ _ _ [(69, _), (68, _), (67, _), (0, _), (1, _), (2, _)] (.many 124 (Gr.blks G) :: t.X y.1) (.graph t.mb G :: .rowp (.slice A1 bs.length c1) bs :: t.D0)
    obtain ⟨hi, hI, hno⟩ := hI
    refine rO 3 rfl (yM rfl rfl rfl ?_)
    refine oR 2 rfl (zO rfl (fun h70 => ?_) (fun h70 => ?_))
    ·refine rO 6 rfl ?_
     have hlt : i < bs.length := h70
     refine vC 1 sl137 rfl rfl rfl rfl hlt (zA ?_)
     refine yJ sc63 rfl rfl (fun _ h => vM h (j := 1) rfl (List.getElem?_eq_getElem hlt)) ?_
     refine oO 9 rfl ?_
     refine qJ 15 hI (by decide +kernel) IH (hkid 15 (by decide) _ (by rw [hks]; exact List.getElem_mem hlt)) rfl rfl rfl (by intro d hd; rcases List.mem_cons.1 hd with rfl | hd <;> (repeat (first | exact List.mem_cons_self | exact hd | apply List.mem_cons_of_mem))) (fun y75 G75 hI75 hd75 hm75 => ?_)
     refine oO 4 rfl (yB rfl rfl (by omega) ?_)
     refine oR 3 rfl ?_
     exact kQ (hK (i + 1, _, _) (⟨by show i + 1 ≤ _; omega, hI75, dn_step hno hm75 (List.getElem?_eq_getElem hlt) hd75⟩) (by show bs.length - (i + 1) < bs.length - i; omega)) (eC rfl (eC rfl (eC rfl (eC rfl (eC rfl (eC rfl (eN _))))))) (hD := (subc 0 rfl sQ))
    have hall := dn_end (by omega) hno
    refine sL rfl ?_
    exact kQ (hKj2 (_, _) (hI.add (fun c hc => by rw [hks] at hc; exact hall c hc))) (eC rfl (eC rfl (eC rfl (eN _))))
   obtain rfl : q = none := Option.not_isSome_iff_eq_none.1 (by rw [h58]; exact Bool.false_ne_true)
   rw [hfk rfl] at hks
   refine rO 7 rfl (zB sM rfl rfl ?_)
   refine zA (xJ 0 sc116 rfl rfl rfl (wA hm) (by rw [Nat.zero_add]; exact hc15) ?_)
   refine oO 3 rfl (zB fo187_0 rfl rfl ?_)
   refine zA (zG 0 sc63 rfl rfl rfl rfl ?_)
   refine zA (yL pn63 rfl rfl ?_)
   refine oK 1 [84, 0, 1, 2] rfl rfl (yF rfl (fun h84 => ?_) (fun h84 => ?_))
   ·obtain ⟨bb, rfl⟩ : ∃ bb, o = some bb := by
     cases o with
     | none => cases h84
     | some z => exact ⟨z, rfl⟩
    refine rO 6 rfl (zB sM rfl rfl ?_)
    refine zA (xJ 0 sc116 rfl rfl rfl (wA hm) (by rw [Nat.zero_add]; exact hc15) ?_)
    refine oO 3 rfl (zB fo187_0 rfl rfl ?_)
    refine zA (zG 0 sc63 rfl rfl rfl rfl ?_)
    refine oO 3 rfl ?_
    refine qJ 15 hI (by decide +kernel) IH (hkid 15 (by decide) _ (by rw [hks]; simp)) rfl rfl rfl (by intro d hd; rcases List.mem_cons.1 hd with rfl | hd <;> (repeat (first | exact List.mem_cons_self | exact hd | apply List.mem_cons_of_mem))) (fun y93 G93 hI93 hd93 hm93 => ?_)
    refine oK 1 [0, 1, 2] rfl rfl ?_
    exact kQ (hKj2 (_, _) (hI93.add (fun c hc => by rw [hks] at hc; rcases List.mem_singleton.1 hc with rfl; exact hd93))) (eC rfl (eC rfl (eC rfl (eN _))))
   obtain rfl : o = none := by
    cases o with
    | none => rfl
    | some z => cases h84
   refine xU ?_
   exact kQ (hKj2 (_, _) (hI.add (fun c hc => by rw [hks] at hc; cases hc))) (eC rfl (eC rfl (eC rfl (eN _))))
  have hf15 : f 15 = none := uQ hp15 h50
  refine xU ?_
  exact kQ (hKj2 (_, _) (hI.none hf15)) (eC rfl (eC rfl (eC rfl (eN _))))
 intro ⟨y, G⟩ hI
 replace hI : AtS t x0 b f [15, 14] y G := hI
 change Run _ _ _ _ _ [(0, _), (1, _), (2, _)] (.many 124 (Gr.blks G) :: t.X y.1) (.graph t.mb G :: t.D0)
 obtain ⟨cs, hm⟩ := hI.mem
 refine vO 0 22 rfl hm (by decide) (by decide) (fun p22 hc22 hp22 => ?_)
 refine rO 8 rfl (zB pD rfl rfl ?_)
 refine zA (xJ 0 sc115 rfl rfl rfl (wA hm) (by rw [Nat.zero_add]; exact hc22) ?_)
 refine zA (yL pn115 rfl rfl ?_)
 refine oK 1 [98, 0, 1, 2] rfl rfl (wU [0, 1, 2] (fun (⟨y, G⟩ : (β × Sig) × Gr) => AtS t x0 b f [22, 15, 14] y G) (fun (⟨y, G⟩ : (β × Sig) × Gr) => []) (fun (⟨y, G⟩ : (β × Sig) × Gr) => .many 124 (Gr.blks G) :: t.X y.1) (fun (⟨y, G⟩ : (β × Sig) × Gr) => .graph t.mb G :: t.D0) ?_ ?_)
 ·intro Kj3 hKj3
  refine yF rfl (fun h98 => ?_) (fun h98 => ?_)
  ·obtain ⟨fv, hfv⟩ : ∃ fv, f 22 = some fv := Option.isSome_iff_exists.1 (hp22.symm.trans h98)
   have hok := hft 22 fv (by decide) (by decide) hfv
   refine tW 0 22 rfl hm (by decide) (by decide) hc22 hfv ?_
   have hks := uD hfv
   refine run_sb 0 rfl hok (fun bb o q hu hfk => ?_)
   cases hu
   rw [hfk] at hks
   refine rO 7 rfl (zB pD rfl rfl ?_)
   refine zA (xJ 0 sc115 rfl rfl rfl (wA hm) (by rw [Nat.zero_add]; exact hc22) ?_)
   refine oO 3 rfl (zB fo185_0 rfl rfl ?_)
   refine zA (zG 0 sc63 rfl rfl rfl rfl ?_)
   refine oO 8 rfl (yL pn63 rfl rfl ?_)
   refine oK 1 [107, 9, 0, 1, 2] rfl rfl (yF rfl (fun h107 => ?_) (fun h107 => ?_))
   ·obtain ⟨bb, rfl⟩ : ∃ bb, o = some bb := by
     cases o with
     | none => cases h107
     | some z => exact ⟨z, rfl⟩
    refine rO 6 rfl ?_
    refine qJ 22 hI (by decide +kernel) IH (hkid 22 (by decide) _ (by rw [hks]; simp)) rfl rfl rfl (by intro d hd; rcases List.mem_cons.1 hd with rfl | hd <;> (repeat (first | exact List.mem_cons_self | exact hd | apply List.mem_cons_of_mem))) (fun y110 G110 hI110 hd110 hm110 => ?_)
    refine zZ ?_
    exact kQ (hKj3 (_, _) (hI110.add (fun c hc => by rw [hks] at hc; rcases List.mem_singleton.1 hc with rfl; exact hd110))) (eC rfl (eC rfl (eC rfl (eN _))))
   obtain rfl : o = none := by
    cases o with
    | none => rfl
    | some z => cases h107
   refine xU ?_
   exact kQ (hKj3 (_, _) (hI.add (fun c hc => by rw [hks] at hc; cases hc))) (eC rfl (eC rfl (eC rfl (eN _))))
  have hf22 : f 22 = none := uQ hp22 h98
  refine xU ?_
  exact kQ (hKj3 (_, _) (hI.none hf22)) (eC rfl (eC rfl (eC rfl (eN _))))
 intro ⟨y, G⟩ hI
 replace hI : AtS t x0 b f [22, 15, 14] y G := hI
 change Run _ _ _ _ _ [(0, _), (1, _), (2, _)] (.many 124 (Gr.blks G) :: t.X y.1) (.graph t.mb G :: t.D0)
 obtain ⟨cs, hm⟩ := hI.mem
 refine vO 0 23 rfl hm (by decide) (by decide) (fun p23 hc23 hp23 => ?_)
 refine rO 8 rfl (zB pE rfl rfl ?_)
 refine zA (xJ 0 sc118 rfl rfl rfl (wA hm) (by rw [Nat.zero_add]; exact hc23) ?_)
 refine zA (yL pn118 rfl rfl ?_)
 refine oK 1 [115, 0, 1, 2] rfl rfl (wU [0, 1, 2] (fun (⟨y, G⟩ : (β × Sig) × Gr) => AtS t x0 b f [23, 22, 15, 14] y G) (fun (⟨y, G⟩ : (β × Sig) × Gr) => []) (fun (⟨y, G⟩ : (β × Sig) × Gr) => .many 124 (Gr.blks G) :: t.X y.1) (fun (⟨y, G⟩ : (β × Sig) × Gr) => .graph t.mb G :: t.D0) ?_ ?_)
 ·intro Kj4 hKj4
  refine yF rfl (fun h115 => ?_) (fun h115 => ?_)
  ·obtain ⟨fv, hfv⟩ : ∃ fv, f 23 = some fv := Option.isSome_iff_exists.1 (hp23.symm.trans h115)
   have hok := hft 23 fv (by decide) (by decide) hfv
   refine tW 0 23 rfl hm (by decide) (by decide) hc23 hfv ?_
   have hks := uD hfv
   obtain ⟨l, rfl⟩ := nam_of_ok hok
   refine run_named 0 rfl (fun pl sl nbs hu => ?_)
   cases hu
   refine uK 1 rfl (fun A1 c1 hx hk1 hk2 => ?_)
   subst hx
   refine run_namLen 2 rfl (fun hnl => ?_)
   unfold maxLen at hk2
   change kidsAt f 23 = l.map (·.2) at hks
   refine rO 7 rfl (zB pE rfl rfl ?_)
   refine zA (xJ 0 sc118 rfl rfl rfl (wA hm) (by rw [Nat.zero_add]; exact hc23) ?_)
   refine oO 3 rfl (yV 0 sc110 rfl rfl rfl ?_)
   refine zA (zX sl110 rfl rfl ?_)
   refine oK 4 [123, 122, 121, 0, 1, 2] rfl rfl (uS (D' := .graph t.mb G :: .rowp (.slice A1 nbs.length c1) nbs :: .nam nbs l :: t.D0) (by intro d hd; simp only [List.mem_cons] at hd ⊢; rcases hd with rfl | rfl | rfl | hd <;> simp_all) ?_)
   refine yH 1 (fun (⟨i, y, G⟩ : Nat × (β × Sig) × Gr) => i ≤ nbs.length ∧ AtS t x0 b f [22, 15, 14] y G ∧ ∀ j c, j < i → (l.map (·.2))[j]? = some c → t.dn y (decide (23 = 30)) c) (fun (⟨i, y, G⟩ : Nat × (β × Sig) × Gr) => [(123, .int .i64 ((i : Nat) : Int))]) (fun (⟨i, y, G⟩ : Nat × (β × Sig) × Gr) => .many 124 (Gr.blks G) :: t.X y.1) (fun (⟨i, y, G⟩ : Nat × (β × Sig) × Gr) => .graph t.mb G :: .rowp (.slice A1 nbs.length c1) nbs :: .nam nbs l :: t.D0) (fun (⟨i, y, G⟩ : Nat × (β × Sig) × Gr) => nbs.length - i) (0, y, G) (⟨Nat.zero_le _, hI, fun j c h => absurd h (Nat.not_lt_zero _)⟩) (eC rfl (eN _)) rfl rfl ?_ (eC rfl (eC rfl (eC rfl (eC rfl (eC rfl (eN _))))))
   intro ⟨i, y, G⟩ hI K hK1
   replace hI : i ≤ nbs.length ∧ AtS t x0 b f [22, 15, 14] y G ∧ ∀ j c, j < i → (l.map (·.2))[j]? = some c → t.dn y (decide (23 = 30)) c := hI
   change Run _ _ _ _ _ [(123, _), (122, _), (121, _), (0, _), (1, _), (2, _)] (.many 124 (Gr.blks G) :: t.X y.1) (.graph t.mb G :: .rowp (.slice A1 nbs.length c1) nbs :: .nam nbs l :: t.D0)
   obtain ⟨hi, hI, hno⟩ := hI
   refine rO 3 rfl (yM rfl rfl rfl ?_)
   refine oR 2 rfl (zO rfl (fun h124 => ?_) (fun h124 => ?_))
   ·refine rO 6 rfl ?_
    have hlt : i < nbs.length := h124
    have hll : i < l.length := by omega
    refine vC 1 sl110 rfl rfl rfl rfl hlt (ops_nam 2 i rfl (List.getElem?_eq_getElem hll) (List.getElem?_eq_getElem hlt) (fun hksz => ?_))
    refine zA (yJ sc125 rfl rfl (fun _ h => vM h (j := 2) rfl (List.getElem?_eq_getElem hlt)) ?_)
    refine oO 10 rfl (zB fo179_1 rfl rfl ?_)
    refine zA (zG 0 sc63 rfl rfl rfl rfl ?_)
    refine oK 3 [12, 123, 122, 121, 0, 1, 2] rfl rfl (rO 6 rfl ?_)
    refine qJ 23 hI (by decide +kernel) IH (hkid 23 (by decide) _ (by rw [hks]; exact List.mem_map.2 ⟨_, List.getElem_mem hll, rfl⟩)) rfl rfl rfl (by intro d hd; rcases List.mem_cons.1 hd with rfl | hd <;> (repeat (first | exact List.mem_cons_self | exact hd | apply List.mem_cons_of_mem))) (fun y133 G133 hI133 hd133 hm133 => ?_)
    refine oO 4 rfl (yB rfl rfl (by omega) ?_)
    refine oR 3 rfl ?_
    exact kQ (hK1 (i + 1, _, _) (⟨by show i + 1 ≤ _; omega, hI133, dn_step hno hm133 (by rw [List.getElem?_map, List.getElem?_eq_getElem hll]; rfl) hd133⟩) (by show nbs.length - (i + 1) < nbs.length - i; omega)) (eC rfl (eC rfl (eC rfl (eC rfl (eC rfl (eC rfl (eN _))))))) (hD := (subc 0 rfl sQ))
   have hall := dn_end (bs := l.map (·.2)) (by rw [List.length_map]; omega) hno
   refine sL rfl ?_
   exact kQ (hKj4 (_, _) (hI.add (fun c hc => by rw [hks] at hc; exact hall c hc))) (eC rfl (eC rfl (eC rfl (eN _))))
  have hf23 : f 23 = none := uQ hp23 h115
  refine xU ?_
  exact kQ (hKj4 (_, _) (hI.none hf23)) (eC rfl (eC rfl (eC rfl (eN _))))
 intro ⟨y, G⟩ hI
 replace hI : AtS t x0 b f [23, 22, 15, 14] y G := hI
 change Run _ _ _ _ _ [(0, _), (1, _), (2, _)] (.many 124 (Gr.blks G) :: t.X y.1) (.graph t.mb G :: t.D0)
 obtain ⟨cs, hm⟩ := hI.mem
 refine vO 0 24 rfl hm (by decide) (by decide) (fun p24 hc24 hp24 => ?_)
 refine rO 8 rfl (zB pF rfl rfl ?_)
 refine zA (xJ 0 sc118 rfl rfl rfl (wA hm) (by rw [Nat.zero_add]; exact hc24) ?_)
 refine zA (yL pn118 rfl rfl ?_)
 refine oK 1 [139, 0, 1, 2] rfl rfl (wU [0, 1, 2] (fun (⟨y, G⟩ : (β × Sig) × Gr) => AtS t x0 b f [24, 23, 22, 15, 14] y G) (fun (⟨y, G⟩ : (β × Sig) × Gr) => []) (fun (⟨y, G⟩ : (β × Sig) × Gr) => .many 124 (Gr.blks G) :: t.X y.1) (fun (⟨y, G⟩ : (β × Sig) × Gr) => .graph t.mb G :: t.D0) ?_ ?_)
 ·intro Kj5 hKj5
  refine yF rfl (fun h139 => ?_) (fun h139 => ?_)
  ·obtain ⟨fv, hfv⟩ : ∃ fv, f 24 = some fv := Option.isSome_iff_exists.1 (hp24.symm.trans h139)
   have hok := hft 24 fv (by decide) (by decide) hfv
   refine tW 0 24 rfl hm (by decide) (by decide) hc24 hfv ?_
   have hks := uD hfv
   obtain ⟨l, rfl⟩ := nam_of_ok hok
   refine run_named 0 rfl (fun pl sl nbs hu => ?_)
   cases hu
   refine uK 1 rfl (fun A1 c1 hx hk1 hk2 => ?_)
   subst hx
   refine run_namLen 2 rfl (fun hnl => ?_)
   unfold maxLen at hk2
   change kidsAt f 24 = l.map (·.2) at hks
   refine rO 7 rfl (zB pF rfl rfl ?_)
   refine zA (xJ 0 sc118 rfl rfl rfl (wA hm) (by rw [Nat.zero_add]; exact hc24) ?_)
   refine oO 3 rfl (yV 0 sc110 rfl rfl rfl ?_)
   refine zA (zX sl110 rfl rfl ?_)
   refine oK 4 [147, 146, 145, 0, 1, 2] rfl rfl (uS (D' := .graph t.mb G :: .rowp (.slice A1 nbs.length c1) nbs :: .nam nbs l :: t.D0) (by intro d hd; simp only [List.mem_cons] at hd ⊢; rcases hd with rfl | rfl | rfl | hd <;> simp_all) ?_)
   refine yH 1 (fun (⟨i, y, G⟩ : Nat × (β × Sig) × Gr) => i ≤ nbs.length ∧ AtS t x0 b f [23, 22, 15, 14] y G ∧ ∀ j c, j < i → (l.map (·.2))[j]? = some c → t.dn y (decide (24 = 30)) c) (fun (⟨i, y, G⟩ : Nat × (β × Sig) × Gr) => [(147, .int .i64 ((i : Nat) : Int))]) (fun (⟨i, y, G⟩ : Nat × (β × Sig) × Gr) => .many 124 (Gr.blks G) :: t.X y.1) (fun (⟨i, y, G⟩ : Nat × (β × Sig) × Gr) => .graph t.mb G :: .rowp (.slice A1 nbs.length c1) nbs :: .nam nbs l :: t.D0) (fun (⟨i, y, G⟩ : Nat × (β × Sig) × Gr) => nbs.length - i) (0, y, G) (⟨Nat.zero_le _, hI, fun j c h => absurd h (Nat.not_lt_zero _)⟩) (eC rfl (eN _)) rfl rfl ?_ (eC rfl (eC rfl (eC rfl (eC rfl (eC rfl (eN _))))))
   intro ⟨i, y, G⟩ hI K hK2
   replace hI : i ≤ nbs.length ∧ AtS t x0 b f [23, 22, 15, 14] y G ∧ ∀ j c, j < i → (l.map (·.2))[j]? = some c → t.dn y (decide (24 = 30)) c := hI
   change Run _ _ _ _ _ [(147, _), (146, _), (145, _), (0, _), (1, _), (2, _)] (.many 124 (Gr.blks G) :: t.X y.1) (.graph t.mb G :: .rowp (.slice A1 nbs.length c1) nbs :: .nam nbs l :: t.D0)
   obtain ⟨hi, hI, hno⟩ := hI
   refine rO 3 rfl (yM rfl rfl rfl ?_)
   refine oR 2 rfl (zO rfl (fun h148 => ?_) (fun h148 => ?_))
   ·refine rO 6 rfl ?_
    have hlt : i < nbs.length := h148
    have hll : i < l.length := by omega
    refine vC 1 sl110 rfl rfl rfl rfl hlt (ops_nam 2 i rfl (List.getElem?_eq_getElem hll) (List.getElem?_eq_getElem hlt) (fun hksz => ?_))
    refine zA (yJ sc125 rfl rfl (fun _ h => vM h (j := 2) rfl (List.getElem?_eq_getElem hlt)) ?_)
    refine oO 10 rfl (zB fo179_1 rfl rfl ?_)
    refine zA (zG 0 sc63 rfl rfl rfl rfl ?_)
    refine oK 3 [15, 147, 146, 145, 0, 1, 2] rfl rfl (rO 6 rfl ?_)
    refine qJ 24 hI (by decide +kernel) IH (hkid 24 (by decide) _ (by rw [hks]; exact List.mem_map.2 ⟨_, List.getElem_mem hll, rfl⟩)) rfl rfl rfl (by intro d hd; rcases List.mem_cons.1 hd with rfl | hd <;> (repeat (first | exact List.mem_cons_self | exact hd | apply List.mem_cons_of_mem))) (fun y157 G157 hI157 hd157 hm157 => ?_)
    refine oO 4 rfl (yB rfl rfl (by omega) ?_)
    refine oR 3 rfl ?_
    exact kQ (hK2 (i + 1, _, _) (⟨by show i + 1 ≤ _; omega, hI157, dn_step hno hm157 (by rw [List.getElem?_map, List.getElem?_eq_getElem hll]; rfl) hd157⟩) (by show nbs.length - (i + 1) < nbs.length - i; omega)) (eC rfl (eC rfl (eC rfl (eC rfl (eC rfl (eC rfl (eN _))))))) (hD := (subc 0 rfl sQ))
   have hall := dn_end (bs := l.map (·.2)) (by rw [List.length_map]; omega) hno
   refine sL rfl ?_
   exact kQ (hKj5 (_, _) (hI.add (fun c hc => by rw [hks] at hc; exact hall c hc))) (eC rfl (eC rfl (eC rfl (eN _))))
  have hf24 : f 24 = none := uQ hp24 h139
  refine xU ?_
  exact kQ (hKj5 (_, _) (hI.none hf24)) (eC rfl (eC rfl (eC rfl (eN _))))
 intro ⟨y, G⟩ hI
 replace hI : AtS t x0 b f [24, 23, 22, 15, 14] y G := hI
 change Run _ _ _ _ _ [(0, _), (1, _), (2, _)] (.many 124 (Gr.blks G) :: t.X y.1) (.graph t.mb G :: t.D0)
 obtain ⟨cs, hm⟩ := hI.mem
 refine vO 0 25 rfl hm (by decide) (by decide) (fun p25 hc25 hp25 => ?_)
 refine rO 8 rfl (zB pG rfl rfl ?_)
 refine zA (xJ 0 sc119 rfl rfl rfl (wA hm) (by rw [Nat.zero_add]; exact hc25) ?_)
 refine zA (yL pn119 rfl rfl ?_)
 refine oK 1 [163, 0, 1, 2] rfl rfl (wU [0, 1, 2] (fun (⟨y, G⟩ : (β × Sig) × Gr) => AtS t x0 b f [25, 24, 23, 22, 15, 14] y G) (fun (⟨y, G⟩ : (β × Sig) × Gr) => []) (fun (⟨y, G⟩ : (β × Sig) × Gr) => .many 124 (Gr.blks G) :: t.X y.1) (fun (⟨y, G⟩ : (β × Sig) × Gr) => .graph t.mb G :: t.D0) ?_ ?_)
 ·intro Kj6 hKj6
  refine yF rfl (fun h163 => ?_) (fun h163 => ?_)
  ·obtain ⟨fv, hfv⟩ : ∃ fv, f 25 = some fv := Option.isSome_iff_exists.1 (hp25.symm.trans h163)
   have hok := hft 25 fv (by decide) (by decide) hfv
   refine tW 0 25 rfl hm (by decide) (by decide) hc25 hfv ?_
   have hks := uD hfv
   obtain ⟨l, rfl⟩ := dep_of_ok hok
   refine run_deps 0 rfl (fun pl sl nbs hu => ?_)
   cases hu
   refine uK 1 rfl (fun A1 c1 hx hk1 hk2 => ?_)
   subst hx
   refine run_depLen 2 rfl (fun hnl => ?_)
   unfold maxLen at hk2
   refine rO 7 rfl (zB pG rfl rfl ?_)
   refine zA (xJ 0 sc119 rfl rfl rfl (wA hm) (by rw [Nat.zero_add]; exact hc25) ?_)
   refine oO 3 rfl (yV 0 sc188 rfl rfl rfl ?_)
   refine zA (zX sl188 rfl rfl ?_)
   refine oK 4 [171, 170, 169, 0, 1, 2] rfl rfl (uS (D' := .graph t.mb G :: .rowp (.slice A1 nbs.length c1) nbs :: .dep nbs l :: t.D0) (by intro d hd; simp only [List.mem_cons] at hd ⊢; rcases hd with rfl | rfl | rfl | hd <;> simp_all) ?_)
   have hI0 := hI
   refine yH 1 (fun (i : Nat) => i ≤ nbs.length) (fun (i : Nat) => [(171, .int .i64 ((i : Nat) : Int))]) (fun (i : Nat) => .many 124 (Gr.blks G) :: t.X y.1) (fun (i : Nat) => .graph t.mb G :: .rowp (.slice A1 nbs.length c1) nbs :: .dep nbs l :: t.D0) (fun (i : Nat) => nbs.length - i) 0 (Nat.zero_le _) (eC rfl (eN _)) rfl rfl ?_ (eC rfl (eC rfl (eC rfl (eC rfl (eC rfl (eN _))))))
   intro i hI K hK3
   change Run _ _ _ _ _ [(171, _), (170, _), (169, _), (0, _), (1, _), (2, _)] _ _
   have hi : i ≤ nbs.length := hI
   replace hI := hI0
   refine rO 3 rfl (yM rfl rfl rfl ?_)
   refine oR 2 rfl (zO rfl (fun h172 => ?_) (fun h172 => ?_))
   ·refine rO 6 rfl ?_
    have hlt : i < nbs.length := h172
    have hll : i < l.length := by omega
    refine vC 1 sl188 rfl rfl rfl rfl hlt (ops_dep 2 i rfl (List.getElem?_eq_getElem hll) (List.getElem?_eq_getElem hlt) (fun tb p2 sl2 hksz => ?_))
    refine zA (yJ sc189 rfl rfl (fun _ h => vM h (j := 5) rfl (List.getElem?_eq_getElem hlt)) ?_)
    refine oO 10 rfl (zB fo192_1 rfl rfl ?_)
    refine zA (zG 0 sc190 rfl rfl rfl rfl ?_)
    refine oK 3 [18, 171, 170, 169, 0, 1, 2] rfl rfl (rO 7 rfl ?_)
    refine zB fo194_0 rfl rfl (zA ?_)
    refine zG 1 sc63 rfl rfl rfl rfl (oO 8 rfl ?_)
    refine yL pn63 rfl rfl (oO 6 rfl ?_)
    refine yB rfl rfl (by omega) (oK 3 [171, 170, 169, 0, 1, 2] rfl rfl ?_)
    exact kQ (hK3 (i + 1) (by show i + 1 ≤ _; omega) (by show nbs.length - (i + 1) < nbs.length - i; omega)) (eC rfl (eC rfl (eC rfl (eC rfl (eC rfl (eC rfl (eN _)))))))
   replace hI := hI0
   refine sL rfl ?_
   exact kQ (hKj6 (_, _) (hI0.add (fun c hc => by rw [hks] at hc; cases hc))) (eC rfl (eC rfl (eC rfl (eN _))))
  have hf25 : f 25 = none := uQ hp25 h163
  refine xU ?_
  exact kQ (hKj6 (_, _) (hI.none hf25)) (eC rfl (eC rfl (eC rfl (eN _))))
 intro ⟨y, G⟩ hI
 replace hI : AtS t x0 b f [25, 24, 23, 22, 15, 14] y G := hI
 change Run _ _ _ _ _ [(0, _), (1, _), (2, _)] (.many 124 (Gr.blks G) :: t.X y.1) (.graph t.mb G :: t.D0)
 obtain ⟨cs, hm⟩ := hI.mem
 refine vO 0 28 rfl hm (by decide) (by decide) (fun p28 hc28 hp28 => ?_)
 refine rO 8 rfl (zB sN rfl rfl ?_)
 refine zA (xJ 0 sc122 rfl rfl rfl (wA hm) (by rw [Nat.zero_add]; exact hc28) ?_)
 refine zA (yL pn122 rfl rfl ?_)
 refine oK 1 [193, 0, 1, 2] rfl rfl (wU [0, 1, 2] (fun (⟨y, G⟩ : (β × Sig) × Gr) => AtS t x0 b f [28, 25, 24, 23, 22, 15, 14] y G) (fun (⟨y, G⟩ : (β × Sig) × Gr) => []) (fun (⟨y, G⟩ : (β × Sig) × Gr) => .many 124 (Gr.blks G) :: t.X y.1) (fun (⟨y, G⟩ : (β × Sig) × Gr) => .graph t.mb G :: t.D0) ?_ ?_)
 ·intro Kj7 hKj7
  refine yF rfl (fun h193 => ?_) (fun h193 => ?_)
  ·obtain ⟨fv, hfv⟩ : ∃ fv, f 28 = some fv := Option.isSome_iff_exists.1 (hp28.symm.trans h193)
   have hok := hft 28 fv (by decide) (by decide) hfv
   refine tW 0 28 rfl hm (by decide) (by decide) hc28 hfv ?_
   have hks := uD hfv
   obtain ⟨bs, rfl⟩ := rB hok
   refine run_list 0 rfl (fun pl sl hu => ?_)
   cases hu
   refine uK 1 rfl (fun A1 c1 hx hk1 hk2 => ?_)
   subst hx
   unfold maxLen at hk2
   change kidsAt f 28 = bs at hks
   refine rO 7 rfl (zB sN rfl rfl ?_)
   refine zA (xJ 0 sc122 rfl rfl rfl (wA hm) (by rw [Nat.zero_add]; exact hc28) ?_)
   refine oO 3 rfl (yV 0 sc137 rfl rfl rfl ?_)
   refine zA (zX sl137 rfl rfl ?_)
   refine oK 4 [201, 200, 199, 0, 1, 2] rfl rfl (uS (D' := .graph t.mb G :: .rowp (.slice A1 bs.length c1) bs :: t.D0) (by intro d hd; simp only [List.mem_cons] at hd ⊢; rcases hd with rfl | rfl | hd <;> simp_all) ?_)
   refine yH 1 (fun (⟨i, y, G⟩ : Nat × (β × Sig) × Gr) => i ≤ bs.length ∧ AtS t x0 b f [25, 24, 23, 22, 15, 14] y G ∧ ∀ j c, j < i → bs[j]? = some c → t.dn y (decide (28 = 30)) c) (fun (⟨i, y, G⟩ : Nat × (β × Sig) × Gr) => [(201, .int .i64 ((i : Nat) : Int))]) (fun (⟨i, y, G⟩ : Nat × (β × Sig) × Gr) => .many 124 (Gr.blks G) :: t.X y.1) (fun (⟨i, y, G⟩ : Nat × (β × Sig) × Gr) => .graph t.mb G :: .rowp (.slice A1 bs.length c1) bs :: t.D0) (fun (⟨i, y, G⟩ : Nat × (β × Sig) × Gr) => bs.length - i) (0, y, G) (⟨Nat.zero_le _, hI, fun j c h => absurd h (Nat.not_lt_zero _)⟩) (eC rfl (eN _)) rfl rfl ?_ (eC rfl (eC rfl (eC rfl (eC rfl (eC rfl (eN _))))))
   intro ⟨i, y, G⟩ hI K hK4
   replace hI : i ≤ bs.length ∧ AtS t x0 b f [25, 24, 23, 22, 15, 14] y G ∧ ∀ j c, j < i → bs[j]? = some c → t.dn y (decide (28 = 30)) c := hI
   change Run _ _ _ _ _ [(201, _), (200, _), (199, _), (0, _), (1, _), (2, _)] (.many 124 (Gr.blks G) :: t.X y.1) (.graph t.mb G :: .rowp (.slice A1 bs.length c1) bs :: t.D0)
   obtain ⟨hi, hI, hno⟩ := hI
   refine rO 3 rfl (yM rfl rfl rfl ?_)
   refine oR 2 rfl (zO rfl (fun h202 => ?_) (fun h202 => ?_))
   ·refine rO 6 rfl ?_
    have hlt : i < bs.length := h202
    refine vC 1 sl137 rfl rfl rfl rfl hlt (zA ?_)
    refine yJ sc63 rfl rfl (fun _ h => vM h (j := 1) rfl (List.getElem?_eq_getElem hlt)) ?_
    refine oO 9 rfl ?_
    refine qJ 28 hI (by decide +kernel) IH (hkid 28 (by decide) _ (by rw [hks]; exact List.getElem_mem hlt)) rfl rfl rfl (by intro d hd; rcases List.mem_cons.1 hd with rfl | hd <;> (repeat (first | exact List.mem_cons_self | exact hd | apply List.mem_cons_of_mem))) (fun y207 G207 hI207 hd207 hm207 => ?_)
    refine oO 4 rfl (yB rfl rfl (by omega) ?_)
    refine oR 3 rfl ?_
    exact kQ (hK4 (i + 1, _, _) (⟨by show i + 1 ≤ _; omega, hI207, dn_step hno hm207 (List.getElem?_eq_getElem hlt) hd207⟩) (by show bs.length - (i + 1) < bs.length - i; omega)) (eC rfl (eC rfl (eC rfl (eC rfl (eC rfl (eC rfl (eN _))))))) (hD := (subc 0 rfl sQ))
   have hall := dn_end (by omega) hno
   refine sL rfl ?_
   exact kQ (hKj7 (_, _) (hI.add (fun c hc => by rw [hks] at hc; exact hall c hc))) (eC rfl (eC rfl (eC rfl (eN _))))
  have hf28 : f 28 = none := uQ hp28 h193
  refine xU ?_
  exact kQ (hKj7 (_, _) (hI.none hf28)) (eC rfl (eC rfl (eC rfl (eN _))))
 intro ⟨y, G⟩ hI
 replace hI : AtS t x0 b f [28, 25, 24, 23, 22, 15, 14] y G := hI
 change Run _ _ _ _ _ [(0, _), (1, _), (2, _)] (.many 124 (Gr.blks G) :: t.X y.1) (.graph t.mb G :: t.D0)
 obtain ⟨cs, hm⟩ := hI.mem
 refine vO 0 29 rfl hm (by decide) (by decide) (fun p29 hc29 hp29 => ?_)
 refine rO 8 rfl (zB pH rfl rfl ?_)
 refine zA (xJ 0 sc122 rfl rfl rfl (wA hm) (by rw [Nat.zero_add]; exact hc29) ?_)
 refine zA (yL pn122 rfl rfl ?_)
 refine oK 1 [213, 0, 1, 2] rfl rfl (wU [0, 1, 2] (fun (⟨y, G⟩ : (β × Sig) × Gr) => AtS t x0 b f [29, 28, 25, 24, 23, 22, 15, 14] y G) (fun (⟨y, G⟩ : (β × Sig) × Gr) => []) (fun (⟨y, G⟩ : (β × Sig) × Gr) => .many 124 (Gr.blks G) :: t.X y.1) (fun (⟨y, G⟩ : (β × Sig) × Gr) => .graph t.mb G :: t.D0) ?_ ?_)
 ·intro Kj8 hKj8
  refine yF rfl (fun h213 => ?_) (fun h213 => ?_)
  ·obtain ⟨fv, hfv⟩ : ∃ fv, f 29 = some fv := Option.isSome_iff_exists.1 (hp29.symm.trans h213)
   have hok := hft 29 fv (by decide) (by decide) hfv
   refine tW 0 29 rfl hm (by decide) (by decide) hc29 hfv ?_
   have hks := uD hfv
   obtain ⟨bs, rfl⟩ := rB hok
   refine run_list 0 rfl (fun pl sl hu => ?_)
   cases hu
   refine uK 1 rfl (fun A1 c1 hx hk1 hk2 => ?_)
   subst hx
   unfold maxLen at hk2
   change kidsAt f 29 = bs at hks
   refine rO 7 rfl (zB pH rfl rfl ?_)
   refine zA (xJ 0 sc122 rfl rfl rfl (wA hm) (by rw [Nat.zero_add]; exact hc29) ?_)
   refine oO 3 rfl (yV 0 sc137 rfl rfl rfl ?_)
   refine zA (zX sl137 rfl rfl ?_)
   refine oK 4 [221, 220, 219, 0, 1, 2] rfl rfl (uS (D' := .graph t.mb G :: .rowp (.slice A1 bs.length c1) bs :: t.D0) (by intro d hd; simp only [List.mem_cons] at hd ⊢; rcases hd with rfl | rfl | hd <;> simp_all) ?_)
   refine yH 1 (fun (⟨i, y, G⟩ : Nat × (β × Sig) × Gr) => i ≤ bs.length ∧ AtS t x0 b f [28, 25, 24, 23, 22, 15, 14] y G ∧ ∀ j c, j < i → bs[j]? = some c → t.dn y (decide (29 = 30)) c) (fun (⟨i, y, G⟩ : Nat × (β × Sig) × Gr) => [(221, .int .i64 ((i : Nat) : Int))]) (fun (⟨i, y, G⟩ : Nat × (β × Sig) × Gr) => .many 124 (Gr.blks G) :: t.X y.1) (fun (⟨i, y, G⟩ : Nat × (β × Sig) × Gr) => .graph t.mb G :: .rowp (.slice A1 bs.length c1) bs :: t.D0) (fun (⟨i, y, G⟩ : Nat × (β × Sig) × Gr) => bs.length - i) (0, y, G) (⟨Nat.zero_le _, hI, fun j c h => absurd h (Nat.not_lt_zero _)⟩) (eC rfl (eN _)) rfl rfl ?_ (eC rfl (eC rfl (eC rfl (eC rfl (eC rfl (eN _))))))
   intro ⟨i, y, G⟩ hI K hK5
   replace hI : i ≤ bs.length ∧ AtS t x0 b f [28, 25, 24, 23, 22, 15, 14] y G ∧ ∀ j c, j < i → bs[j]? = some c → t.dn y (decide (29 = 30)) c := hI
   change Run _ _ _ _ _ [(221, _), (220, _), (219, _), (0, _), (1, _), (2, _)] (.many 124 (Gr.blks G) :: t.X y.1) (.graph t.mb G :: .rowp (.slice A1 bs.length c1) bs :: t.D0)
   obtain ⟨hi, hI, hno⟩ := hI
   refine rO 3 rfl (yM rfl rfl rfl ?_)
   refine oR 2 rfl (zO rfl (fun h222 => ?_) (fun h222 => ?_))
   ·refine rO 6 rfl ?_
    have hlt : i < bs.length := h222
    refine vC 1 sl137 rfl rfl rfl rfl hlt (zA ?_)
    refine yJ sc63 rfl rfl (fun _ h => vM h (j := 1) rfl (List.getElem?_eq_getElem hlt)) ?_
    refine oO 9 rfl ?_
    refine qJ 29 hI (by decide +kernel) IH (hkid 29 (by decide) _ (by rw [hks]; exact List.getElem_mem hlt)) rfl rfl rfl (by intro d hd; rcases List.mem_cons.1 hd with rfl | hd <;> (repeat (first | exact List.mem_cons_self | exact hd | apply List.mem_cons_of_mem))) (fun y227 G227 hI227 hd227 hm227 => ?_)
    refine oO 4 rfl (yB rfl rfl (by omega) ?_)
    refine oR 3 rfl ?_
    exact kQ (hK5 (i + 1, _, _) (⟨by show i + 1 ≤ _; omega, hI227, dn_step hno hm227 (List.getElem?_eq_getElem hlt) hd227⟩) (by show bs.length - (i + 1) < bs.length - i; omega)) (eC rfl (eC rfl (eC rfl (eC rfl (eC rfl (eC rfl (eN _))))))) (hD := (subc 0 rfl sQ))
   have hall := dn_end (by omega) hno
   refine sL rfl ?_
   exact kQ (hKj8 (_, _) (hI.add (fun c hc => by rw [hks] at hc; exact hall c hc))) (eC rfl (eC rfl (eC rfl (eN _))))
  have hf29 : f 29 = none := uQ hp29 h213
  refine xU ?_
  exact kQ (hKj8 (_, _) (hI.none hf29)) (eC rfl (eC rfl (eC rfl (eN _))))
 intro ⟨y, G⟩ hI
 replace hI : AtS t x0 b f [29, 28, 25, 24, 23, 22, 15, 14] y G := hI
 change Run _ _ _ _ _ [(0, _), (1, _), (2, _)] (.many 124 (Gr.blks G) :: t.X y.1) (.graph t.mb G :: t.D0)
 obtain ⟨cs, hm⟩ := hI.mem
 refine vO 0 30 rfl hm (by decide) (by decide) (fun p30 hc30 hp30 => ?_)
 refine rO 8 rfl (zB pI rfl rfl ?_)
 refine zA (xJ 0 sc122 rfl rfl rfl (wA hm) (by rw [Nat.zero_add]; exact hc30) ?_)
 refine zA (yL pn122 rfl rfl ?_)
 refine oK 1 [233, 0, 1, 2] rfl rfl (wU [0, 1, 2] (fun (⟨y, G⟩ : (β × Sig) × Gr) => AtS t x0 b f [30, 29, 28, 25, 24, 23, 22, 15, 14] y G) (fun (⟨y, G⟩ : (β × Sig) × Gr) => []) (fun (⟨y, G⟩ : (β × Sig) × Gr) => .many 124 (Gr.blks G) :: t.X y.1) (fun (⟨y, G⟩ : (β × Sig) × Gr) => .graph t.mb G :: t.D0) ?_ ?_)
 ·intro Kj9 hKj9
  refine yF rfl (fun h233 => ?_) (fun h233 => ?_)
  ·obtain ⟨fv, hfv⟩ : ∃ fv, f 30 = some fv := Option.isSome_iff_exists.1 (hp30.symm.trans h233)
   have hok := hft 30 fv (by decide) (by decide) hfv
   refine tW 0 30 rfl hm (by decide) (by decide) hc30 hfv ?_
   have hks := uD hfv
   obtain ⟨bs, rfl⟩ := rB hok
   refine run_list 0 rfl (fun pl sl hu => ?_)
   cases hu
   refine uK 1 rfl (fun A1 c1 hx hk1 hk2 => ?_)
   subst hx
   unfold maxLen at hk2
   change kidsAt f 30 = bs at hks
   refine rO 7 rfl (zB pI rfl rfl ?_)
   refine zA (xJ 0 sc122 rfl rfl rfl (wA hm) (by rw [Nat.zero_add]; exact hc30) ?_)
   refine oO 3 rfl (yV 0 sc137 rfl rfl rfl ?_)
   refine zA (zX sl137 rfl rfl ?_)
   refine oK 4 [241, 240, 239, 0, 1, 2] rfl rfl (uS (D' := .graph t.mb G :: .rowp (.slice A1 bs.length c1) bs :: t.D0) (by intro d hd; simp only [List.mem_cons] at hd ⊢; rcases hd with rfl | rfl | hd <;> simp_all) ?_)
   refine yH 1 (fun (⟨i, y, G⟩ : Nat × (β × Sig) × Gr) => i ≤ bs.length ∧ AtS t x0 b f [29, 28, 25, 24, 23, 22, 15, 14] y G ∧ ∀ j c, j < i → bs[j]? = some c → t.dn y (decide (30 = 30)) c) (fun (⟨i, y, G⟩ : Nat × (β × Sig) × Gr) => [(241, .int .i64 ((i : Nat) : Int))]) (fun (⟨i, y, G⟩ : Nat × (β × Sig) × Gr) => .many 124 (Gr.blks G) :: t.X y.1) (fun (⟨i, y, G⟩ : Nat × (β × Sig) × Gr) => .graph t.mb G :: .rowp (.slice A1 bs.length c1) bs :: t.D0) (fun (⟨i, y, G⟩ : Nat × (β × Sig) × Gr) => bs.length - i) (0, y, G) (⟨Nat.zero_le _, hI, fun j c h => absurd h (Nat.not_lt_zero _)⟩) (eC rfl (eN _)) rfl rfl ?_ (eC rfl (eC rfl (eC rfl (eC rfl (eC rfl (eN _))))))
   intro ⟨i, y, G⟩ hI K hK6
   replace hI : i ≤ bs.length ∧ AtS t x0 b f [29, 28, 25, 24, 23, 22, 15, 14] y G ∧ ∀ j c, j < i → bs[j]? = some c → t.dn y (decide (30 = 30)) c := hI
   change Run _ _ _ _ _ [(241, _), (240, _), (239, _), (0, _), (1, _), (2, _)] (.many 124 (Gr.blks G) :: t.X y.1) (.graph t.mb G :: .rowp (.slice A1 bs.length c1) bs :: t.D0)
   obtain ⟨hi, hI, hno⟩ := hI
   refine rO 3 rfl (yM rfl rfl rfl ?_)
   refine oR 2 rfl (zO rfl (fun h242 => ?_) (fun h242 => ?_))
   ·refine rO 6 rfl ?_
    have hlt : i < bs.length := h242
    refine vC 1 sl137 rfl rfl rfl rfl hlt (zA ?_)
    refine yJ sc63 rfl rfl (fun _ h => vM h (j := 1) rfl (List.getElem?_eq_getElem hlt)) ?_
    refine oO 9 rfl ?_
    refine qJ 30 hI (by decide +kernel) IH (hkid 30 (by decide) _ (by rw [hks]; exact List.getElem_mem hlt)) rfl rfl rfl (by intro d hd; rcases List.mem_cons.1 hd with rfl | hd <;> (repeat (first | exact List.mem_cons_self | exact hd | apply List.mem_cons_of_mem))) (fun y247 G247 hI247 hd247 hm247 => ?_)
    refine oO 4 rfl (yB rfl rfl (by omega) ?_)
    refine oR 3 rfl ?_
    exact kQ (hK6 (i + 1, _, _) (⟨by show i + 1 ≤ _; omega, hI247, dn_step hno hm247 (List.getElem?_eq_getElem hlt) hd247⟩) (by show bs.length - (i + 1) < bs.length - i; omega)) (eC rfl (eC rfl (eC rfl (eC rfl (eC rfl (eC rfl (eN _))))))) (hD := (subc 0 rfl sQ))
   have hall := dn_end (by omega) hno
   refine sL rfl ?_
   exact kQ (hKj9 (_, _) (hI.add (fun c hc => by rw [hks] at hc; exact hall c hc))) (eC rfl (eC rfl (eC rfl (eN _))))
  have hf30 : f 30 = none := uQ hp30 h233
  refine xU ?_
  exact kQ (hKj9 (_, _) (hI.none hf30)) (eC rfl (eC rfl (eC rfl (eN _))))
 intro ⟨y, G⟩ hI
 replace hI : AtS t x0 b f [30, 29, 28, 25, 24, 23, 22, 15, 14] y G := hI
 change Run _ _ _ _ _ [(0, _), (1, _), (2, _)] (.many 124 (Gr.blks G) :: t.X y.1) (.graph t.mb G :: t.D0)
 obtain ⟨cs, hm⟩ := hI.mem
 refine vO 0 31 rfl hm (by decide) (by decide) (fun p31 hc31 hp31 => ?_)
 refine rO 8 rfl (zB pJ rfl rfl ?_)
 refine zA (xJ 0 sc63 rfl rfl rfl (wA hm) (by rw [Nat.zero_add]; exact hc31) ?_)
 refine zA (yL pn63 rfl rfl ?_)
 refine oK 1 [253, 0, 1, 2] rfl rfl (wU [0, 1, 2] (fun (⟨y, G⟩ : (β × Sig) × Gr) => AtS t x0 b f [31, 30, 29, 28, 25, 24, 23, 22, 15, 14] y G) (fun (⟨y, G⟩ : (β × Sig) × Gr) => []) (fun (⟨y, G⟩ : (β × Sig) × Gr) => .many 124 (Gr.blks G) :: t.X y.1) (fun (⟨y, G⟩ : (β × Sig) × Gr) => .graph t.mb G :: t.D0) ?_ ?_)
 ·intro Kj10 hKj10
  refine yF rfl (fun h253 => ?_) (fun h253 => ?_)
  ·obtain ⟨fv, hfv⟩ : ∃ fv, f 31 = some fv := Option.isSome_iff_exists.1 (hp31.symm.trans h253)
   have hok := hft 31 fv (by decide) (by decide) hfv
   refine tW 0 31 rfl hm (by decide) (by decide) hc31 hfv ?_
   have hks := uD hfv
   obtain ⟨bb, rfl⟩ := one_of_ok hok
   refine uW (p := p31 = some ⟨bb, 0, none⟩) (fun w ok h => by have := (dget h 0 rfl : (DA.fv (.pointer p31) (.one bb)).p w ok); cases this; rfl) (fun hu => ?_)
   subst hu
   change kidsAt f 31 = [bb] at hks
   refine rO 6 rfl (zB pJ rfl rfl ?_)
   refine zA (xJ 0 sc63 rfl rfl rfl (wA hm) (by rw [Nat.zero_add]; exact hc31) ?_)
   refine oO 3 rfl ?_
   refine qJ 31 hI (by decide +kernel) IH (hkid 31 (by decide) _ (by rw [hks]; simp)) rfl rfl rfl (by intro d hd; rcases List.mem_cons.1 hd with rfl | hd <;> (repeat (first | exact List.mem_cons_self | exact hd | apply List.mem_cons_of_mem))) (fun y259 G259 hI259 hd259 hm259 => ?_)
   refine zZ ?_
   exact kQ (hKj10 (_, _) (hI259.add (fun c hc => by rw [hks] at hc; rcases List.mem_singleton.1 hc with rfl; exact hd259))) (eC rfl (eC rfl (eC rfl (eN _))))
  have hf31 : f 31 = none := uQ hp31 h253
  refine xU ?_
  exact kQ (hKj10 (_, _) (hI.none hf31)) (eC rfl (eC rfl (eC rfl (eN _))))
 intro ⟨y, G⟩ hI
 replace hI : AtS t x0 b f [31, 30, 29, 28, 25, 24, 23, 22, 15, 14] y G := hI
 change Run _ _ _ _ _ [(0, _), (1, _), (2, _)] (.many 124 (Gr.blks G) :: t.X y.1) (.graph t.mb G :: t.D0)
 obtain ⟨cs, hm⟩ := hI.mem
 refine vO 0 32 rfl hm (by decide) (by decide) (fun p32 hc32 hp32 => ?_)
 refine rO 8 rfl (zB pK rfl rfl ?_)
 refine zA (xJ 0 sc118 rfl rfl rfl (wA hm) (by rw [Nat.zero_add]; exact hc32) ?_)
 refine zA (yL pn118 rfl rfl ?_)
 refine oK 1 [264, 0, 1, 2] rfl rfl (wU [0, 1, 2] (fun (⟨y, G⟩ : (β × Sig) × Gr) => AtS t x0 b f [32, 31, 30, 29, 28, 25, 24, 23, 22, 15, 14] y G) (fun (⟨y, G⟩ : (β × Sig) × Gr) => []) (fun (⟨y, G⟩ : (β × Sig) × Gr) => .many 124 (Gr.blks G) :: t.X y.1) (fun (⟨y, G⟩ : (β × Sig) × Gr) => .graph t.mb G :: t.D0) ?_ ?_)
 ·intro Kj11 hKj11
  refine yF rfl (fun h264 => ?_) (fun h264 => ?_)
  ·obtain ⟨fv, hfv⟩ : ∃ fv, f 32 = some fv := Option.isSome_iff_exists.1 (hp32.symm.trans h264)
   have hok := hft 32 fv (by decide) (by decide) hfv
   refine tW 0 32 rfl hm (by decide) (by decide) hc32 hfv ?_
   have hks := uD hfv
   obtain ⟨l, rfl⟩ := nam_of_ok hok
   refine run_named 0 rfl (fun pl sl nbs hu => ?_)
   cases hu
   refine uK 1 rfl (fun A1 c1 hx hk1 hk2 => ?_)
   subst hx
   refine run_namLen 2 rfl (fun hnl => ?_)
   unfold maxLen at hk2
   change kidsAt f 32 = l.map (·.2) at hks
   refine rO 7 rfl (zB pK rfl rfl ?_)
   refine zA (xJ 0 sc118 rfl rfl rfl (wA hm) (by rw [Nat.zero_add]; exact hc32) ?_)
   refine oO 3 rfl (yV 0 sc110 rfl rfl rfl ?_)
   refine zA (zX sl110 rfl rfl ?_)
   refine oK 4 [272, 271, 270, 0, 1, 2] rfl rfl (uS (D' := .graph t.mb G :: .rowp (.slice A1 nbs.length c1) nbs :: .nam nbs l :: t.D0) (by intro d hd; simp only [List.mem_cons] at hd ⊢; rcases hd with rfl | rfl | rfl | hd <;> simp_all) ?_)
   refine yH 1 (fun (⟨i, y, G⟩ : Nat × (β × Sig) × Gr) => i ≤ nbs.length ∧ AtS t x0 b f [31, 30, 29, 28, 25, 24, 23, 22, 15, 14] y G ∧ ∀ j c, j < i → (l.map (·.2))[j]? = some c → t.dn y (decide (32 = 30)) c) (fun (⟨i, y, G⟩ : Nat × (β × Sig) × Gr) => [(272, .int .i64 ((i : Nat) : Int))]) (fun (⟨i, y, G⟩ : Nat × (β × Sig) × Gr) => .many 124 (Gr.blks G) :: t.X y.1) (fun (⟨i, y, G⟩ : Nat × (β × Sig) × Gr) => .graph t.mb G :: .rowp (.slice A1 nbs.length c1) nbs :: .nam nbs l :: t.D0) (fun (⟨i, y, G⟩ : Nat × (β × Sig) × Gr) => nbs.length - i) (0, y, G) (⟨Nat.zero_le _, hI, fun j c h => absurd h (Nat.not_lt_zero _)⟩) (eC rfl (eN _)) rfl rfl ?_ (eC rfl (eC rfl (eC rfl (eC rfl (eC rfl (eN _))))))
   intro ⟨i, y, G⟩ hI K hK7
   replace hI : i ≤ nbs.length ∧ AtS t x0 b f [31, 30, 29, 28, 25, 24, 23, 22, 15, 14] y G ∧ ∀ j c, j < i → (l.map (·.2))[j]? = some c → t.dn y (decide (32 = 30)) c := hI
   change Run _ _ _ _ _ [(272, _), (271, _), (270, _), (0, _), (1, _), (2, _)] (.many 124 (Gr.blks G) :: t.X y.1) (.graph t.mb G :: .rowp (.slice A1 nbs.length c1) nbs :: .nam nbs l :: t.D0)
   obtain ⟨hi, hI, hno⟩ := hI
   refine rO 3 rfl (yM rfl rfl rfl ?_)
   refine oR 2 rfl (zO rfl (fun h273 => ?_) (fun h273 => ?_))
   ·refine rO 6 rfl ?_
    have hlt : i < nbs.length := h273
    have hll : i < l.length := by omega
    refine vC 1 sl110 rfl rfl rfl rfl hlt (ops_nam 2 i rfl (List.getElem?_eq_getElem hll) (List.getElem?_eq_getElem hlt) (fun hksz => ?_))
    refine zA (yJ sc125 rfl rfl (fun _ h => vM h (j := 2) rfl (List.getElem?_eq_getElem hlt)) ?_)
    refine oO 10 rfl (zB fo179_1 rfl rfl ?_)
    refine zA (zG 0 sc63 rfl rfl rfl rfl ?_)
    refine oK 3 [28, 272, 271, 270, 0, 1, 2] rfl rfl (rO 6 rfl ?_)
    refine qJ 32 hI (by decide +kernel) IH (hkid 32 (by decide) _ (by rw [hks]; exact List.mem_map.2 ⟨_, List.getElem_mem hll, rfl⟩)) rfl rfl rfl (by intro d hd; rcases List.mem_cons.1 hd with rfl | hd <;> (repeat (first | exact List.mem_cons_self | exact hd | apply List.mem_cons_of_mem))) (fun y282 G282 hI282 hd282 hm282 => ?_)
    refine oO 4 rfl (yB rfl rfl (by omega) ?_)
    refine oR 3 rfl ?_
    exact kQ (hK7 (i + 1, _, _) (⟨by show i + 1 ≤ _; omega, hI282, dn_step hno hm282 (by rw [List.getElem?_map, List.getElem?_eq_getElem hll]; rfl) hd282⟩) (by show nbs.length - (i + 1) < nbs.length - i; omega)) (eC rfl (eC rfl (eC rfl (eC rfl (eC rfl (eC rfl (eN _))))))) (hD := (subc 0 rfl sQ))
   have hall := dn_end (bs := l.map (·.2)) (by rw [List.length_map]; omega) hno
   refine sL rfl ?_
   exact kQ (hKj11 (_, _) (hI.add (fun c hc => by rw [hks] at hc; exact hall c hc))) (eC rfl (eC rfl (eC rfl (eN _))))
  have hf32 : f 32 = none := uQ hp32 h264
  refine xU ?_
  exact kQ (hKj11 (_, _) (hI.none hf32)) (eC rfl (eC rfl (eC rfl (eN _))))
 intro ⟨y, G⟩ hI
 replace hI : AtS t x0 b f [32, 31, 30, 29, 28, 25, 24, 23, 22, 15, 14] y G := hI
 change Run _ _ _ _ _ [(0, _), (1, _), (2, _)] (.many 124 (Gr.blks G) :: t.X y.1) (.graph t.mb G :: t.D0)
 refine rO 8 rfl ?_
 refine op_callW rfl rfl rfl (hok.op y b f ctx G hI.1 hS hI.2.2.2.1 (fun i hi c hc => hI.2.2.2.2.1 i ((by decide : ∀ i ∈ kidIdx, i ∈ [32, 31, 30, 29, 28, 25, 24, 23, 22, 15, 14]) i hi) c hc) hI.2.1) (fun d hd => hd) (fun u287 M287 D287 hv287 => ?_)
 obtain ⟨rfl, y2, G2, hy2, hG2, rfl, rfl, hm2, hdn2, hs2⟩ := hv287
 refine zZ ?_
 exact sS Tryz.results121 ⟨rfl, y2, G2, hy2, hG2, rfl, rfl, fun o d hd => hm2 o d (hI.2.2.1 o d (hx0 ▸ hd)), hdn2, fun d hd => (hs2 d (fun e => by subst e; exact Nat.lt_irrefl _ hd)).trans ((hI.2.2.2.2.2 d (Nat.le_of_lt hd)).trans (by rw [hx0]))⟩ (List.Sublist.refl _) (sub1 0 rfl)
section rules
variable {P : Program} {n : Nat} {F : List Nat} {c : Ctx F} {ops : Array Oper} {d : Nat} {T : TypeId} {l : List Oper} {k : List KI} {Q : Post} {e : Env} {M : List HA} {D : List DA}
theorem op_callF0 {fo : Operand} {ags : Array Operand} {ts : Array TypeId} {f : FuncId} {fst cap : Array Value} {vs : List Value} {M1 M2 : List HA} {D1 : List DA} {R : Value → List HA → List DA → Prop} (hd : Nat.blt d n = true) (hfo : ev e fo = some (.func (.func f) fst cap)) (has : ags.toList.mapM (ev e) = some vs)
    (hct : Ct P f (fst ++ vs.toArray ++ cap) M1 D1 R) (hM : M1 ++ M2 = M) (hD : ∀ d ∈ D1, d ∈ D)
    (next : ∀ v M' D', R v M' D' → RunOps P n c ops l k Q ((d, v) :: e) (M' ++ M2) (D' ++ D)) : RunOp P n c ops (some d) (.call { callee := .value fo, args := ags, argTypes := ts }) T l k Q e M D := by
  subst hM
  intro a w hf
  have hargs : ags.map a.eval = vs.toArray := by
    apply Array.ext'
    simpa using mapEv hf has
  unfold Oper.wp
  have hrun : (execOp a.eval (opr (some d) (.call { callee := .value fo, args := ags, argTypes := ts }) T)).run P w = .ok (.enter f (fst ++ vs.toArray ++ cap)) w := by
    simp [execOp, opr, resolve, hf.ev hfo, Deferred.ofValue, invoke, hargs, run_callFunc hct.1]
  rw [hrun]
  have hlt := hf.lt
  refine Calls.mono (hct.2 w (c.now (M1 ++ M2) w) (fun k hk => ⟨hk.2.1, fun h' => hk.2.2 (by rw [yI]; exact List.mem_append_left _ h')⟩) (fun h hh => hf.own h (List.mem_append_left _ hh))
    (by have := hf.nodup; rw [yI] at this; exact (List.nodup_append.1 this).1) (fun d hd' => hf.dat d (hD d hd'))) ?_
  rintro e' w' ⟨v, M', D', rfl, hR, hchg, hm, hn, hft, hdat⟩
  refine next v M' D' hR _ w' ((hf.world (hf.toFitsW.swap hchg hm hn hft fun x hx => ?_)).put hd v)
  refine x.mono (fun q hq => ?_) (fun _ _ => rfl) (hdat x hx)
  obtain ⟨h1, h2, h3⟩ := hq
  refine ⟨?_, h2, ?_⟩
  · rcases h1 with h1 | h1
    · exact h1.1
    · exact .inr (Nat.le_trans hf.chg.size h1)
  · rw [yI, List.mem_append, not_or]
    refine ⟨h3, fun h4 => ?_⟩
    rcases h1 with h1 | h1
    · exact h1.2.2 (by rw [yI]; exact List.mem_append_right _ h4)
    · exact absurd (hlt q (by rw [yI]; exact List.mem_append_right _ h4)) (by omega)
theorem qK {fo : Operand} {ags : Array Operand} {ts : Array TypeId} {f : FuncId} {fst cap : Array Value} {vs : List Value} {pre M1 : List HA} {D1 : List DA} {R : Value → List HA → List DA → Prop} (hd : Nat.blt d n = true) (hfo : ev e fo = some (.func (.func f) fst cap)) (has : ags.toList.mapM (ev e) = some vs)
  (hct : Ct P f (fst ++ vs.toArray ++ cap) M1 D1 R) (hM : M = pre ++ M1) (hD : ∀ d ∈ D1, d ∈ D)
  (next : ∀ v M' D', R v M' D' → RunOps P n c ops l k Q ((d, v) :: e) (pre ++ M') (D' ++ D)) : RunOp P n c ops (some d) (.call { callee := .value fo, args := ags, argTypes := ts }) T l k Q e M D := by
 subst hM
 refine fun a w hf => op_callF0 (M1 := M1) (M2 := pre) hd hfo has hct rfl hD (fun v M' D' hR a' w' hf' => next v M' D' hR a' w' (hf'.world (hf'.toFitsW.perm List.perm_append_comm))) a w (hf.world (hf.toFitsW.perm List.perm_append_comm))
end rules
inductive FoldR {α : Type} (Rl : V → α → α → V → Prop) (a0 : α) : List V → α → List V → Prop where
  | nil : FoldR Rl a0 [] a0 []
  | pos {l : List V} {a a1 : α} {l' : List V} {own v : V} (h : FoldR Rl a0 l a l') (hk : own.kind = 5) (hr : Rl own a a1 v) : FoldR Rl a0 (l ++ [own]) a1 (l' ++ [v])
  | neg {l : List V} {a : α} {l' : List V} {own : V} (h : FoldR Rl a0 l a l') (hk : ¬ own.kind = 5) : FoldR Rl a0 (l ++ [own]) a (l' ++ [own])
theorem FoldR.len {α : Type} {Rl : V → α → α → V → Prop} {a0 a : α} {l l' : List V} (h : FoldR Rl a0 l a l') : l'.length = l.length := by
  induction h with
  | nil => rfl
  | pos h hk hr ih => simp [ih]
  | neg h hk ih => simp [ih]
theorem FoldR.stepP {α : Type} {Rl : V → α → α → V → Prop} {a0 a a1 : α} {ts l' : List V} {i : Nat} {v : V} (hi : i < ts.length) (h : FoldR Rl a0 (ts.take i) a l') (hk : ts[i].kind = 5) (hr : Rl ts[i] a a1 v) : FoldR Rl a0 (ts.take (i + 1)) a1 (l' ++ [v]) := by
 rw [List.take_add_one, List.getElem?_eq_getElem hi]
 exact .pos h hk hr
theorem FoldR.stepN {α : Type} {Rl : V → α → α → V → Prop} {a0 a : α} {ts l' : List V} {i : Nat} (hi : i < ts.length) (h : FoldR Rl a0 (ts.take i) a l') (hk : ¬ ts[i].kind = 5) : FoldR Rl a0 (ts.take (i + 1)) a (l' ++ [ts[i]]) := by
 rw [List.take_add_one, List.getElem?_eq_getElem hi]
 exact .neg h hk
def AllR {α : Type} (Rl : V → α → α → V → Prop) (t : V) (a a' : α) (v' : V) : Prop := ∃ ts', FoldR Rl a t.items a' ts' ∧ v' = .mk t.kind 0 ⟨#[]⟩ t.keys ts'
def TurnR {α : Type} (Rl : V → α → α → V → Prop) (sh : Int) (t : V) (a a' : α) (v' : V) : Prop :=
 if sh = 5 then Rl t a a' v' else if sh = 6 then (if t.kind = 5 then Rl t a a' v' else a' = a ∧ v' = t) else if sh = 7 then (if t.kind = 5 then Rl t a a' v' else AllR Rl t a a' v') else if sh = 9 ∨ sh = 13 then AllR Rl t a a' v' else a' = a ∧ v' = t
def FnR {α : Type} (X : α → List HA) (DX : α → DA) (Ok : Nat → α → Prop) (Rl : V → α → α → V → Prop) (f : FuncId) (fst cap : Array Value) (own : V) : Prop :=
 ∀ (k : Nat) (a : α) (y : Value), Ok (k + 1) a → Ct Tryz.prog f (fst ++ #[y] ++ cap) (X a) [.val y own, DX a] (fun u M' D' => ∃ a' v' D1, Rl own a a' v' ∧ Ok k a' ∧ M' = X a' ∧ RV v' u D1 ∧ D' = D1 ++ [DX a'])
theorem uP {x : HA} : ∀ {M' M : List HA}, Pick M' M → Pick M' (x :: M)
  | [], _, _ => trivial
  | _ :: M', M, ⟨i, hi, h⟩ => ⟨i + 1, by simpa using hi, by
    rw [List.eraseIdx_cons_succ]
    exact uP h⟩

theorem c94g {α : Type} {X : α → List HA} {DX : α → DA} {Ok : Nat → α → Prop} {Rl : V → α → α → V → Prop} (hOk : ∀ k a, Ok (k + 1) a → Ok k a) (t : V) (f : FuncId) (fst cap : Array Value) (hkl : t.keys.length ≤ 1000000) (hil : t.items.length ≤ 1000000) (hf : ∀ own ∈ t.items, own.kind = 5 → FnR X DX Ok Rl f fst cap own) (bv bh : Nat) (A1 A2 : Option Addr) (c1 c2 : Nat) (a0 : α) (h0 : Ok t.items.length a0) :
  Ct Tryz.prog 94 #[.pointer (some ⟨bv, 0, none⟩), .pointer (some ⟨bh, 0, none⟩)] (.blk bv [.int .i64 t.kind, .int .i64 t.num, .string t.text, .slice A1 t.keys.length c1, .slice A2 t.items.length c2] 25 :: .blk bh [.func (.func f) fst cap] 27 :: X a0) [.val (.agg #[.int .i64 t.kind, .int .i64 t.num, .string t.text, .slice A1 t.keys.length c1, .slice A2 t.items.length c2]) t, DX a0] (fun u M' D' => ∃ a' v' D1, AllR Rl t a0 a' v' ∧ M' = .blk bv [.int .i64 t.kind, .int .i64 t.num, .string t.text, .slice A1 t.keys.length c1, .slice A2 t.items.length c2] 25 :: .blk bh [.func (.func f) fst cap] 27 :: X a' ∧ RV v' u D1 ∧ D' = D1 ++ [DX a']) := by
 refine Ct.of_run (args := [.pointer (some ⟨bv, 0, none⟩), .pointer (some ⟨bh, 0, none⟩)]) Tryz.func94 (by kernel_rfl) rfl Tryz.ntmps94 rfl (fun c => ?_)
 refine yW 0 rfl (fun A1 c1 A2 c2 hx hs hk1 hk2 hi1 hi2 => ?_)
 injection hx with hx
 simp only [Array.mk.injEq, List.cons.injEq, Value.slice.injEq, true_and, and_true] at hx
 obtain ⟨⟨rfl, rfl⟩, rfl, rfl⟩ := hx
 unfold maxLen at hi2 hk2
 refine vY 0 rfl (fun hksz => ?_)
 refine rO 3 rfl (zR ze25 rfl (fun b2 => ?_))
 change RunOps _ _ _ _ _ _ _ _ (HA.blk _ [_, _, _, _, _] _ :: _) _
 refine oK 2 [2, 0, 1] rfl rfl (run_joinI (fun (⟨b3, Ak, ck⟩ : Nat × Option Addr × Nat) => True) (fun (⟨b3, Ak, ck⟩ : Nat × Option Addr × Nat) => [(3, .pointer (some ⟨b3, 0, none⟩))]) (fun (⟨b3, Ak, ck⟩ : Nat × Option Addr × Nat) => HA.blk b3 [.int .i64 t.kind, .int .i64 0, .string ⟨#[]⟩, .slice Ak t.keys.length ck, .slice none 0 0] 25 :: HA.blk b2 [.int .i64 0, .int .i64 0, .string ⟨#[]⟩, .slice none 0 0, .slice none 0 0] 25 :: HA.blk bv [.int .i64 t.kind, .int .i64 t.num, .string t.text, .slice A1 t.keys.length c1, .slice A2 t.items.length c2] 25 :: HA.blk bh [.func (.func f) fst cap] 27 :: X a0) (fun (⟨b3, Ak, ck⟩ : Nat × Option Addr × Nat) => .strs (.slice Ak t.keys.length ck) t.keys :: .strs (.slice A1 t.keys.length c1) t.keys :: .vals (.slice A2 t.items.length c2) t.items :: .val (.agg #[.int .i64 t.kind, .int .i64 t.num, .string t.text, .slice A1 t.keys.length c1, .slice A2 t.items.length c2]) t :: DX a0 :: []) ?_ ?_)
 ·intro K hK
  refine yT yE (zS ?_)
  refine tP 0 rfl wanted0 (zU vJ rfl) (tP 3 rfl wanted0 (zU xB rfl) ?_)
  refine yA (tM 1 rfl wanted0 (yP 1 sc2 rfl rfl rfl) ?_)
  refine tM 4 rfl wanted0 (yP 1 sc22 rfl rfl rfl) (tH (rs := [2, 7]) (by decide +kernel) (by simp) ?_)
  intro j hj
  simp only [List.mem_cons, List.not_mem_nil, or_false] at hj
  rcases hj with rfl | rfl
  ·refine zL (I2 := [[4, 1], [3, 0], []]) rfl wanted0 (by decide +kernel) (fun Kd hKd => ?_)
   refine uB sl22 rfl (fun b8 => ?_)
   refine hKd _ _ _ (vR (by repeat (first | exact List.nil_sublist _ | exact List.Sublist.refl _ | apply List.Sublist.cons)) sQ (vR (by repeat (first | exact List.nil_sublist _ | exact List.Sublist.refl _ | apply List.Sublist.cons)) sQ (zD (zM)))) (tH (rs := [5, 7]) (by decide +kernel) (by simp) ?_)
   intro j hj
   simp only [List.mem_cons, List.not_mem_nil, or_false] at hj
   rcases hj with rfl | rfl
   ·refine zL (I2 := [[1], [0], []]) rfl wanted0 (by decide +kernel) (fun Kd hKd => ?_)
    refine uN 0 0 sl22 rfl rfl rfl rfl rfl rfl (by unfold maxLen; omega) (by omega) (fun Ak ck => ?_)
    rw [Nat.zero_add]
    refine hKd _ _ _ (vR (by repeat (first | exact List.nil_sublist _ | exact List.Sublist.refl _ | apply List.Sublist.cons)) sQ (vR (by repeat (first | exact List.nil_sublist _ | exact List.Sublist.refl _ | apply List.Sublist.cons)) sQ (zD (zM)))) (yA ?_)
    refine tM 6 rfl wanted0 (tQ rfl (pL ..)) (zI 7 (by decide +kernel) ?_)
    refine zL (I2 := [[6], [1], [0], []]) rfl wanted0 (by decide +kernel) (fun Kd hKd => ?_)
    refine zR ze25 rfl (fun b3 => ?_)
    change RunOps _ _ _ _ _ _ _ _ (HA.blk _ [_, _, _, _, _] _ :: _) _
    refine hKd _ _ _ (vR (by repeat (first | exact List.nil_sublist _ | exact List.Sublist.refl _ | apply List.Sublist.cons)) sQ (vR (by repeat (first | exact List.nil_sublist _ | exact List.Sublist.refl _ | apply List.Sublist.cons)) sQ (vR (by repeat (first | exact List.nil_sublist _ | exact List.Sublist.refl _ | apply List.Sublist.cons)) sQ (zD (zM))))) (zI 8 (by decide +kernel) ?_)
    refine zL (I2 := [[], [], [], []]) rfl wanted0 (by decide +kernel) (fun Kd hKd => ?_)
    refine zF 0 (M' := HA.blk _ [_, _, _, _, _] _ :: _) rfl rfl rfl rfl si25 rfl rfl rfl (hKd _ _ _ (zD (zD (zD (zD (zM))))) ?_)
    refine yD (by decide +kernel) (wC 1 t.keys rfl (by intro b hb; simp only [foots, HA.foot, List.mem_append, List.mem_singleton, List.mem_cons, List.not_mem_nil, or_false] at hb; rcases hb with hb | hb | hb <;> simp [foots, HA.foot, hb]) rfl hksz ?_)
    exact kQ (hK (_, _, _) (trivial)) (eC rfl (eC rfl (eC rfl (eC rfl (eN _))))) (hM := (by repeat (first | exact xS _ | exact yC _ | refine zC 0 rfl ?_ | refine zC 1 rfl ?_ | refine zC 2 rfl ?_ | refine zC 3 rfl ?_ | refine zC 4 rfl ?_ | refine zC 5 rfl ?_ | refine zC 6 rfl ?_ | refine zC 7 rfl ?_ | refine zC 8 rfl ?_ | refine uP ?_)))
   refine zL (I2 := [[4, 1], [3, 0], []]) rfl wanted0 (by decide +kernel) (fun Kd hKd => ?_)
   refine zR ze25 rfl (fun b3 => ?_)
   change RunOps _ _ _ _ _ _ _ _ (HA.blk _ [_, _, _, _, _] _ :: _) _
   refine hKd _ _ _ (vR (by repeat (first | exact List.nil_sublist _ | exact List.Sublist.refl _ | apply List.Sublist.cons)) sQ (vR (by repeat (first | exact List.nil_sublist _ | exact List.Sublist.refl _ | apply List.Sublist.cons)) sQ (zD (zM)))) (zI 5 (by decide +kernel) ?_)
   refine zL (I2 := [[1], [0], []]) rfl wanted0 (by decide +kernel) (fun Kd hKd => ?_)
   refine uN 1 0 sl22 rfl rfl rfl rfl rfl rfl (by unfold maxLen; omega) (by omega) (fun Ak ck => ?_)
   rw [Nat.zero_add]
   refine hKd _ _ _ (vR (by repeat (first | exact List.nil_sublist _ | exact List.Sublist.refl _ | apply List.Sublist.cons)) sQ (vR (by repeat (first | exact List.nil_sublist _ | exact List.Sublist.refl _ | apply List.Sublist.cons)) sQ (zD (zM)))) (yA ?_)
   refine tM 6 rfl wanted0 (tQ rfl (pL ..)) (zI 8 (by decide +kernel) ?_)
   refine zL (I2 := [[], [], [], []]) rfl wanted0 (by decide +kernel) (fun Kd hKd => ?_)
   refine zF 0 (M' := HA.blk _ [_, _, _, _, _] _ :: _) rfl rfl rfl rfl si25 rfl rfl rfl (hKd _ _ _ (zD (zD (zD (zD (zM))))) ?_)
   refine yD (by decide +kernel) (wC 1 t.keys rfl (by intro b hb; simp only [foots, HA.foot, List.mem_append, List.mem_singleton, List.mem_cons, List.not_mem_nil, or_false] at hb; rcases hb with hb | hb | hb <;> simp [foots, HA.foot, hb]) rfl hksz ?_)
   exact kQ (hK (_, _, _) (trivial)) (eC rfl (eC rfl (eC rfl (eC rfl (eN _))))) (hM := (by repeat (first | exact xS _ | exact yC _ | refine zC 0 rfl ?_ | refine zC 1 rfl ?_ | refine zC 2 rfl ?_ | refine zC 3 rfl ?_ | refine zC 4 rfl ?_ | refine zC 5 rfl ?_ | refine zC 6 rfl ?_ | refine zC 7 rfl ?_ | refine zC 8 rfl ?_ | refine uP ?_)))
  refine zL (I2 := [[4, 1], [3, 0], []]) rfl wanted0 (by decide +kernel) (fun Kd hKd => ?_)
  refine zR ze25 rfl (fun b3 => ?_)
  change RunOps _ _ _ _ _ _ _ _ (HA.blk _ [_, _, _, _, _] _ :: _) _
  refine hKd _ _ _ (vR (by repeat (first | exact List.nil_sublist _ | exact List.Sublist.refl _ | apply List.Sublist.cons)) sQ (vR (by repeat (first | exact List.nil_sublist _ | exact List.Sublist.refl _ | apply List.Sublist.cons)) sQ (zD (zM)))) (zI 2 (by decide +kernel) ?_)
  refine zL (I2 := [[4, 1], [3, 0], []]) rfl wanted0 (by decide +kernel) (fun Kd hKd => ?_)
  refine uB sl22 rfl (fun b8 => ?_)
  refine hKd _ _ _ (vR (by repeat (first | exact List.nil_sublist _ | exact List.Sublist.refl _ | apply List.Sublist.cons)) sQ (vR (by repeat (first | exact List.nil_sublist _ | exact List.Sublist.refl _ | apply List.Sublist.cons)) sQ (zD (zM)))) (zI 5 (by decide +kernel) ?_)
  refine zL (I2 := [[1], [0], []]) rfl wanted0 (by decide +kernel) (fun Kd hKd => ?_)
  refine uN 0 0 sl22 rfl rfl rfl rfl rfl rfl (by unfold maxLen; omega) (by omega) (fun Ak ck => ?_)
  rw [Nat.zero_add]
  refine hKd _ _ _ (vR (by repeat (first | exact List.nil_sublist _ | exact List.Sublist.refl _ | apply List.Sublist.cons)) sQ (vR (by repeat (first | exact List.nil_sublist _ | exact List.Sublist.refl _ | apply List.Sublist.cons)) sQ (zD (zM)))) (yA ?_)
  refine tM 6 rfl wanted0 (tQ rfl (pL ..)) (zI 8 (by decide +kernel) ?_)
  refine zL (I2 := [[], [], [], []]) rfl wanted0 (by decide +kernel) (fun Kd hKd => ?_)
  refine zF 1 (M' := _ :: HA.blk _ [_, _, _, _, _] _ :: _) rfl rfl rfl rfl si25 rfl rfl rfl (hKd _ _ _ (zD (zD (zD (zD (zM))))) ?_)
  refine yD (by decide +kernel) (wC 0 t.keys rfl (by intro b hb; simp only [foots, HA.foot, List.mem_append, List.mem_singleton, List.mem_cons, List.not_mem_nil, or_false] at hb; rcases hb with hb | hb | hb <;> simp [foots, HA.foot, hb]) rfl hksz ?_)
  exact kQ (hK (_, _, _) (trivial)) (eC rfl (eC rfl (eC rfl (eC rfl (eN _))))) (hM := (by repeat (first | exact xS _ | exact yC _ | refine zC 0 rfl ?_ | refine zC 1 rfl ?_ | refine zC 2 rfl ?_ | refine zC 3 rfl ?_ | refine zC 4 rfl ?_ | refine zC 5 rfl ?_ | refine zC 6 rfl ?_ | refine zC 7 rfl ?_ | refine zC 8 rfl ?_ | refine uP ?_)))
 intro ⟨b3, Ak, ck⟩ hI
 replace hI : True := hI
 change Run _ _ _ _ _ [(3, _), (2, _), (0, _), (1, _)] (HA.blk b3 [.int .i64 t.kind, .int .i64 0, .string ⟨#[]⟩, .slice Ak t.keys.length ck, .slice none 0 0] 25 :: HA.blk b2 [.int .i64 0, .int .i64 0, .string ⟨#[]⟩, .slice none 0 0, .slice none 0 0] 25 :: HA.blk bv [.int .i64 t.kind, .int .i64 t.num, .string t.text, .slice A1 t.keys.length c1, .slice A2 t.items.length c2] 25 :: HA.blk bh [.func (.func f) fst cap] 27 :: X a0) [_, _, _, _, _]
 refine xN 25 5 (rO 4 rfl ?_)
 refine zB yO rfl rfl (zA ?_)
 refine zH 3 sc23 rfl rfl rfl rfl (zA ?_)
 refine zX sl23 rfl rfl (oK 4 [16, 15, 14, 3, 2, 1] rfl rfl ?_)
 refine yK (DX a0) (fun w ok h => dget h 4 rfl) (uY ?_)
 refine yH 1 (fun (⟨i, a, A, ca, xs, ts⟩ : Nat × α × Option Addr × Nat × List Value × List V) => i ≤ t.items.length ∧ FoldR Rl a0 (t.items.take i) a ts ∧ Ok (t.items.length - i) a ∧ ∀ q, A = some q → c.w0.heap.size ≤ q.block) (fun (⟨i, a, A, ca, xs, ts⟩ : Nat × α × Option Addr × Nat × List Value × List V) => [(16, .int .i64 ((i : Nat) : Int))]) (fun (⟨i, a, A, ca, xs, ts⟩ : Nat × α × Option Addr × Nat × List Value × List V) => HA.row A i ca 25 5 xs :: HA.blk b3 [.int .i64 t.kind, .int .i64 0, .string ⟨#[]⟩, .slice Ak t.keys.length ck, .slice A i ca] 25 :: HA.blk b2 [.int .i64 0, .int .i64 0, .string ⟨#[]⟩, .slice none 0 0, .slice none 0 0] 25 :: HA.blk bv [.int .i64 t.kind, .int .i64 t.num, .string t.text, .slice A1 t.keys.length c1, .slice A2 t.items.length c2] 25 :: HA.blk bh [.func (.func f) fst cap] 27 :: X a) (fun (⟨i, a, A, ca, xs, ts⟩ : Nat × α × Option Addr × Nat × List Value × List V) => .its xs ts :: DX a :: .strs (.slice Ak t.keys.length ck) t.keys :: .strs (.slice A1 t.keys.length c1) t.keys :: .vals (.slice A2 t.items.length c2) t.items :: .val (.agg #[.int .i64 t.kind, .int .i64 t.num, .string t.text, .slice A1 t.keys.length c1, .slice A2 t.items.length c2]) t :: DX a0 :: []) (fun (⟨i, a, A, ca, xs, ts⟩ : Nat × α × Option Addr × Nat × List Value × List V) => t.items.length - i) (0, a0, none, 0, [], []) (⟨Nat.zero_le _, .nil, h0, fun q h => by cases h⟩) (eC rfl (eN _)) rfl rfl ?_ (eC rfl (eC rfl (eC rfl (eC rfl (eC rfl (eN _))))))
 intro ⟨i, a, A, ca, xs, ts⟩ hI K hK
 replace hI : i ≤ t.items.length ∧ FoldR Rl a0 (t.items.take i) a ts ∧ Ok (t.items.length - i) a ∧ ∀ q, A = some q → c.w0.heap.size ≤ q.block := hI
 change Run _ _ _ _ _ [(16, _), (15, _), (14, _), (3, _), (2, _), (1, _)] (HA.row A i ca 25 5 xs :: HA.blk b3 [.int .i64 t.kind, .int .i64 0, .string ⟨#[]⟩, .slice Ak t.keys.length ck, .slice A i ca] 25 :: HA.blk b2 [.int .i64 0, .int .i64 0, .string ⟨#[]⟩, .slice none 0 0, .slice none 0 0] 25 :: HA.blk bv [.int .i64 t.kind, .int .i64 t.num, .string t.text, .slice A1 t.keys.length c1, .slice A2 t.items.length c2] 25 :: HA.blk bh [.func (.func f) fst cap] 27 :: X a) [_, _, _, _, _, _, _]
 obtain ⟨hi, hF, hO, hA⟩ := hI
 refine rO 3 rfl (yM rfl rfl rfl ?_)
 refine oR 2 rfl (zO rfl (fun h17 => ?_) (fun h17 => ?_))
 ·rw [show t.items.length - i = (t.items.length - (i + 1)) + 1 by omega] at hO
  refine rO 6 rfl (xV 4 sl23 rfl rfl rfl rfl (by omega) ?_)
  refine zA (xQ 4 ag25 rfl rfl rfl (List.getElem?_eq_getElem h17) (fun A3 c3 A4 c4 => ?_))
  refine zA (zR ze25 rfl (fun b5 => ?_))
  change RunOps _ _ _ _ _ _ _ _ (HA.blk _ [_, _, _, _, _] _ :: _) _
  refine zA (zF 0 (M' := HA.blk _ [_, _, _, _, _] _ :: _) rfl rfl rfl rfl si25 rfl rfl rfl ?_)
  refine oO 5 rfl (zB vJ rfl rfl ?_)
  refine zA (zH 0 sc2 rfl rfl rfl rfl ?_)
  refine oR 3 rfl (zO rfl (fun h22 => ?_) (fun h22 => ?_))
  ·refine rO 2 rfl (zH 5 sc27 rfl rfl rfl rfl ?_)
   refine zA (zQ 0 rfl ag25 rfl rfl ?_)
   refine zA (qK (pre := [_, _, _, _, _, _]) rfl rfl rfl (hf _ (List.getElem_mem h17) h22 _ a _ hO) rfl (sub2 0 2 rfl rfl) (fun u25 M25 D25 hv25 => ?_))
   obtain ⟨a25, v25, D25, hR25, hO25, rfl, ⟨A5, c5, A6, c6, rfl, rfl⟩, rfl⟩ := hv25
   refine zA (zF 0 (M' := HA.blk _ [_, _, _, _, _] _ :: _) rfl rfl rfl rfl si25 rfl rfl rfl ?_)
   refine oK 1 [5, 16, 15, 14, 3, 2, 1] rfl rfl (rO 2 rfl ?_)
   refine zB yO rfl rfl (zA ?_)
   refine zH 2 sc23 rfl rfl rfl rfl (zA ?_)
   refine zQ 0 rfl ag25 rfl rfl (zA ?_)
   refine zK sl23 rfl rfl rfl rfl rfl (fun b29 => ?_)
   refine zA ?_
   refine qW 2 0 sl23 rfl rfl rfl rfl rfl rfl rfl (by unfold maxLen; omega) (by omega) hA (fun A30 c30 hA30 => ?_)
   refine zA (zB yO rfl rfl ?_)
   refine zA (zF 3 (M' := _ :: _ :: _ :: HA.blk _ [_, _, _, _, _] _ :: _) rfl rfl rfl rfl si23 rfl rfl rfl ?_)
   refine oO 4 rfl (yB rfl rfl (by omega) ?_)
   refine oR 3 rfl (wB 3 0 rfl rfl rfl ?_)
   exact kQ (hK (i + 1, _, _, _, _, _) (⟨by show i + 1 ≤ _; omega, hF.stepP h17 h22 hR25, hO25, hA30⟩) (by show t.items.length - (i + 1) < t.items.length - i; omega)) (eC rfl (eC rfl (eC rfl (eC rfl (eC rfl (eC rfl (eN _))))))) (hM := (by repeat (first | exact xS _ | exact yC _ | refine zC 0 rfl ?_ | refine zC 1 rfl ?_ | refine zC 2 rfl ?_ | refine zC 3 rfl ?_ | refine zC 4 rfl ?_ | refine zC 5 rfl ?_ | refine zC 6 rfl ?_ | refine zC 7 rfl ?_ | refine zC 8 rfl ?_ | refine uP ?_))) (hD := (by intro d hd; refine (List.mem_cons.1 hd).elim (fun e => e ▸ (by (repeat (first | exact List.mem_cons_self | apply List.mem_cons_of_mem)))) (fun hd => ?_); refine (List.mem_cons.1 hd).elim (fun e => e ▸ (by (repeat (first | exact List.mem_cons_self | apply List.mem_cons_of_mem)))) (fun hd => ?_); repeat (first | exact hd | apply List.mem_cons_of_mem)))
  refine rO 3 rfl (zB yO rfl rfl ?_)
  refine zA (zH 2 sc23 rfl rfl rfl rfl ?_)
  refine zA (zQ 0 rfl ag25 rfl rfl ?_)
  refine zA (zK sl23 rfl rfl rfl rfl rfl (fun b29 => ?_))
  refine zA ?_
  refine qW 2 0 sl23 rfl rfl rfl rfl rfl rfl rfl (by unfold maxLen; omega) (by omega) hA (fun A30 c30 hA30 => ?_)
  refine zA (zB yO rfl rfl ?_)
  refine zA (zF 3 (M' := _ :: _ :: _ :: HA.blk _ [_, _, _, _, _] _ :: _) rfl rfl rfl rfl si23 rfl rfl rfl ?_)
  refine oK 1 [16, 15, 14, 3, 2, 1] rfl rfl (rO 3 rfl ?_)
  refine yB rfl rfl (by omega) (oR 3 rfl ?_)
  refine wB 1 0 rfl rfl rfl ?_
  exact kQ (hK (i + 1, _, _, _, _, _) (⟨by show i + 1 ≤ _; omega, hF.stepN h17 h22, hOk _ _ hO, hA30⟩) (by show t.items.length - (i + 1) < t.items.length - i; omega)) (eC rfl (eC rfl (eC rfl (eC rfl (eC rfl (eC rfl (eN _))))))) (hM := (by repeat (first | exact xS _ | exact yC _ | refine zC 0 rfl ?_ | refine zC 1 rfl ?_ | refine zC 2 rfl ?_ | refine zC 3 rfl ?_ | refine zC 4 rfl ?_ | refine zC 5 rfl ?_ | refine zC 6 rfl ?_ | refine zC 7 rfl ?_ | refine zC 8 rfl ?_ | refine uP ?_))) (hD := (by intro d hd; refine (List.mem_cons.1 hd).elim (fun e => e ▸ (by (repeat (first | exact List.mem_cons_self | apply List.mem_cons_of_mem)))) (fun hd => ?_); refine (List.mem_cons.1 hd).elim (fun e => e ▸ (by (repeat (first | exact List.mem_cons_self | apply List.mem_cons_of_mem)))) (fun hd => ?_); repeat (first | exact hd | apply List.mem_cons_of_mem)))
 obtain rfl : i = t.items.length := by omega
 rw [List.take_length] at hF
 have hlen := hF.len
 refine rO 4 rfl (zQ 1 rfl ag25 rfl rfl ?_)
 refine zA (zF 2 (M' := _ :: _ :: HA.blk _ [_, _, _, _, _] _ :: _) rfl rfl rfl rfl si25 rfl rfl rfl ?_)
 refine zZ (run_frValsF 0 0 ts hA rfl rfl hlen.symm ?_)
 refine wH (q := t.kind) (m := 0) (s := ⟨#[]⟩) 3 0 rfl rfl (by decide) ?_
 exact yZ 1 Tryz.results94 rfl rfl ag25 ⟨a, _, _, ⟨ts, hF, rfl⟩, rfl, ⟨_, _, _, _, by simp only [V.kind, V.num, V.text, V.keys, V.items, hlen]; rfl, rfl⟩, rfl⟩ (by repeat (first | exact List.nil_sublist _ | exact List.Sublist.refl _ | apply List.Sublist.cons)) (by intro d hd; refine (List.mem_cons.1 hd).elim (fun e => e ▸ (by (repeat (first | exact List.mem_cons_self | apply List.mem_cons_of_mem)))) (fun hd => ?_); refine (List.mem_cons.1 hd).elim (fun e => e ▸ (by (repeat (first | exact List.mem_cons_self | apply List.mem_cons_of_mem)))) (fun hd => ?_); repeat (first | exact hd | apply List.mem_cons_of_mem))
theorem c54g {α : Type} {X : α → List HA} {DX : α → DA} {Ok : Nat → α → Prop} {Rl : V → α → α → V → Prop} (hOk : ∀ k a, Ok (k + 1) a → Ok k a) (key : ByteArray) (t : V) (x : Value) (f : FuncId) (fst cap : Array Value) (hkl : t.keys.length ≤ 1000000) (hil : t.items.length ≤ 1000000) (hf : ∀ own ∈ kidsOf (shapeOf key) t, FnR X DX Ok Rl f fst cap own) (a0 : α) (h0 : Ok (t.items.length + 1) a0) : Ct Tryz.prog 54 #[.string key, x, .func (.func f) fst cap] (X a0) [.val x t, DX a0] (fun u M' D' => ∃ a' v' D1, TurnR Rl (shapeOf key) t a0 a' v' ∧ M' = X a' ∧ RV v' u D1 ∧ D' = D1 ++ [DX a']) := by
 refine Ct.of_run (args := [.string key, x, .func (.func f) fst cap]) Tryz.func54 (by kernel_rfl) rfl Tryz.ntmps54 rfl (fun c => ?_)
 refine yW 0 rfl (fun A1 c1 A2 c2 hx hs hk1 hk2 hi1 hi2 => ?_)
 subst hx
 unfold maxLen at hi2 hk2
 refine rO 3 rfl (yN rfl rfl rfl (fun b4 => ?_))
 refine zA (yN rfl rfl rfl (fun b5 => ?_))
 refine zA (zR ze25 rfl (fun b6 => ?_))
 change RunOps _ _ _ _ _ _ _ _ (HA.blk _ [_, _, _, _, _] _ :: _) _
 refine oO 4 rfl (rI rfl rfl rfl ?_)
 refine oO 9 rfl (zN rfl rfl rfl (c53 key) sub0 ?_)
 refine oR 9 rfl (zO rfl (fun h11 => ?_) (fun h11 => ?_))
 ·refine rO 3 rfl (zH 1 sc27 rfl rfl rfl rfl ?_)
  refine zA (zQ 2 rfl ag25 rfl rfl ?_)
  refine zA ?_
  refine qK (pre := [_, _, _]) rfl rfl rfl (hf t (by simp [kidsOf, *]) _ a0 _ h0) rfl (sub2 2 3 rfl rfl) (fun u15 M15 D15 hv15 => ?_)
  obtain ⟨a15, v15, D15, hR15, hO15, rfl, ⟨A15, c15, B15, d15, rfl, rfl⟩, rfl⟩ := hv15
  refine zA (zF 0 (M' := HA.blk _ [_, _, _, _, _] _ :: _) rfl rfl rfl rfl si25 rfl rfl rfl ?_)
  refine oK 1 [6] rfl rfl ?_
  have e : TurnR Rl (shapeOf key) t a0 a15 v15 := by simp [TurnR, *]
  exact yZ 0 Tryz.results54 rfl rfl ag25 ⟨a15, v15, _, e, rfl, ⟨_, _, _, _, rfl, rfl⟩, rfl⟩ (by repeat (first | exact List.nil_sublist _ | exact List.Sublist.refl _ | apply List.Sublist.cons)) (sub2 0 1 rfl rfl)
 refine rR 7 rfl (zO rfl (fun h16 => ?_) (fun h16 => ?_))
 ·refine rO 3 rfl (zB vJ rfl rfl ?_)
  refine zA (zH 2 sc2 rfl rfl rfl rfl ?_)
  refine oK 3 [20, 6, 5, 4] rfl rfl (zO rfl (fun h20 => ?_) (fun h20 => ?_))
  ·refine rO 3 rfl (zH 1 sc27 rfl rfl rfl rfl ?_)
   refine zA (zQ 2 rfl ag25 rfl rfl ?_)
   refine zA ?_
   refine qK (pre := [_, _, _]) rfl rfl rfl (hf t (by simp [kidsOf, *]) _ a0 _ h0) rfl (sub2 2 3 rfl rfl) (fun u23 M23 D23 hv23 => ?_)
   obtain ⟨a23, v23, D23, hR23, hO23, rfl, ⟨A23, c23, B23, d23, rfl, rfl⟩, rfl⟩ := hv23
   refine zA (zF 0 (M' := HA.blk _ [_, _, _, _, _] _ :: _) rfl rfl rfl rfl si25 rfl rfl rfl ?_)
   refine zZ ?_
   have e : TurnR Rl (shapeOf key) t a0 a23 v23 := by simp [TurnR, *]
   exact yZ 0 Tryz.results54 rfl rfl ag25 ⟨a23, v23, _, e, rfl, ⟨_, _, _, _, rfl, rfl⟩, rfl⟩ (by repeat (first | exact List.nil_sublist _ | exact List.Sublist.refl _ | apply List.Sublist.cons)) (sub2 0 1 rfl rfl)
  refine rO 5 rfl (zQ 2 rfl ag25 rfl rfl ?_)
  refine zA (zF 0 (M' := HA.blk _ [_, _, _, _, _] _ :: _) rfl rfl rfl rfl si25 rfl rfl rfl ?_)
  refine zZ ?_
  have e : TurnR Rl (shapeOf key) t a0 a0 t := by simp [TurnR, *]
  exact yZ 0 Tryz.results54 rfl rfl ag25 ⟨a0, t, _, e, rfl, ⟨_, _, _, _, rfl, rfl⟩, rfl⟩ (by repeat (first | exact List.nil_sublist _ | exact List.Sublist.refl _ | apply List.Sublist.cons)) (sub2 2 3 rfl rfl)
 refine rK 7 [24, 10, 7, 6, 5, 4] rfl rfl (zO rfl (fun h24 => ?_) (fun h24 => ?_))
 ·refine rO 4 rfl (zB vJ rfl rfl ?_)
  refine zA (zH 2 sc2 rfl rfl rfl rfl ?_)
  refine oR 3 rfl (zO rfl (fun h28 => ?_) (fun h28 => ?_))
  ·refine rO 3 rfl (zH 1 sc27 rfl rfl rfl rfl ?_)
   refine zA (zQ 2 rfl ag25 rfl rfl ?_)
   refine zA ?_
   refine qK (pre := [_, _, _]) rfl rfl rfl (hf t (by simp [kidsOf, *]) _ a0 _ h0) rfl (sub2 2 3 rfl rfl) (fun u31 M31 D31 hv31 => ?_)
   obtain ⟨a31, v31, D31, hR31, hO31, rfl, ⟨A31, c31, B31, d31, rfl, rfl⟩, rfl⟩ := hv31
   refine zA (zF 0 (M' := HA.blk _ [_, _, _, _, _] _ :: _) rfl rfl rfl rfl si25 rfl rfl rfl ?_)
   refine oK 1 [6] rfl rfl ?_
   have e : TurnR Rl (shapeOf key) t a0 a31 v31 := by simp [TurnR, *]
   exact yZ 0 Tryz.results54 rfl rfl ag25 ⟨a31, v31, _, e, rfl, ⟨_, _, _, _, rfl, rfl⟩, rfl⟩ (by repeat (first | exact List.nil_sublist _ | exact List.Sublist.refl _ | apply List.Sublist.cons)) (sub2 0 1 rfl rfl)
  refine rS 5 rfl (ops_he (HE.perm (.cons _ (List.Perm.swap _ _ _))) ?_)
  refine zA ?_
  refine qK (pre := [_]) rfl rfl rfl (c94g hOk t f fst cap hkl hil (fun own ho hk5 => hf own (by simp [kidsOf, *])) b4 b5 _ _ _ _ a0 (hOk _ _ h0)) rfl (sub2 2 3 rfl rfl) (fun u33 M33 D33 hv33 => ?_)
  obtain ⟨a33, v33, D33, hR33, rfl, ⟨A33, c33, B33, d33, rfl, rfl⟩, rfl⟩ := hv33
  refine zA (zF 0 (M' := HA.blk _ [_, _, _, _, _] _ :: _) rfl rfl rfl rfl si25 rfl rfl rfl ?_)
  refine oK 1 [6] rfl rfl ?_
  have e : TurnR Rl (shapeOf key) t a0 a33 v33 := by simp [TurnR, *]
  exact yZ 0 Tryz.results54 rfl rfl ag25 ⟨a33, v33, _, e, rfl, ⟨_, _, _, _, rfl, rfl⟩, rfl⟩ (by repeat (first | exact List.nil_sublist _ | exact List.Sublist.refl _ | apply List.Sublist.cons)) (sub2 0 1 rfl rfl)
 refine rR 8 rfl (wK rfl (fun h34 => ?_) (fun h34 => ?_))
 ·refine rS 6 rfl (ops_he (HE.perm (.cons _ (List.Perm.swap _ _ _))) ?_)
  refine zA ?_
  refine qK (pre := [_]) rfl rfl rfl (c94g hOk t f fst cap hkl hil (fun own ho hk5 => hf own (by simp [kidsOf, *])) b4 b5 _ _ _ _ a0 (hOk _ _ h0)) rfl (sub2 2 3 rfl rfl) (fun u38 M38 D38 hv38 => ?_)
  obtain ⟨a38, v38, D38, hR38, rfl, ⟨A38, c38, B38, d38, rfl, rfl⟩, rfl⟩ := hv38
  refine zA (zF 0 (M' := HA.blk _ [_, _, _, _, _] _ :: _) rfl rfl rfl rfl si25 rfl rfl rfl ?_)
  refine oK 1 [6] rfl rfl ?_
  have e : TurnR Rl (shapeOf key) t a0 a38 v38 := by simp [TurnR, *]
  exact yZ 0 Tryz.results54 rfl rfl ag25 ⟨a38, v38, _, e, rfl, ⟨_, _, _, _, rfl, rfl⟩, rfl⟩ (by repeat (first | exact List.nil_sublist _ | exact List.Sublist.refl _ | apply List.Sublist.cons)) (sub2 0 1 rfl rfl)
 refine rR 6 rfl (zO rfl (fun h34_1 => ?_) (fun h34_1 => ?_))
 ·refine rS 4 rfl (ops_he (HE.perm (.cons _ (List.Perm.swap _ _ _))) ?_)
  refine zA ?_
  refine qK (pre := [_]) rfl rfl rfl (c94g hOk t f fst cap hkl hil (fun own ho hk5 => hf own (by simp [kidsOf, *])) b4 b5 _ _ _ _ a0 (hOk _ _ h0)) rfl (sub2 2 3 rfl rfl) (fun u38 M38 D38 hv38 => ?_)
  obtain ⟨a38, v38, D38, hR38, rfl, ⟨A38, c38, B38, d38, rfl, rfl⟩, rfl⟩ := hv38
  refine zA (zF 0 (M' := HA.blk _ [_, _, _, _, _] _ :: _) rfl rfl rfl rfl si25 rfl rfl rfl ?_)
  refine oK 1 [6] rfl rfl ?_
  have e : TurnR Rl (shapeOf key) t a0 a38 v38 := by simp [TurnR, *]
  exact yZ 0 Tryz.results54 rfl rfl ag25 ⟨a38, v38, _, e, rfl, ⟨_, _, _, _, rfl, rfl⟩, rfl⟩ (by repeat (first | exact List.nil_sublist _ | exact List.Sublist.refl _ | apply List.Sublist.cons)) (sub2 0 1 rfl rfl)
 refine rO 5 rfl (zQ 2 rfl ag25 rfl rfl ?_)
 refine zA (zF 0 (M' := HA.blk _ [_, _, _, _, _] _ :: _) rfl rfl rfl rfl si25 rfl rfl rfl ?_)
 refine oK 1 [6] rfl rfl ?_
 have e : TurnR Rl (shapeOf key) t a0 a0 t := by simp [TurnR, *]
 exact yZ 0 Tryz.results54 rfl rfl ag25 ⟨a0, t, _, e, rfl, ⟨_, _, _, _, rfl, rfl⟩, rfl⟩ (by repeat (first | exact List.nil_sublist _ | exact List.Sublist.refl _ | apply List.Sublist.cons)) (sub2 2 3 rfl rfl)
abbrev KS := Option Addr × Nat × List Value × List V
def XK (b : Nat) (a : KS) : List HA := [.blk b [.slice a.1 a.2.2.2.length a.2.1] 23, .row a.1 a.2.2.2.length a.2.1 25 5 a.2.2.1]
def DK (a : KS) : DA := .its a.2.2.1 a.2.2.2
def OkK (k : Nat) (a : KS) : Prop := a.2.2.2.length + k ≤ 1000000
def RlK (own : V) (a a' : KS) (v : V) : Prop := a'.2.2.2 = a.2.2.2 ++ [own] ∧ v = own
theorem okK (k : Nat) (a : KS) (h : OkK (k + 1) a) : OkK k a := by unfold OkK at *; omega
theorem foldK {a0 a : KS} {l l' : List V} (h : FoldR RlK a0 l a l') : a.2.2.2 = a0.2.2.2 ++ l.filter (fun x => decide (x.kind = 5)) := by
  induction h with
  | nil => simp
  | pos h hk hr ih => rw [hr.1, ih, List.filter_append]; simp [hk]
  | neg h hk ih => rw [ih, List.filter_append]; simp [hk]
theorem turnK {sh : Int} {t : V} {a a' : KS} {v : V} (h : TurnR RlK sh t a a' v) : a'.2.2.2 = a.2.2.2 ++ kidsOf sh t := by
 have al : AllR RlK t a a' v → a'.2.2.2 = a.2.2.2 ++ t.items.filter (fun x => decide (x.kind = 5)) := fun ⟨ts, h, _⟩ => foldK h
 unfold TurnR at h
 unfold kidsOf
 split at h
 ·rename_i h5; rw [if_pos h5]; exact h.1
 rename_i h5; rw [if_neg h5]
 split at h
 ·rename_i h6
  rw [if_pos h6]
  split at h
  ·rename_i hk; rw [if_pos hk]; exact h.1
  ·rename_i hk; rw [if_neg hk, h.1]; simp
 rename_i h6; rw [if_neg h6]
 split at h
 ·rename_i h7
  rw [if_pos h7]
  split at h
  ·rename_i hk; rw [if_pos hk]; exact h.1
  ·rename_i hk; rw [if_neg hk]; exact al h
 rename_i h7; rw [if_neg h7]
 split at h
 ·rename_i h9; rw [if_pos h9]; exact al h
 ·rename_i h9; rw [if_neg h9, h.1]; simp
theorem c112 (b3 : Nat) (own : V) : FnR (XK b3) DK OkK RlK 112 #[] #[ptr b3] own := by
 intro k a x hO
 obtain ⟨A, ca, xs, out⟩ := a
 have hO : out.length + (k + 1) ≤ 1000000 := hO
 change Ct Tryz.prog 112 #[x, ptr b3] [.blk b3 [.slice A out.length ca] 23, .row A out.length ca 25 5 xs] [.val x own, .its xs out] _
 refine Ct.of_run (args := [x, ptr b3]) Tryz.func112 (by kernel_rfl) rfl Tryz.ntmps112 rfl (fun c => ?_)
 refine yW 0 rfl (fun A1 c1 A2 c2 hx hsz hk1 hk2 hi1 hi2 => ?_)
 subst hx
 refine rO 3 rfl (yN rfl rfl rfl (fun b2 => ?_))
 refine zA (zR ze25 rfl (fun b3 => ?_))
 change RunOps _ _ _ _ _ _ _ _ (HA.blk _ [_, _, _, _, _] _ :: _) _
 refine oR 2 rfl (yT yE ?_)
 refine tM 0 rfl wanted0 (yP 2 sc23 rfl rfl rfl) (tM 1 rfl wanted0 (wZ 1 rfl ag25 rfl) ?_)
 refine tM 2 rfl wanted0 (st_lenSl sl23 rfl) (zI 3 (by decide +kernel) ?_)
 refine zL (I2 := [[2, 1, 0]]) rfl wanted0 (by decide +kernel) (fun Kd hKd => ?_)
 refine zK sl23 rfl rfl rfl rfl rfl (fun b7 => ?_)
 refine hKd _ _ _ (vR (by repeat (first | exact List.nil_sublist _ | exact List.Sublist.refl _ | apply List.Sublist.cons)) sQ (zM)) (zI 4 (by decide +kernel) ?_)
 refine zL (I2 := [[]]) rfl wanted0 (by decide +kernel) (fun Kd hKd => ?_)
 refine op_apd 4 0 sl23 (fun A8 c8 => ?_)
 refine hKd _ _ _ (zD (zM)) (any_grpG (zC 4 rfl (yC _)) ?_)
 refine uM (zC 4 rfl (yC _)) 5 (xC _ _ _ _) rfl wanted0 (by decide +kernel) (by decide +kernel) (by decide +kernel) rfl (st_idxRowL 0 sl23 rfl rfl rfl (by omega)) (tH (rs := [6, 7]) (by decide +kernel) (by simp) ?_)
 intro j hj
 simp only [List.mem_cons, List.not_mem_nil, or_false] at hj
 rcases hj with rfl | rfl
 ·refine zL (I2 := [[], []]) rfl wanted0 (by decide +kernel) (fun Kd hKd => ?_)
  refine qV 4 rfl rfl rfl rfl rfl rfl si25 rfl (hKd _ _ _ (zD (zD (zM))) ?_)
  refine zI 7 (by decide +kernel) ?_
  refine zL (I2 := [[], []]) rfl wanted0 (by decide +kernel) (fun Kd hKd => ?_)
  refine zF 3 (M' := [_, _, _, HA.blk _ [_] _, _]) rfl rfl rfl rfl si23 rfl rfl rfl (hKd _ _ _ (zD (zD (zM))) ?_)
  refine yD (by decide +kernel) (rO 3 rfl ?_)
  refine zQ 2 rfl ag25 rfl rfl (zA ?_)
  refine zF 1 (M' := [_, HA.blk _ [_, _, _, _, _] _, _, _, _]) rfl rfl rfl rfl si25 rfl rfl rfl (oK 1 [3] rfl rfl ?_)
  refine wB 3 2 rfl rfl rfl ?_
  have e : out.length + 1 = (out ++ [own]).length := by simp
  rw [e]
  exact yZ 1 Tryz.results112 rfl rfl ag25 ⟨(A8, c8, _, out ++ [own]), own, _, ⟨rfl, rfl⟩, (by show (out ++ [own]).length + k ≤ _; rw [← e]; omega), rfl, ⟨_, _, _, _, rfl, rfl⟩, rfl⟩ (by repeat (first | exact List.nil_sublist _ | exact List.Sublist.refl _ | apply List.Sublist.cons)) (sub2 3 0 rfl rfl)
 refine zL (I2 := [[5], []]) rfl wanted0 (by decide +kernel) (fun Kd hKd => ?_)
 refine zF 3 (M' := [_, _, _, HA.blk _ [_] _, _]) rfl rfl rfl rfl si23 rfl rfl rfl ?_
 refine hKd _ _ _ (vX (by repeat (first | exact xS _ | exact yC _ | refine zC 0 rfl ?_ | refine zC 1 rfl ?_ | refine zC 2 rfl ?_ | refine zC 3 rfl ?_ | refine zC 4 rfl ?_ | refine zC 5 rfl ?_ | refine zC 6 rfl ?_ | refine zC 7 rfl ?_ | refine zC 8 rfl ?_ | refine uP ?_)) sQ (zD (zM))) ?_
 refine zI 6 (by decide +kernel) ?_
 refine zL (I2 := [[], []]) rfl wanted0 (by decide +kernel) (fun Kd hKd => ?_)
 refine qV 4 rfl rfl rfl rfl rfl rfl si25 rfl (hKd _ _ _ (zD (zD (zM))) ?_)
 refine yD (by decide +kernel) (rO 3 rfl ?_)
 refine zQ 2 rfl ag25 rfl rfl (zA ?_)
 refine zF 1 (M' := [_, HA.blk _ [_, _, _, _, _] _, _, _, _]) rfl rfl rfl rfl si25 rfl rfl rfl (oK 1 [3] rfl rfl ?_)
 refine wB 3 2 rfl rfl rfl ?_
 have e : out.length + 1 = (out ++ [own]).length := by simp
 rw [e]
 exact yZ 1 Tryz.results112 rfl rfl ag25 ⟨(A8, c8, _, out ++ [own]), own, _, ⟨rfl, rfl⟩, (by show (out ++ [own]).length + k ≤ _; rw [← e]; omega), rfl, ⟨_, _, _, _, rfl, rfl⟩, rfl⟩ (by repeat (first | exact List.nil_sublist _ | exact List.Sublist.refl _ | apply List.Sublist.cons)) (sub2 3 0 rfl rfl)
def kidsTo (v : V) (i : Nat) : List V := ((v.keys.zip v.items).take i).flatMap (fun p => kidsOf (shapeOf p.1) p.2)
theorem kidsTo_step {v : V} {i : Nat} (h1 : i < v.keys.length) (h2 : i < v.items.length) : kidsTo v (i + 1) = kidsTo v i ++ kidsOf (shapeOf v.keys[i]) v.items[i] := by
 unfold kidsTo
 rw [List.take_add_one, (by rw [List.getElem?_zip_eq_some]; exact ⟨List.getElem?_eq_getElem h1, List.getElem?_eq_getElem h2⟩ : (v.keys.zip v.items)[i]? = some (v.keys[i], v.items[i])), List.flatMap_append]
 simp
theorem kidsTo_all {v : V} {i : Nat} (h : v.keys.length ≤ i) : kidsTo v i = kidsV v := by
 unfold kidsTo kidsV
 rw [List.take_of_length_le (by rw [List.length_zip]; omega)]
theorem kidsOf_len (sh : Int) (x : V) : (kidsOf sh x).length ≤ x.items.length + 1 := by
 have := List.length_filter_le (fun x : V => decide (x.kind = 5)) x.items
 unfold kidsOf
 (repeat' split) <;> simp <;> omega
theorem kidsTo_len {v : V} (hp : Pl v) (i : Nat) (h1 : i ≤ v.keys.length) (h2 : v.keys.length ≤ v.items.length) : (kidsTo v i).length ≤ 61 * i := by
  induction i with
  | zero => simp [kidsTo]
  | succ i ih =>
    rw [kidsTo_step (by omega) (by omega), List.length_append]
    have := ih (by omega)
    have h3 := kidsOf_len (shapeOf (v.keys[i]'(by omega))) (v.items[i]'(by omega))
    have h4 := (hp.item _ (List.getElem_mem (by omega : i < v.items.length))).len
    omega
theorem find_get {z : V} {key : ByteArray} (h : z.keys.length ≤ z.items.length) : (0 ≤ findI z.keys key) ↔ (getV z key).isSome = true := by
 rcases qE z.keys key with h1 | ⟨i, h1, h2⟩
 ·rw [getV_no (by omega), h1]; simp
 ·rw [getV_at h1 (by omega), h1]; simp
theorem deep_not {p : V → Prop} {v : V} (h : p v) : ¬ DeepV (fun z => ¬ p z) v := fun hd => ((wS _ _).1 hd).1 h
theorem deep_kid {p : V → Prop} {v z : V} (hz : z ∈ kidsV v) (h : ¬ DeepV (fun z => ¬ p z) z) : ¬ DeepV (fun z => ¬ p z) v := fun hd => h (((wS _ _).1 hd).2 z hz)
theorem without_filter (v : V) (key : ByteArray) : withoutV v key = filterV 5 0 ⟨#[]⟩ (fun k => !decide (k = key)) (fun _ x => x) v := rfl
theorem below_filter (g : V → V) (v : V) : belowV g v = filterV 5 0 ⟨#[]⟩ (fun _ => true) (fun k x => turnV (shapeOf k) g x) v := by
 unfold belowV filterV mkM
 rw [List.filter_eq_self.2 (fun _ _ => rfl), List.map_map, List.map_map]
 rfl

theorem c69 (v : V) (x : Value) (hp : Pl v) : CtR Tryz.prog 69 #[x] [.val x v] (fun u D' => ∃ A c, u = .slice A (kidsV v).length c ∧ D' = [.vals u (kidsV v)]) := by
 refine Ct.of_run (args := [x]) Tryz.func69 (by kernel_rfl) rfl Tryz.ntmps69 rfl (fun c => ?_)
 refine yW 0 rfl (fun A1 c1 A2 c2 hx hsz hk1 hk2 hi1 hi2 => ?_)
 subst hx
 unfold maxLen at hi2 hk2
 have hw := hp.wf
 have hkl := hw.kl
 have hil := hw.il
 have hlen := hw.le
 have h60 := hp.len
 refine rO 3 rfl (yN rfl rfl rfl (fun b1 => ?_))
 refine oO 6 rfl (uB sl23 rfl (fun b6 => ?_))
 refine zA (zR ze23 rfl (fun b3 => ?_))
 change RunOps _ _ _ _ _ _ _ _ (HA.blk _ [_] _ :: _) _
 refine zA (zF 0 (M' := [HA.blk _ [_] _, _, _]) rfl rfl rfl rfl si23 rfl rfl rfl ?_)
 refine oO 5 rfl (zB xB rfl rfl ?_)
 refine zA (zH 2 sc22 rfl rfl rfl rfl ?_)
 refine zA (zX sl22 rfl rfl ?_)
 refine oK 4 [10, 9, 8, 3, 1] rfl rfl (uY ?_)
 refine yH 1 (fun (⟨i, A, ca, xs, out⟩ : Nat × Option Addr × Nat × List Value × List V) => i ≤ v.keys.length ∧ out = kidsTo v i) (fun (⟨i, A, ca, xs, out⟩ : Nat × Option Addr × Nat × List Value × List V) => [(10, .int .i64 ((i : Nat) : Int))]) (fun (⟨i, A, ca, xs, out⟩ : Nat × Option Addr × Nat × List Value × List V) => HA.blk b3 [.slice A out.length ca] 23 :: HA.row A out.length ca 25 5 xs :: HA.blk b1 [.int .i64 v.kind, .int .i64 v.num, .string v.text, .slice A1 v.keys.length c1, .slice A2 v.items.length c2] 25 :: []) (fun (⟨i, A, ca, xs, out⟩ : Nat × Option Addr × Nat × List Value × List V) => .its xs out :: .strs (.slice A1 v.keys.length c1) v.keys :: .vals (.slice A2 v.items.length c2) v.items :: .val (.agg #[.int .i64 v.kind, .int .i64 v.num, .string v.text, .slice A1 v.keys.length c1, .slice A2 v.items.length c2]) v :: []) (fun (⟨i, A, ca, xs, out⟩ : Nat × Option Addr × Nat × List Value × List V) => v.keys.length - i) (0, some ⟨b6, 0, none⟩, 0, [], []) (⟨Nat.zero_le _, rfl⟩) (eC rfl (eN _)) rfl rfl ?_ (eC rfl (eC rfl (eC rfl (eC rfl (eN _)))))
 intro ⟨i, A, ca, xs, out⟩ hI K hK
 replace hI : i ≤ v.keys.length ∧ out = kidsTo v i := hI
 change Run _ _ _ _ _ [(10, _), (9, _), (8, _), (3, _), (1, _)] [_, _, _] [_, _, _, _]
 obtain ⟨hi, ho⟩ := hI
 have hol : out.length ≤ 61 * i := by rw [ho]; exact kidsTo_len hp i hi hlen
 refine rO 3 rfl (yM rfl rfl rfl ?_)
 refine oR 2 rfl (zO rfl (fun h11 => ?_) (fun h11 => ?_))
 ·refine rO 8 rfl (wM 1 sl22 rfl rfl rfl rfl h11 ?_)
  have hlt : i < v.items.length := by omega
  refine zA (yJ sc9 rfl rfl (fun _ h => wE h (j := 1) rfl (List.getElem?_eq_getElem h11)) ?_)
  refine oO 9 rfl (zB yO rfl rfl ?_)
  refine zA (zH 2 sc23 rfl rfl rfl rfl ?_)
  refine oO 3 rfl (xV 2 sl23 rfl rfl rfl rfl hlt ?_)
  refine zA (xQ 2 ag25 rfl rfl rfl (List.getElem?_eq_getElem hlt) (fun A20 c20 B20 d20 => ?_))
  refine zA (rI rfl rfl rfl ?_)
  refine zA ?_
  have hpi := hp.item _ (List.getElem_mem hlt)
  have hli := hpi.len
  refine vP (M1 := [_, _]) rfl rfl rfl (c54g okK (v.keys[i]'h11) (v.items[i]'hlt) _ 112 #[] #[ptr b3] hpi.wf.kl hpi.wf.il (fun own _ => c112 b3 own) (A, ca, xs, out) (by show out.length + _ ≤ 1000000; omega)) rfl (sub2 0 1 rfl rfl) (fun u22 M22 D22 hv22 => ?_)
  obtain ⟨⟨A22, ca22, xs22, out22⟩, v22, D22, hT, rfl, ⟨A23, c23, B23, d23, rfl, rfl⟩, rfl⟩ := hv22
  have hout : out22 = out ++ kidsOf (shapeOf v.keys[i]) v.items[i] := turnK hT
  refine oK 1 [10, 9, 8, 3, 1] rfl rfl (rO 3 rfl ?_)
  refine yB rfl rfl (by omega) (oR 3 rfl ?_)
  exact kQ (hK (i + 1, A22, ca22, xs22, out22) (⟨by show i + 1 ≤ _; omega, by rw [hout, ho, kidsTo_step h11 hlt]⟩) (by show v.keys.length - (i + 1) < v.keys.length - i; omega)) (eC rfl (eC rfl (eC rfl (eC rfl (eC rfl (eN _)))))) (hD := (by intro d hd; refine (List.mem_cons.1 hd).elim (fun e => e ▸ (by (repeat (first | exact List.mem_cons_self | apply List.mem_cons_of_mem)))) (fun hd => ?_); repeat (first | exact hd | apply List.mem_cons_of_mem)))
 obtain rfl : i = v.keys.length := by omega
 have hov : out = kidsV v := by rw [ho]; exact kidsTo_all (Nat.le_refl _)
 refine rO 4 rfl (zH 0 sc23 rfl rfl rfl rfl ?_)
 refine oR 3 rfl (vS 1 0 out rfl rfl (by intro b h; cases h) rfl ?_)
 subst hov
 exact zE Tryz.results69 rfl ⟨rfl, A, ca, rfl, rfl⟩ nS (sub1 0 rfl)
theorem c70 (f : FuncId) (p : V → Prop) (hf : ∀ z, Pl z → ∀ y, CtV Tryz.prog f #[y] [.val y z] (.bool (tb (p z)))) (v : V) : Pl v → ∀ x, CtV Tryz.prog 70 #[x, .func (.func f) #[] #[]] [.val x v] (.bool (tb (¬ DeepV (fun z => ¬ p z) v))) := by
 refine V.indS (p := fun v => Pl v → ∀ x, CtV Tryz.prog 70 #[x, .func (.func f) #[] #[]] [.val x v] (.bool (tb (¬ DeepV (fun z => ¬ p z) v)))) ?_ v
 intro v IH hp x
 refine Ct.of_run (args := [x, .func (.func f) #[] #[]]) Tryz.func70 (by kernel_rfl) rfl Tryz.ntmps70 rfl (fun c => ?_)
 refine yW 0 rfl (fun A1 c1 A2 c2 hx hsz hk1 hk2 hi1 hi2 => ?_)
 subst hx
 unfold maxLen at hi2 hk2
 refine rO 3 rfl (yN rfl rfl rfl (fun b2 => ?_))
 refine oO 9 rfl (zQ 0 rfl ag25 rfl rfl ?_)
 refine zA (zN rfl rfl rfl (hf v hp _) (sub1 2 rfl) ?_)
 refine zZ (yF rfl (fun h9 => ?_) (fun h9 => ?_))
 ·refine rR 5 rfl ?_
  exact zE Tryz.results70 rfl ⟨congrArg Value.bool (tb_t (deep_not (yR.1 h9))).symm, rfl, rfl⟩ nS (fun _ h => by cases h)
 refine rO 5 rfl (zQ 0 rfl ag25 rfl rfl ?_)
 refine zA (zT rfl rfl rfl (c69 v _ hp) (sub1 2 rfl) (fun u11 D11 hv11 => ?_))
 obtain ⟨A11, c11, rfl, rfl⟩ := hv11
 refine zA (zX sl23 rfl rfl ?_)
 refine oK 4 [13, 12, 11, 1] rfl rfl ?_
 refine uW (p := (kidsV v).length ≤ 9223372036854775807) (fun w ok h => by obtain ⟨A, c, hv, h1, h2, _⟩ : ValsP w ok (.slice A11 (kidsV v).length c11) (kidsV v) := dget h 0 rfl; unfold maxLen at h2; omega) (fun hkm => ?_)
 refine xT 1 (fun (i : Nat) => i ≤ (kidsV v).length ∧ ∀ j z, (kidsV v)[j]? = some z → j < i → DeepV (fun z => ¬ p z) z) (fun (i : Nat) => [(13, .int .i64 ((i : Nat) : Int))]) (fun (i : Nat) => (kidsV v).length - i) 0 (⟨Nat.zero_le _, fun _ _ _ h => absurd h (by omega)⟩) (eC rfl (eN _)) ?_ (eC rfl (eC rfl (eC rfl (eN _))))
 intro i hI K hK
 change Run _ _ _ _ _ [(13, _), (12, _), (11, _), (1, _)] _ _
 obtain ⟨hi, hno⟩ := hI
 refine rO 3 rfl (yM rfl rfl rfl ?_)
 refine oR 2 rfl (zO rfl (fun h14 => ?_) (fun h14 => ?_))
 ·refine rO 6 rfl ?_
  have hzm := List.getElem_mem h14
  refine xV 0 sl23 rfl rfl rfl rfl h14 (zA ?_)
  refine xQ 0 ag25 rfl rfl rfl (List.getElem?_eq_getElem h14) (fun A16 c16 B16 d16 => ?_)
  refine zA (zR ze25 rfl (fun b6 => ?_))
  change RunOps _ _ _ _ _ _ _ _ (HA.blk _ [_, _, _, _, _] _ :: _) _
  refine zA (zF 0 (M' := [HA.blk _ [_, _, _, _, _] _, _]) rfl rfl rfl rfl si25 rfl rfl rfl ?_)
  refine oO 4 rfl (zQ 0 rfl ag25 rfl rfl ?_)
  refine oO 3 rfl (zN rfl rfl rfl (IH _ (vD hzm) (kid_pl hp hzm) _) (sub1 0 rfl) ?_)
  refine zZ (yF rfl (fun h19 => ?_) (fun h19 => ?_))
  ·refine rK 5 [4] rfl rfl ?_
   exact zE Tryz.results70 rfl ⟨congrArg Value.bool (tb_t (deep_kid hzm (yR.1 h19))).symm, rfl, rfl⟩ nS (fun _ h => by cases h)
  refine rO 4 rfl (yB rfl rfl (by omega) ?_)
  refine oR 3 rfl ?_
  exact kQ (hK (i + 1) (⟨by omega, all_step hno h14 (Classical.not_not.1 (xW.1 h19))⟩) (by omega))
 refine rR 6 rfl ?_
 exact zE Tryz.results70 rfl ⟨congrArg Value.bool (tb_f (fun hn => hn ((wS _ _).2 ⟨xW.1 h9, all_end (by omega) hno⟩))).symm, rfl, rfl⟩ nS (fun _ h => by cases h)
theorem c80 (z : V) (hp : Pl z) (y : Value) : CtV Tryz.prog 80 #[y] [.val y z] (.bool (tb ((getV z k29).isSome = true ∧ (getV z k30).isSome = true))) := by
 refine Ct.of_run (args := [y]) Tryz.func80 (by kernel_rfl) rfl Tryz.ntmps80 rfl (fun c => ?_)
 refine yW 0 rfl (fun A1 c1 A2 c2 hx hsz hk1 hk2 hi1 hi2 => ?_)
 subst hx
 have hle := hp.wf.le
 refine rO 3 rfl (yN rfl rfl rfl (fun b1 => ?_))
 refine oO 6 rfl (zQ 0 rfl ag25 rfl rfl ?_)
 refine zA (zN rfl rfl rfl (c63 _ z _) (sub1 2 rfl) ?_)
 refine zA (qD rfl rfl rfl ?_)
 refine oS 2 rfl (yG (s := 6) rfl (fun h6 => ?_) (fun h6 => ?_))
 ·refine zJ rfl rfl (zQ 0 rfl ag25 rfl rfl ?_)
  refine zJ rfl rfl (zN rfl rfl rfl (c63 _ z _) (sub1 2 rfl) ?_)
  refine zJ rfl rfl (qD rfl rfl rfl ?_)
  refine oK 5 [2] rfl rfl ?_
  exact zE Tryz.results80 rfl ⟨congrArg Value.bool (eq_tb (by rw [decide_eq_true_iff]; rw [← find_get hle, ← find_get hle]; exact ⟨fun h => ⟨by simpa using h6, h⟩, fun h => h.2⟩)), rfl, rfl⟩ nS (fun _ h => by cases h)
 refine oK 8 [2] rfl rfl ?_
 exact zE Tryz.results80 rfl ⟨congrArg Value.bool (tb_f (fun hc => by rw [← find_get hle] at hc; exact absurd hc.1 (by simpa using h6))).symm, rfl, rfl⟩ nS (fun _ h => by cases h)
theorem c87 (t : V) (key : ByteArray) (x : Value) (hkl : t.keys.length ≤ 1000000) (hil : t.items.length ≤ 1000000) (hlen : t.keys.length ≤ t.items.length) : CtR Tryz.prog 87 #[x, .string key] [.val x t] (RV (withoutV t key)) := by
 refine Ct.of_run (args := [x, .string key]) Tryz.func87 (by kernel_rfl) rfl Tryz.ntmps87 rfl (fun c => ?_)
 refine yW 0 rfl (fun A1 c1 A2 c2 hx hs hk1 hk2 hi1 hi2 => ?_)
 subst hx
 unfold maxLen at hi2 hk2
 refine vY 0 rfl (fun hksz => ?_)
 have hlt0 := hlen
 refine rO 3 rfl (yN rfl rfl rfl (fun b2 => ?_))
 refine zA (zR ze25 rfl (fun b4 => ?_))
 change RunOps _ _ _ _ _ _ _ _ (HA.blk _ [_, _, _, _, _] _ :: _) _
 refine oO 4 rfl (yS rfl rfl (bu25_0 ..) ?_)
 refine zA (zR ze25 rfl (fun b5 => ?_))
 change RunOps _ _ _ _ _ _ _ _ (HA.blk _ [_, _, _, _, _] _ :: _) _
 refine zA (zF 0 (M' := [HA.blk _ [_, _, _, _, _] _, _, _]) rfl rfl rfl rfl si25 rfl rfl rfl ?_)
 refine oO 5 rfl (zB xB rfl rfl ?_)
 refine zA (zH 2 sc22 rfl rfl rfl rfl ?_)
 refine zA (zX sl22 rfl rfl ?_)
 refine oK 4 [12, 11, 10, 5, 4, 2, 1] rfl rfl (xN 25 5 ?_)
 refine xN 9 1 (uY ?_)
 refine yH 1 (fun (⟨i, nk, Ak, ck, xk, A, ca, xs, ts⟩ : Nat × Nat × Option Addr × Nat × List Value × Option Addr × Nat × List Value × List V) => Kept (fun k => !decide (k = key)) (fun k v => v) t i nk xk ts) (fun (⟨i, nk, Ak, ck, xk, A, ca, xs, ts⟩ : Nat × Nat × Option Addr × Nat × List Value × Option Addr × Nat × List Value × List V) => [(12, .int .i64 ((i : Nat) : Int))]) (fun (⟨i, nk, Ak, ck, xk, A, ca, xs, ts⟩ : Nat × Nat × Option Addr × Nat × List Value × Option Addr × Nat × List Value × List V) => HA.row Ak nk ck 9 1 xk :: HA.row A nk ca 25 5 xs :: HA.blk b5 [.int .i64 5, .int .i64 0, .string ⟨#[]⟩, .slice Ak nk ck, .slice A nk ca] 25 :: HA.blk b4 [.int .i64 0, .int .i64 0, .string ⟨#[]⟩, .slice none 0 0, .slice none 0 0] 25 :: HA.blk b2 [.int .i64 t.kind, .int .i64 t.num, .string t.text, .slice A1 t.keys.length c1, .slice A2 t.items.length c2] 25 :: []) (fun (⟨i, nk, Ak, ck, xk, A, ca, xs, ts⟩ : Nat × Nat × Option Addr × Nat × List Value × Option Addr × Nat × List Value × List V) => .its xs ts :: .strs (.slice A1 t.keys.length c1) t.keys :: .vals (.slice A2 t.items.length c2) t.items :: .val (.agg #[.int .i64 t.kind, .int .i64 t.num, .string t.text, .slice A1 t.keys.length c1, .slice A2 t.items.length c2]) t :: []) (fun (⟨i, nk, Ak, ck, xk, A, ca, xs, ts⟩ : Nat × Nat × Option Addr × Nat × List Value × Option Addr × Nat × List Value × List V) => t.keys.length - i) (0, 0, none, 0, [], none, 0, [], []) (Kept.zero _ _ _) (eC rfl (eN _)) rfl rfl ?_ (eC rfl (eC rfl (eC rfl (eC rfl (eC rfl (eC rfl (eN _)))))))
 intro ⟨i, nk, Ak, ck, xk, A, ca, xs, ts⟩ hI K hK
 replace hI : Kept (fun k => !decide (k = key)) (fun k v => v) t i nk xk ts := hI
 change Run _ _ _ _ _ [(12, _), (11, _), (10, _), (5, _), (4, _), (2, _), (1, _)] [_, _, _, _, _] [_, _, _, _]
 have hkn := hI.len
 refine rO 3 rfl (yM rfl rfl rfl ?_)
 refine oR 2 rfl (zO rfl (fun h13 => ?_) (fun h13 => ?_))
 ·refine rO 8 rfl (wM 1 sl22 rfl rfl rfl rfl (by omega) ?_)
  refine zA (yJ sc9 rfl rfl (fun _ h => wE h (j := 1) rfl (List.getElem?_eq_getElem h13)) ?_)
  refine oO 12 rfl (op_sneq rfl rfl rfl ?_)
  refine oK 1 [19, 7, 6, 12, 11, 10, 5, 4, 2, 1] rfl rfl (yF rfl (fun h19 => ?_) (fun h19 => ?_))
  ·refine rO 3 rfl (zB xB rfl rfl ?_)
   refine zA (zH 2 sc22 rfl rfl rfl rfl ?_)
   refine oO 3 rfl (zK sl22 rfl rfl rfl rfl rfl (fun b23 => ?_))
   refine zA ?_
   refine op_apd 1 0 sl22 (fun A24 c24 => ?_)
   refine zA (zB xB rfl rfl ?_)
   refine zA (zF 3 (M' := [_, _, _, HA.blk _ [_, _, _, _, _] _, _, _]) rfl rfl rfl rfl si22 rfl rfl rfl ?_)
   refine oK 1 [6, 12, 11, 10, 5, 4, 2, 1] rfl rfl (yT yE ?_)
   refine zS (tP 0 rfl wanted0 (zU yO rfl) ?_)
   refine tP 2 rfl wanted0 (zU yO rfl) (tP 4 rfl wanted0 (zW rfl) ?_)
   refine yA (tM 1 rfl wanted0 (yP 3 sc23 rfl rfl rfl) ?_)
   refine tM 3 rfl wanted0 (yP 5 sc23 rfl rfl rfl) (tM 5 rfl wanted0 (wT 2 sl23 rfl rfl rfl (by omega)) ?_)
   have hlt : i < t.items.length := by omega
   refine vZ 2 rfl (List.getElem?_eq_getElem hlt) (fun vs32 hl32 => ?_)
   refine any_open (p := ∃ A c B d, vs32 = [.int .i64 t.items[i].kind, .int .i64 t.items[i].num, .string t.items[i].text, .slice A t.items[i].keys.length c, .slice B t.items[i].items.length d]) (fun w ok h => by
    obtain ⟨A, c, B, d, hy⟩ := valp_shape (dget h 1 rfl)
    injection hy with hy
    exact ⟨A, c, B, d, congrArg Array.toList hy⟩) (fun ⟨A32, c32, B32, d32, e32⟩ => ?_)
   subst e32
   refine yA (tM 6 rfl wanted0 (uA 0 hl32 ag25 rfl rfl) ?_)
   refine zI 7 (by decide +kernel) ?_
   refine zL (I2 := [[], [1], [0], []]) rfl wanted0 (by decide +kernel) (fun Kd hKd => ?_)
   refine zK sl23 rfl rfl rfl rfl rfl (fun b33 => ?_)
   refine hKd _ _ _ (zD (hC (hC (zD (zM))))) (zI 8 (by decide +kernel) ?_)
   refine zL (I2 := [[], [], [], []]) rfl wanted0 (by decide +kernel) (fun Kd hKd => ?_)
   refine op_apd 3 0 sl23 (fun A34 c34 => ?_)
   refine hKd _ _ _ (zD (zD (zD (zD (zM))))) (zS ?_)
   refine tP 9 rfl wanted0 (zU yO rfl) (zI 10 (by decide +kernel) ?_)
   refine zL (I2 := [[], [], [], [], []]) rfl wanted0 (by decide +kernel) (fun Kd hKd => ?_)
   refine zF 4 (M' := [_, _, _, _, HA.blk _ [_, _, _, _, _] _, _, _]) rfl rfl rfl rfl si23 rfl rfl rfl (hKd _ _ _ (zD (zD (zD (zD (zD (zM)))))) ?_)
   refine yD (by decide +kernel) (rK 0 [12, 11, 10, 5, 4, 2, 1] rfl rfl ?_)
   refine rO 3 rfl (yB rfl rfl (by omega) ?_)
   refine oR 3 rfl (wB 2 1 rfl rfl rfl ?_)
   exact kQ (hK (i + 1, _, _, _, _, _, _, _, _) (hI.pos (by omega) (by omega) (by simpa using h19)) (by show t.keys.length - (i + 1) < t.keys.length - i; omega)) (eC rfl (eC rfl (eC rfl (eC rfl (eC rfl (eC rfl (eC rfl (eN _)))))))) (hD := (by intro d hd; first | exact subc 0 rfl sQ d hd | (repeat (first | exact hd | apply List.mem_cons_of_mem))))
  refine rO 4 rfl (yB rfl rfl (by omega) ?_)
  refine oR 3 rfl ?_
  exact kQ (hK (i + 1, _, _, _, _, _, _, _, _) (hI.neg (by omega) (by omega) (by simpa using h19)) (by show t.keys.length - (i + 1) < t.keys.length - i; omega)) (eC rfl (eC rfl (eC rfl (eC rfl (eC rfl (eC rfl (eC rfl (eN _)))))))) (hD := (by intro d hd; first | exact subc 0 rfl sQ d hd | (repeat (first | exact hd | apply List.mem_cons_of_mem))))
 refine rO 4 rfl (zQ 2 rfl ag25 rfl rfl ?_)
 refine zA (zF 3 (M' := [_, _, _, HA.blk _ [_, _, _, _, _] _, _]) rfl rfl rfl rfl si25 rfl rfl rfl ?_)
 refine zZ ?_
 obtain ⟨hi, hnk, hxk, hts⟩ := hI
 refine wC 0 ((kept (fun k => !decide (k = key)) t i).map (·.1)) rfl (by intro b h; cases h) (by rw [hxk, List.map_map]; rfl) (kept_key hksz) (vS 0 1 ts rfl rfl (by intro b h; cases h) (by rw [hts, List.length_map]; exact hnk) ?_)
 refine wH (q := 5) (m := 0) (s := ⟨#[]⟩) 1 0 rfl rfl (by decide) ?_
 subst hts
 rw [without_filter, rT (i := i) (by omega)]
 exact yZ 1 Tryz.results87 rfl rfl ag25 ⟨rfl, _, _, _, _, by simp only [V.kind, V.num, V.text, V.keys, V.items, List.length_map, ← hnk]; rfl, rfl⟩ nS (sub1 0 rfl)
end Go.Jw

