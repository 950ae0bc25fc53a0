/- FnMergedCardSaid, for every input: what stands in allOf is merged into the schema around it: part 6, the proof's texts, made small by a program. -/
import Derived.Test.YtlcfillobkdnmaaGreatDoorTm5
import Derived.Test.YtlcfillobkdnmaaGreatDoorRows
import Derived.ProofKit
import Derived.Deep.Slices
import Derived.SliceStrings
import Derived.Lib.LaidTab
import Derived.LaidByTextLater
import Derived.SevenTiedAt
import Derived.LaidSub
import Derived.LaidOnce
import Derived.Test.YtlcfillobkdnmaaGreatDoorCards
import Derived.OpenShut
import Derived.Deep.DeepHandedRow
import Derived.Deep.DeepWitnessRowRef
import Derived.RowKit
import Derived.DataWitness
import Derived.LaidLaws
import Derived.ChangeMaps5
set_option linter.unusedVariables false
set_option linter.unusedSimpArgs false
set_option maxHeartbeats 4000000
namespace Go.Jw
open Go Go.RowKit Go.Proofs
set_option maxRecDepth 8000
theorem below_kl {g : V → V} {v : V} (hw : Wf v) : (belowV g v).keys.length ≤ 1000000 := by
 have h := hw.kl
 show (List.map _ (List.map _ _)).length ≤ _
 rw [List.length_map, List.length_map, List.length_zip]
 omega
theorem below_il {g : V → V} {v : V} (hw : Wf v) : (belowV g v).items.length ≤ 1000000 := by
 have h := hw.il
 show (List.map _ (List.map _ _)).length ≤ _
 rw [List.length_map, List.length_map, List.length_zip]
 omega
theorem without_kl {v : V} {key : ByteArray} (h1 : v.keys.length ≤ 1000000) : (withoutV v key).keys.length ≤ 1000000 := by
 have h2 : (withoutV v key).keys.length = ((v.keys.zip v.items).filter (fun q => !decide (q.1 = key))).length := by
  show (List.map _ _).length = _
  rw [List.length_map]
 have h3 := List.length_filter_le (fun q : ByteArray × V => !decide (q.1 = key)) (v.keys.zip v.items)
 rw [List.length_zip] at h3
 omega

theorem c120 (f : FuncId) (g : V → V) (t : V) (x : Value) (hw : Wf t) (hlt0 : t.keys.length ≤ t.items.length) (hf : ∀ own, SizeOf.sizeOf own < SizeOf.sizeOf t → Wf own → ∀ y, CtR Tryz.prog f #[y] [.val y own] (RV (g own))) : CtR Tryz.prog 120 #[x, .func (.func f) #[] #[]] [.val x t] (RV (belowV g t)) := by
 refine Ct.of_run (args := [x, .func (.func f) #[] #[]]) Tryz.func120 (by kernel_rfl) rfl Tryz.ntmps120 rfl (fun c => ?_)
 refine yW 0 rfl (fun A1 c1 A2 c2 hx hs hk1 hk2 hi1 hi2 => ?_)
 subst hx
 unfold maxLen at hi2 hk2
 refine vY 0 rfl (fun hksz => ?_)
 have hkl := hw.kl
 have hil := hw.il
 have hlen := hw.le
 refine rO 3 rfl (yN rfl rfl rfl (fun b2 => ?_))
 refine zA (zR ze25 rfl (fun b4 => ?_))
 change RunOps _ _ _ _ _ _ _ _ (HA.blk _ [_, _, _, _, _] _ :: _) _
 refine oO 4 rfl (yS rfl rfl (bu25_0 ..) ?_)
 refine zA (zR ze25 rfl (fun b5 => ?_))
 change RunOps _ _ _ _ _ _ _ _ (HA.blk _ [_, _, _, _, _] _ :: _) _
 refine zA (zF 0 (M' := [HA.blk _ [_, _, _, _, _] _, _, _]) rfl rfl rfl rfl si25 rfl rfl rfl ?_)
 refine oO 5 rfl (zB xB rfl rfl ?_)
 refine zA (zH 2 sc22 rfl rfl rfl rfl ?_)
 refine zA (zX sl22 rfl rfl ?_)
 refine oK 4 [12, 11, 10, 5, 4, 2, 1] rfl rfl (xN 25 5 ?_)
 refine xN 9 1 (uY ?_)
 refine yH 1 (fun (⟨i, nk, Ak, ck, xk, A, ca, xs, ts⟩ : Nat × Nat × Option Addr × Nat × List Value × Option Addr × Nat × List Value × List V) => Kept (fun _ => true) (fun k v => turnV (shapeOf k) g v) t i nk xk ts) (fun (⟨i, nk, Ak, ck, xk, A, ca, xs, ts⟩ : Nat × Nat × Option Addr × Nat × List Value × Option Addr × Nat × List Value × List V) => [(12, .int .i64 ((i : Nat) : Int))]) (fun (⟨i, nk, Ak, ck, xk, A, ca, xs, ts⟩ : Nat × Nat × Option Addr × Nat × List Value × Option Addr × Nat × List Value × List V) => HA.row Ak nk ck 9 1 xk :: HA.row A nk ca 25 5 xs :: HA.blk b5 [.int .i64 5, .int .i64 0, .string ⟨#[]⟩, .slice Ak nk ck, .slice A nk ca] 25 :: HA.blk b4 [.int .i64 0, .int .i64 0, .string ⟨#[]⟩, .slice none 0 0, .slice none 0 0] 25 :: HA.blk b2 [.int .i64 t.kind, .int .i64 t.num, .string t.text, .slice A1 t.keys.length c1, .slice A2 t.items.length c2] 25 :: []) (fun (⟨i, nk, Ak, ck, xk, A, ca, xs, ts⟩ : Nat × Nat × Option Addr × Nat × List Value × Option Addr × Nat × List Value × List V) => .its xs ts :: .strs (.slice A1 t.keys.length c1) t.keys :: .vals (.slice A2 t.items.length c2) t.items :: .val (.agg #[.int .i64 t.kind, .int .i64 t.num, .string t.text, .slice A1 t.keys.length c1, .slice A2 t.items.length c2]) t :: []) (fun (⟨i, nk, Ak, ck, xk, A, ca, xs, ts⟩ : Nat × Nat × Option Addr × Nat × List Value × Option Addr × Nat × List Value × List V) => t.keys.length - i) (0, 0, none, 0, [], none, 0, [], []) (Kept.zero _ _ _) (eC rfl (eN _)) rfl rfl ?_ (eC rfl (eC rfl (eC rfl (eC rfl (eC rfl (eC rfl (eN _)))))))
 intro ⟨i, nk, Ak, ck, xk, A, ca, xs, ts⟩ hI K hK
 replace hI : Kept (fun _ => true) (fun k v => turnV (shapeOf k) g v) t i nk xk ts := hI
 change Run _ _ _ _ _ [(12, _), (11, _), (10, _), (5, _), (4, _), (2, _), (1, _)] [_, _, _, _, _] [_, _, _, _]
 have hkn := hI.len
 refine rO 3 rfl (yM rfl rfl rfl ?_)
 refine oR 2 rfl (zO rfl (fun h13 => ?_) (fun h13 => ?_))
 ·refine rO 8 rfl (wM 1 sl22 rfl rfl rfl rfl (by omega) ?_)
  refine zA (yJ sc9 rfl rfl (fun _ h => wE h (j := 1) rfl (List.getElem?_eq_getElem h13)) ?_)
  refine oO 8 rfl (zB xB rfl rfl ?_)
  refine zA (zH 2 sc22 rfl rfl rfl rfl ?_)
  refine oO 3 rfl (zK sl22 rfl rfl rfl rfl rfl (fun b20 => ?_))
  refine zA ?_
  refine op_apd 1 0 sl22 (fun A21 c21 => ?_)
  refine zA (zB xB rfl rfl ?_)
  refine zA (zF 3 (M' := [_, _, _, HA.blk _ [_, _, _, _, _] _, _, _]) rfl rfl rfl rfl si22 rfl rfl rfl ?_)
  refine oK 1 [7, 6, 12, 11, 10, 5, 4, 2, 1] rfl rfl (yT yE ?_)
  refine zS (tP 0 rfl wanted0 (zU yO rfl) ?_)
  refine tP 2 rfl wanted0 (zW rfl) (tP 3 rfl wanted0 (zU yO rfl) ?_)
  refine tP 5 rfl wanted0 (zW rfl) (tP 8 rfl wanted0 (zW rfl) ?_)
  refine yA (tM 1 rfl wanted0 (yP 3 sc23 rfl rfl rfl) ?_)
  refine tM 4 rfl wanted0 (yP 5 sc23 rfl rfl rfl) (tM 6 rfl wanted0 (wT 2 sl23 rfl rfl rfl (by omega)) ?_)
  have hlt : i < t.items.length := by omega
  refine vZ 2 rfl (List.getElem?_eq_getElem hlt) (fun vs30 hl30 => ?_)
  refine yA (tM 7 rfl wanted0 (uA 0 hl30 ag25 rfl rfl) ?_)
  refine zI 9 (by decide +kernel) ?_
  refine zL (I2 := [[], [1], [0], []]) rfl wanted0 (by decide +kernel) (fun Kd hKd => ?_)
  have hwi := hw.item _ (List.getElem_mem hlt)
  refine zT rfl rfl rfl (c54 _ (t.items[i]'hlt) _ f g hwi.kl hwi.il (fun own ho y => hf own (kid_size (List.getElem_mem hlt) ho) (kid_wf hw (List.getElem_mem hlt) ho) y)) (sub1 1 rfl) (fun u32 D32 hv32 => ?_)
  obtain ⟨A32, m32, B32, d32, rfl, rfl⟩ := hv32
  refine hKd _ _ _ (zD (hC (hC (zD (zM))))) (zI 10 (by decide +kernel) ?_)
  refine zL (I2 := [[], [1], [0], []]) rfl wanted0 (by decide +kernel) (fun Kd hKd => ?_)
  refine zK sl23 rfl rfl rfl rfl rfl (fun b33 => ?_)
  refine hKd _ _ _ (zD (hC (hC (zD (zM))))) (zI 11 (by decide +kernel) ?_)
  refine zL (I2 := [[], [], [], []]) rfl wanted0 (by decide +kernel) (fun Kd hKd => ?_)
  refine op_apd 3 0 sl23 (fun A34 c34 => ?_)
  refine hKd _ _ _ (zD (zD (zD (zD (zM))))) (zS ?_)
  refine tP 12 rfl wanted0 (zU yO rfl) (zI 13 (by decide +kernel) ?_)
  refine zL (I2 := [[], [], [], [], []]) rfl wanted0 (by decide +kernel) (fun Kd hKd => ?_)
  refine zF 4 (M' := [_, _, _, _, HA.blk _ [_, _, _, _, _] _, _, _]) rfl rfl rfl rfl si23 rfl rfl rfl (hKd _ _ _ (zD (zD (zD (zD (zD (zM)))))) ?_)
  refine yD (by decide +kernel) (rK 0 [12, 11, 10, 5, 4, 2, 1] rfl rfl ?_)
  refine rO 3 rfl (yB rfl rfl (by omega) ?_)
  refine oR 3 rfl (wB 3 0 rfl rfl rfl ?_)
  exact kQ (hK (i + 1, _, _, _, _, _, _, _, _) (hI.pos (by omega) (by omega) rfl) (by show t.keys.length - (i + 1) < t.keys.length - i; omega)) (eC rfl (eC rfl (eC rfl (eC rfl (eC rfl (eC rfl (eC rfl (eN _)))))))) (hD := (by intro d hd; first | exact subc 0 rfl sQ d hd | (repeat (first | exact hd | apply List.mem_cons_of_mem))))
 refine rO 4 rfl (zQ 2 rfl ag25 rfl rfl ?_)
 refine zA (zF 3 (M' := [_, _, _, HA.blk _ [_, _, _, _, _] _, _]) rfl rfl rfl rfl si25 rfl rfl rfl ?_)
 refine zZ ?_
 obtain ⟨hi, hnk, hxk, hts⟩ := hI
 refine wC 0 ((kept (fun _ => true) t i).map (·.1)) rfl (by intro b h; cases h) (by rw [hxk, List.map_map]; rfl) (kept_key hksz) (vS 0 1 ts rfl rfl (by intro b h; cases h) (by rw [hts, List.length_map]; exact hnk) ?_)
 refine wH (q := 5) (m := 0) (s := ⟨#[]⟩) 1 0 rfl rfl (by decide) ?_
 subst hts
 rw [below_filter, rT (i := i) (by omega)]
 exact yZ 1 Tryz.results120 rfl rfl ag25 ⟨rfl, _, _, _, _, by simp only [V.kind, V.num, V.text, V.keys, V.items, List.length_map, ← hnk]; rfl, rfl⟩ nS (sub1 0 rfl)
theorem c81 (v : V) : ∀ (hw : Wf v) (x : Value), CtR Tryz.prog 81 #[x] [.val x v] (RV (chosenV v)) := by
 refine V.indS (p := fun v => ∀ (hw : Wf v) (x : Value), CtR Tryz.prog 81 #[x] [.val x v] (RV (chosenV v))) ?_ v
 intro v IH hw x
 refine Ct.of_run (args := [x]) Tryz.func81 (by kernel_rfl) rfl Tryz.ntmps81 rfl (fun c => ?_)
 refine yW 0 rfl (fun A1 c1 A2 c2 hx hsz hk1 hk2 hi1 hi2 => ?_)
 subst hx
 have hbl := qA chosenV v
 refine rO 3 rfl (yN rfl rfl rfl (fun b1 => ?_))
 refine zA (zR ze25 rfl (fun b2 => ?_))
 change RunOps _ _ _ _ _ _ _ _ (HA.blk _ [_, _, _, _, _] _ :: _) _
 refine oO 4 rfl (zQ 1 rfl ag25 rfl rfl ?_)
 refine zA ?_
 refine zT rfl rfl rfl (c120 81 chosenV v _ hw hw.le (fun own hs hwo y => IH own hs hwo y)) (by first | exact sub1 0 rfl | exact sub1 1 rfl | exact sub1 2 rfl | exact sub1 3 rfl | exact sub1 4 rfl | exact sub1 5 rfl | exact sub1 6 rfl | exact sub1 7 rfl) (fun u6 D6 hv6 => ?_)
 obtain ⟨A6, m6, B6, d6, rfl, rfl⟩ := hv6
 refine zA (zF 1 (M' := [_, HA.blk _ [_, _, _, _, _] _]) rfl rfl rfl rfl si25 rfl rfl rfl ?_)
 refine oO 5 rfl (zQ 1 rfl ag25 rfl rfl ?_)
 refine zA ?_
 refine zT rfl rfl rfl (c62v _ (belowV chosenV v) k29 hbl) (by first | exact sub1 0 rfl | exact sub1 1 rfl | exact sub1 2 rfl | exact sub1 3 rfl | exact sub1 4 rfl | exact sub1 5 rfl | exact sub1 6 rfl | exact sub1 7 rfl) (fun u9 D9 hv9 => ?_)
 obtain ⟨_, rfl, A9, m9, B9, d9, rfl, rfl⟩ := hv9
 refine oO 7 rfl (zR ze25 rfl (fun b3 => ?_))
 change RunOps _ _ _ _ _ _ _ _ (HA.blk _ [_, _, _, _, _] _ :: _) _
 refine zA (zF 0 (M' := [HA.blk _ [_, _, _, _, _] _, _, _]) rfl rfl rfl rfl si25 rfl rfl rfl ?_)
 refine oK 8 [12, 3, 2, 1] rfl rfl (yF rfl (fun h12 => ?_) (fun h12 => ?_))
 ·refine xA (yT yE ?_)
  refine tM 0 rfl wanted0 (wZ 2 rfl ag25 rfl) (tM 2 rfl wanted0 (wZ 0 rfl ag25 rfl) ?_)
  refine zI 1 (by decide +kernel) ?_
  refine zL (I2 := [[2]]) rfl wanted0 (by decide +kernel) (fun Kd hKd => ?_)
  refine zT rfl rfl rfl (c87 (belowV chosenV v) k29 _ (below_kl hw) (below_il hw) hbl) (by first | exact sub1 0 rfl | exact sub1 1 rfl | exact sub1 2 rfl | exact sub1 3 rfl | exact sub1 4 rfl | exact sub1 5 rfl | exact sub1 6 rfl | exact sub1 7 rfl) (fun u14 D14 hv14 => ?_)
  obtain ⟨A14, m14, B14, d14, rfl, rfl⟩ := hv14
  refine hKd _ _ _ (hC (zM)) (zI 3 (by decide +kernel) ?_)
  refine zL (I2 := [[]]) rfl wanted0 (by decide +kernel) (fun Kd hKd => ?_)
  refine zT rfl rfl rfl (c64 (withoutV (belowV chosenV v) k29) ((getV (belowV chosenV v) k29).getD zV) k30 _ _ (without_kl (below_kl hw)) (without_le _ _) (by decide)) (by first | exact sub2 0 1 rfl rfl | exact sub2 0 2 rfl rfl | exact sub2 0 3 rfl rfl | exact sub2 0 4 rfl rfl | exact sub2 0 5 rfl rfl | exact sub2 0 6 rfl rfl | exact sub2 0 7 rfl rfl | exact sub2 1 0 rfl rfl | exact sub2 1 2 rfl rfl | exact sub2 1 3 rfl rfl | exact sub2 1 4 rfl rfl | exact sub2 1 5 rfl rfl | exact sub2 1 6 rfl rfl | exact sub2 1 7 rfl rfl | exact sub2 2 0 rfl rfl | exact sub2 2 1 rfl rfl | exact sub2 2 3 rfl rfl | exact sub2 2 4 rfl rfl | exact sub2 2 5 rfl rfl | exact sub2 2 6 rfl rfl | exact sub2 2 7 rfl rfl | exact sub2 3 0 rfl rfl | exact sub2 3 1 rfl rfl | exact sub2 3 2 rfl rfl | exact sub2 3 4 rfl rfl | exact sub2 3 5 rfl rfl | exact sub2 3 6 rfl rfl | exact sub2 3 7 rfl rfl | exact sub2 4 0 rfl rfl | exact sub2 4 1 rfl rfl | exact sub2 4 2 rfl rfl | exact sub2 4 3 rfl rfl | exact sub2 4 5 rfl rfl | exact sub2 4 6 rfl rfl | exact sub2 4 7 rfl rfl | exact sub2 5 0 rfl rfl | exact sub2 5 1 rfl rfl | exact sub2 5 2 rfl rfl | exact sub2 5 3 rfl rfl | exact sub2 5 4 rfl rfl | exact sub2 5 6 rfl rfl | exact sub2 5 7 rfl rfl | exact sub2 6 0 rfl rfl | exact sub2 6 1 rfl rfl | exact sub2 6 2 rfl rfl | exact sub2 6 3 rfl rfl | exact sub2 6 4 rfl rfl | exact sub2 6 5 rfl rfl | exact sub2 6 7 rfl rfl | exact sub2 7 0 rfl rfl | exact sub2 7 1 rfl rfl | exact sub2 7 2 rfl rfl | exact sub2 7 3 rfl rfl | exact sub2 7 4 rfl rfl | exact sub2 7 5 rfl rfl | exact sub2 7 6 rfl rfl) (fun u16 D16 hv16 => ?_)
  obtain ⟨A16, m16, B16, d16, rfl, rfl⟩ := hv16
  refine hKd _ _ _ (zD (zM)) (zI 4 (by decide +kernel) ?_)
  refine zL (I2 := [[]]) rfl wanted0 (by decide +kernel) (fun Kd hKd => ?_)
  refine zF 1 (M' := [_, HA.blk _ [_, _, _, _, _] _, _]) rfl rfl rfl rfl si25 rfl rfl rfl (hKd _ _ _ (zD (zM)) ?_)
  refine yD (by decide +kernel) ?_
  have e : chosenV v = withV (withoutV (belowV chosenV v) k29) k30 ((getV (belowV chosenV v) k29).getD zV) := by
   rw [chosenV_eq, choV]
   cases hg : getV (belowV chosenV v) k29 with
   | none => rw [hg] at h12; cases h12
   | some a => rfl
  rw [e]
  refine wY (M' := [HA.blk b2 [_, _, _, _, _] 25]) (by repeat (first | exact yC _ | refine zC 0 rfl ?_ | refine zC 1 rfl ?_ | refine zC 2 rfl ?_ | refine zC 3 rfl ?_ | refine zC 4 rfl ?_)) ?_
  exact yZ 0 Tryz.results81 rfl rfl ag25 ⟨rfl, _, _, _, _, rfl, rfl⟩ nS (sub1 0 rfl)
 refine rO 4 rfl (zQ 2 rfl ag25 rfl rfl ?_)
 refine zA (zF 1 (M' := [_, HA.blk _ [_, _, _, _, _] _, _]) rfl rfl rfl rfl si25 rfl rfl rfl ?_)
 refine zZ ?_
 have e : chosenV v = belowV chosenV v := by
  rw [chosenV_eq, choV]
  cases hg : getV (belowV chosenV v) k29 with
  | none => rfl
  | some a => rw [hg] at h12; cases h12
 rw [e]
 refine wY (M' := [HA.blk b2 [_, _, _, _, _] 25]) (by repeat (first | exact yC _ | refine zC 0 rfl ?_ | refine zC 1 rfl ?_ | refine zC 2 rfl ?_ | refine zC 3 rfl ?_ | refine zC 4 rfl ?_)) ?_
 exact yZ 0 Tryz.results81 rfl rfl ag25 ⟨rfl, _, _, _, _, rfl, rfl⟩ nS (by first | exact sub1 0 rfl | exact sub1 1 rfl | exact sub1 2 rfl | exact sub1 3 rfl | exact sub1 4 rfl | exact sub1 5 rfl | exact sub1 6 rfl | exact sub1 7 rfl)
section rules
variable {P : Program} {n : Nat} {F : List Nat} {c : Ctx F} {ops : Array Oper} {d : Nat} {T : TypeId} {l : List Oper} {k : List KI} {Q : Post} {e : Env} {M : List HA} {D : List DA}
theorem ops_frGrC (i : Nat) {G : Gr} (mb : Nat) (hi : M[i]? = some (.many 124 (Gr.blks G))) (hG : ∀ (w : World) (ok : Nat → Prop), (∀ d ∈ D, d.p w ok) → ∀ g ∈ G, ∃ m, CellsP w ok m g.2.1 g.2.2) (hF : F = []) (next : RunOps P n c ops l k Q e (M.eraseIdx i) (.gr mb G :: D)) : RunOps P n c ops l k Q e M D :=
  ops_freeze (h := .many 124 (Gr.blks G)) [.gr mb G] (fun x _ h => by rw [hF] at h; cases h) (vH hi) (fun w ok h hok hD d hd => by
    rcases List.mem_singleton.1 hd with rfl
    intro g hg
    have hm : (g.1, g.2.1) ∈ Gr.blks G := List.mem_map.2 ⟨g, hg, rfl⟩
    refine ⟨⟨hok _ ?_, h _ hm⟩, hG w ok hD g hg⟩
    simp only [HA.foot, List.mem_map]
    exact ⟨_, hm, rfl⟩) next
end rules
theorem graph_upd {w : World} {ok : Nat → Prop} {mb : Nat} {G R : Gr} {b : Nat} {cs cs' : List Value} {f f' : Flds} (hp : G.Perm ((b, cs, f) :: R)) (hg : (DA.graph mb G).p w ok) (hc : CellsP w ok mb cs' f') : (DA.graph mb ((b, cs', f') :: R)).p w ok := fun g hg' => by
 rcases List.mem_cons.1 hg' with e | e
 ·rw [e]; exact hc
 ·exact hg g (hp.mem_iff.2 (List.mem_cons_of_mem _ e))
def ChoOk (v : V) : Prop := IsSchemaV v ∧ DeepV NoBoth v
theorem c44 (v : V) (x : Value) : CtR Tryz.prog 44 #[x] [.val x v] (fun u D' => ∃ y z, u = .tuple #[y, .bool (tb (ChoOk v))] ∧ RV z y D' ∧ (ChoOk v → z = chosenV (normalV v))) := by
 refine Ct.of_run (args := [x]) Tryz.func44 (by kernel_rfl) rfl Tryz.ntmps44 rfl (fun c => ?_)
 refine yW 0 rfl (fun A1 c1 A2 c2 hx hsz1 hk1 hk2 hi1 hi2 => ?_)
 subst hx
 refine rO 3 rfl (yN rfl rfl rfl (fun b1 => ?_))
 refine zA (zR ze25 rfl (fun b2 => ?_))
 change RunOps _ _ _ _ _ _ _ _ (HA.blk _ [_, _, _, _, _] _ :: _) _
 refine oO 7 rfl (zQ 1 rfl ag25 rfl rfl ?_)
 refine zA (zN rfl rfl rfl (c20 v _) (by first | exact sub1 0 rfl | exact sub1 1 rfl | exact sub1 2 rfl | exact sub1 3 rfl | exact sub1 4 rfl | exact sub1 5 rfl | exact sub1 6 rfl | exact sub1 7 rfl) ?_)
 refine oS 4 rfl (yU (s := 7) rfl (fun h7 => ?_) (fun h7 => ?_))
 ·refine oO 9 rfl (yS rfl rfl (bu25 ..) ?_)
  refine zA (zF 0 (M' := [HA.blk _ [_, _, _, _, _] _, _]) rfl rfl rfl rfl si25 rfl rfl rfl ?_)
  refine oK 3 [3, 2] rfl rfl ?_
  have hno : ¬ ChoOk v := fun hc => by rw [tb_t hc.1] at h7; cases h7
  refine wY (M' := [HA.blk b2 [_, _, _, _, _] 25]) (by repeat (first | exact yC _ | refine zC 0 rfl ?_ | refine zC 1 rfl ?_ | refine zC 2 rfl ?_ | refine zC 3 rfl ?_ | refine zC 4 rfl ?_)) ?_
  refine yK (.val (.agg #[.int .i64 0, .int .i64 0, .string ⟨#[]⟩, .slice none 0 0, .slice none 0 0]) zV) (fun w ok _ => qF w ok) ?_
  exact wG 0 Tryz.results44 rfl rfl rfl ag25 ⟨rfl, .agg #[.int .i64 0, .int .i64 0, .string ⟨#[]⟩, .slice none 0 0, .slice none 0 0], zV, by rw [tb_f hno], ⟨none, 0, none, 0, rfl, rfl⟩, fun h => absurd h hno⟩ nS (sub1 0 rfl)
 have hsv0 := yR.1 (by simpa using h7)
 have hp : Pl v := ⟨12, hsv0.1.1⟩
 have hs := hsv0.2
 refine zJ rfl rfl (zQ 1 rfl ag25 rfl rfl ?_)
 refine zJ rfl rfl (zN rfl rfl rfl (c70 80 (fun z => (getV z k29).isSome = true ∧ (getV z k30).isSome = true) (fun z hz y => c80 z hz y) v hp _) (by first | exact sub1 0 rfl | exact sub1 1 rfl | exact sub1 2 rfl | exact sub1 3 rfl | exact sub1 4 rfl | exact sub1 5 rfl | exact sub1 6 rfl | exact sub1 7 rfl) ?_)
 refine oR 3 rfl (yF rfl (fun h10 => ?_) (fun h10 => ?_))
 ·refine rO 3 rfl (yS rfl rfl (bu25 ..) ?_)
  refine zA (zF 0 (M' := [HA.blk _ [_, _, _, _, _] _, _]) rfl rfl rfl rfl si25 rfl rfl rfl ?_)
  refine oK 3 [3, 2] rfl rfl ?_
  have hno : ¬ ChoOk v := fun hc => (yR.1 h10) hc.2
  refine wY (M' := [HA.blk b2 [_, _, _, _, _] 25]) (by repeat (first | exact yC _ | refine zC 0 rfl ?_ | refine zC 1 rfl ?_ | refine zC 2 rfl ?_ | refine zC 3 rfl ?_ | refine zC 4 rfl ?_)) ?_
  refine yK (.val (.agg #[.int .i64 0, .int .i64 0, .string ⟨#[]⟩, .slice none 0 0, .slice none 0 0]) zV) (fun w ok _ => qF w ok) ?_
  exact wG 0 Tryz.results44 rfl rfl rfl ag25 ⟨rfl, .agg #[.int .i64 0, .int .i64 0, .string ⟨#[]⟩, .slice none 0 0, .slice none 0 0], zV, by rw [tb_f hno], ⟨none, 0, none, 0, rfl, rfl⟩, fun h => absurd h hno⟩ nS (sub1 0 rfl)
 refine rO 4 rfl (zQ 1 rfl ag25 rfl rfl ?_)
 refine zA ?_
 refine zT rfl rfl rfl (c22 v hp.wf _) (by first | exact sub1 0 rfl | exact sub1 1 rfl | exact sub1 2 rfl | exact sub1 3 rfl | exact sub1 4 rfl | exact sub1 5 rfl | exact sub1 6 rfl | exact sub1 7 rfl) (fun u13 D13 hv13 => ?_)
 obtain ⟨A13, m13, B13, d13, rfl, rfl⟩ := hv13
 refine zA ?_
 refine zT rfl rfl rfl (c81 (normalV v) (pl_norm hs hp).wf _) (by first | exact sub1 0 rfl | exact sub1 1 rfl | exact sub1 2 rfl | exact sub1 3 rfl | exact sub1 4 rfl | exact sub1 5 rfl | exact sub1 6 rfl | exact sub1 7 rfl) (fun u14 D14 hv14 => ?_)
 obtain ⟨A14, m14, B14, d14, rfl, rfl⟩ := hv14
 refine zA (zF 0 (M' := [HA.blk _ [_, _, _, _, _] _, _]) rfl rfl rfl rfl si25 rfl rfl rfl ?_)
 refine oK 3 [3, 2] rfl rfl ?_
 have hyes : ChoOk v := ⟨hsv0, Classical.byContradiction fun hc => by rw [tb_t (p := ¬ DeepV (fun z => ¬ ((getV z k29).isSome = true ∧ (getV z k30).isSome = true)) v) hc] at h10; cases h10⟩
 refine wY (M' := [HA.blk b2 [_, _, _, _, _] 25]) (by repeat (first | exact yC _ | refine zC 0 rfl ?_ | refine zC 1 rfl ?_ | refine zC 2 rfl ?_ | refine zC 3 rfl ?_ | refine zC 4 rfl ?_)) ?_
 exact wG 0 Tryz.results44 rfl rfl rfl ag25 ⟨rfl, .agg #[.int .i64 (chosenV (normalV v)).kind, .int .i64 (chosenV (normalV v)).num, .string (chosenV (normalV v)).text, .slice A14 (chosenV (normalV v)).keys.length m14, .slice B14 (chosenV (normalV v)).items.length d14], _, by rw [tb_t hyes], ⟨_, _, _, _, rfl, rfl⟩, fun _ => rfl⟩ nS (sub1 0 rfl)
def merL (l : List V) (out : V) : V := l.foldl (fun o own => mergeV own o) out
noncomputable def merV (u : V) : V := match getV u k28 with
  | some all => merL all.items (withoutV u k28)
  | none => u
noncomputable def mergedV : V → V := V.fix (α := V) (fun v g => merV (belowV g v))
theorem tD (v : V) : mergedV v = merV (belowV mergedV v) :=
 V.fix_eq (α := V) (G := fun v g => merV (belowV g v)) (fun t g g' h => by rw [belowV_congr h]) v
theorem merL_kind {l : List V} {out : V} (h : out.kind = 5) : (merL l out).kind = 5 := by
  induction l generalizing out with
  | nil => exact h
  | cons p l ih => exact ih (setL_kind h)
theorem mergedV_kind (v : V) : (mergedV v).kind = 5 := by
 rw [tD, merV]
 split
 ·exact merL_kind rfl
 ·rfl
def Clear1 : Prs → V → Prop
  | [], _ => True
  | p :: l, o => ¬ (0 ≤ findI o.keys p.1 ∨ p.1 = k3 ∨ p.1 = k2 ∨ p.1 = k1) ∧ Clear1 l (withV o p.1 p.2)
def ClearM : List V → V → Prop
  | [], _ => True
  | own :: l, o => Clear1 (own.keys.zip own.items) o ∧ ClearM l (mergeV own o)
def ClearV (u : V) : Prop := ∀ all, getV u k28 = some all → ClearM all.items (withoutV u k28)
def Mok (v : V) : Prop := ClearV (belowV mergedV v)
theorem clear1_key {l : Prs} {o : V} (h : Clear1 l o) : ∀ p ∈ l, p.1 ≠ k3 ∧ p.1 ≠ k2 ∧ p.1 ≠ k1 := by
  induction l generalizing o with
  | nil => intro p hp; cases hp
  | cons q l ih =>
    intro p hp
    rcases List.mem_cons.1 hp with rfl | hp
    · exact ⟨fun e => h.1 (.inr (.inl e)), fun e => h.1 (.inr (.inr (.inl e))), fun e => h.1 (.inr (.inr (.inr e)))⟩
    · exact ih h.2 p hp
theorem clearM_key {l : List V} {o : V} (h : ClearM l o) : ∀ own ∈ l, ∀ p ∈ own.keys.zip own.items, p.1 ≠ k3 ∧ p.1 ≠ k2 ∧ p.1 ≠ k1 := by
  induction l generalizing o with
  | nil => intro p hp; cases hp
  | cons q l ih =>
    intro p hp
    rcases List.mem_cons.1 hp with rfl | hp
    · exact clear1_key h.1
    · exact ih h.2 p hp

def SrtV (v : V) : Prop := Srt (v.keys.zip v.items) ∧ v.keys.length = v.items.length
theorem srtV_mk {l : Prs} (h : Srt l) : SrtV (mkM l) := ⟨by rw [mkM_zip]; exact h, by simp [mkM, V.keys, V.items]⟩
theorem srtV_with {v : V} {key : ByteArray} {own : V} (h : SrtV v) : SrtV (withV v key own) := srtV_mk (with_srt h.1)
theorem srtV_setL {l : Prs} {out : V} (h : SrtV out) : SrtV (setL l out) := by
  induction l generalizing out with
  | nil => exact h
  | cons p l ih => exact ih (srtV_with h)
theorem srtV_merL {l : List V} {out : V} (h : SrtV out) : SrtV (merL l out) := by
  induction l generalizing out with
  | nil => exact h
  | cons p l ih => exact ih (srtV_setL h)
theorem rG {v : V} (hp : Pl v) (hk : v.kind = 5) : SrtV v := ⟨keysOk_srt (hp.keys hk) _, (rV hp hk).2.1⟩
theorem qL {g : V → V} {v : V} (h : SrtV v) : SrtV (belowV g v) := srtV_mk (srt_map (fun k x => turnV (shapeOf k) g x) h.1)
theorem rW {v : V} {key : ByteArray} (h : SrtV v) : SrtV (withoutV v key) := srtV_mk (srt_filter _ h.1)
theorem tE {v : V} (h : SrtV v) : SrtV (mergedV v) := by
 rw [tD, merV]
 split
 ·exact srtV_merL (rW (qL h))
 ·exact qL h
theorem srtV_nodup {v : V} (h : SrtV v) : v.keys.Nodup := by
 have := lt_nodup (ks := (v.keys.zip v.items).map (·.1)) (by rw [List.pairwise_map]; exact h.1)
 rwa [List.map_fst_zip (by rw [h.2]; exact Nat.le_refl _)] at this
theorem lk_srt {l : Prs} (h : Srt l) {key : ByteArray} {x : V} (hm : (key, x) ∈ l) : lk l key = some x := by
  induction l with
  | nil => cases hm
  | cons p l ih =>
    obtain ⟨h1, h2⟩ := List.pairwise_cons.1 h
    rw [tL]
    rcases List.mem_cons.1 hm with e | e
    · rw [← e, if_pos rfl]
    · rw [if_neg (fun he => ?_)]
      · exact ih h2 e
      · have := h1 _ e
        rw [he] at this
        exact List.lt_irrefl _ this
theorem srtV_get {v : V} (h : SrtV v) {key : ByteArray} {x : V} (hm : (key, x) ∈ v.keys.zip v.items) : getV v key = some x := by
 rw [getV_lk (by rw [h.2]; exact Nat.le_refl _)]
 exact lk_srt h.1 hm
theorem srtV_mem {v : V} (h : SrtV v) {key : ByteArray} {x : V} (hm : getV v key = some x) : (key, x) ∈ v.keys.zip v.items := by
 rw [getV_lk (by rw [h.2]; exact Nat.le_refl _)] at hm
 exact lk_mem hm
theorem rH {v : V} (h : SrtV v) : v.keys.length ≤ v.items.length := by rw [h.2]; exact Nat.le_refl _
theorem shape_srt {v : V} (hv : SrtV v) (hk : v.kind = 5) (h : ∀ key x, (key, x) ∈ v.keys.zip v.items → FitLoc (shapeOf key) x ∧ (∀ z ∈ kidsOf (shapeOf key) x, IsShape z) ∧ (key = kId → ∃ u, getV v kSchema = some u ∧ IsFourth u.text)) : IsShape v := by
 refine (wI v).2 ⟨hk, fun j k x hj hx => h k x ?_⟩
 refine List.mem_of_getElem? (i := j) ?_
 rw [List.getElem?_zip_eq_some]
 exact ⟨hj, hx⟩

theorem merL_mem {l : List V} {out : V} {q : ByteArray × V} (h : q ∈ (merL l out).keys.zip (merL l out).items) : (∃ own ∈ l, q ∈ own.keys.zip own.items) ∨ q ∈ out.keys.zip out.items := by
  induction l generalizing out with
  | nil => exact .inr h
  | cons p l ih =>
    rcases ih h with ⟨own, ho, e⟩ | e
    · exact .inl ⟨own, List.mem_cons_of_mem _ ho, e⟩
    · rcases setL_mem e with e | e
      · exact .inl ⟨p, List.mem_cons_self, e⟩
      · exact .inr e
theorem merL_get {l : List V} {out : V} (hs : ∀ own ∈ l, SrtV own) (h : SrtV out) {key : ByteArray} (hno : ∀ own ∈ l, getV own key = none) : getV (merL l out) key = getV out key := by
  induction l generalizing out with
  | nil => rfl
  | cons p l ih =>
    have hp := hs p List.mem_cons_self
    rw [show merL (p :: l) out = merL l (mergeV p out) from rfl, ih (out := mergeV p out) (fun o ho => hs o (List.mem_cons_of_mem _ ho)) (srtV_setL h) (fun o ho => hno o (List.mem_cons_of_mem _ ho)),
      merge_get (srtV_nodup hp) (rH hp) (rH h), hno p List.mem_cons_self]
    rfl
theorem merged_mem {v : V} (hv : Sch v) {q : ByteArray × V} (h : q ∈ (mergedV v).keys.zip (mergedV v).items) :
    (∃ x, getV v q.1 = some x ∧ q.2 = turnV (shapeOf q.1) mergedV x) ∨ (∃ xa z, getV v k28 = some xa ∧ z ∈ kidsOf 13 xa ∧ q ∈ (mergedV z).keys.zip (mergedV z).items) := by
  have hsv := rG hv.1 hv.2.kind
  have below : q ∈ (belowV mergedV v).keys.zip (belowV mergedV v).items → ∃ x, getV v q.1 = some x ∧ q.2 = turnV (shapeOf q.1) mergedV x := fun hm => by
    rw [belowV, mkM_zip] at hm
    obtain ⟨p, hp, rfl⟩ := List.mem_map.1 hm
    exact ⟨p.2, srtV_get hsv hp, rfl⟩
  rw [tD, merV] at h
  cases ha : getV (belowV mergedV v) k28 with
  | none => rw [ha] at h; exact .inl (below h)
  | some all =>
    rw [ha] at h
    rcases merL_mem h with ⟨own, ho, e⟩ | e
    · rw [sJ (rH hsv)] at ha
      cases hx : getV v k28 with
      | none => rw [hx] at ha; cases ha
      | some xa =>
        rw [hx] at ha
        injection ha with ha
        have e28 : shapeOf k28 = 13 := by decide +kernel
        rw [e28] at ha
        have hf := (wO hv.2 hx).1
        rw [e28] at hf
        have hf' : xa.kind = 4 ∧ ∀ x' ∈ xa.items, x'.kind = 5 := by simpa [FitLoc] using hf
        subst ha
        have et : turnV 13 mergedV xa = turnAll mergedV xa := by simp [turnV]
        rw [et] at ho
        obtain ⟨z, hz, rfl⟩ := List.mem_map.1 (show own ∈ xa.items.map (mapKids mergedV) from ho)
        rw [wD (hf'.2 z hz)] at e
        exact .inr ⟨xa, z, rfl, by rw [kids13 hf'.2]; exact hz, e⟩
    · rw [withoutV, mkM_zip] at e
      exact .inl (below (List.mem_filter.1 e).1)
theorem e28 : shapeOf k28 = 13 := by decide +kernel
theorem merged_clear {v : V} (hv : Sch v) (hm : Mok v) {xa z : V} (ha : getV v k28 = some xa) (hz : z ∈ kidsOf 13 xa) : ∀ p ∈ (mergedV z).keys.zip (mergedV z).items, p.1 ≠ k3 ∧ p.1 ≠ k2 ∧ p.1 ≠ k1 := by
 have hf := (wO hv.2 ha).1
 rw [e28] at hf
 have hf' : xa.kind = 4 ∧ ∀ x' ∈ xa.items, x'.kind = 5 := by simpa [FitLoc] using hf
 have hb : getV (belowV mergedV v) k28 = some (turnAll mergedV xa) := by
  rw [sJ hv.1.wf.le, ha, e28]
  simp [turnV]
 refine clearM_key (hm _ hb) (mergedV z) ?_
 rw [kids13 hf'.2] at hz
 exact List.mem_map.2 ⟨z, hz, wD (hf'.2 z hz)⟩
theorem shape_merged (v : V) : Sch v → DeepV Mok v → IsShape (mergedV v) := by
  refine V.indS (p := fun v => Sch v → DeepV Mok v → IsShape (mergedV v)) (fun v IH hv hd => ?_) v
  obtain ⟨hm, hk⟩ := (wS _ _).1 hd
  have hsv := rG hv.1 hv.2.kind
  have sub : ∀ z ∈ kidsV v, IsShape (mergedV z) := fun z hz => IH z (vD hz) (qI.kid v hv z hz) (hk z hz)
  refine shape_srt (tE hsv) (mergedV_kind v) fun key y hy => ?_
  rcases merged_mem hv hy with ⟨x, hx, he⟩ | ⟨xa, z, hx, hz, he⟩
  · simp only at hx he
    subst he
    obtain ⟨h1, h2⟩ := shape_turnG (g := mergedV) (wO hv.2 hx).1 fun z hz => sub z (wP hv.1 hv.2.kind hx hz)
    refine ⟨h1, h2, fun hid => ?_⟩
    obtain ⟨u, hu, h4⟩ := (wO hv.2 hx).2.2 hid
    refine ⟨turnV (shapeOf kSchema) mergedV u, ?_, by rw [shape_schema]; exact h4⟩
    have hb : getV (belowV mergedV v) kSchema = some (turnV (shapeOf kSchema) mergedV u) := by rw [sJ hv.1.wf.le, hu]; rfl
    rw [tD, merV]
    cases ha : getV (belowV mergedV v) k28 with
    | none => exact hb
    | some all =>
      simp only
      rw [sJ hv.1.wf.le] at ha
      cases hxa : getV v k28 with
      | none => rw [hxa] at ha; cases ha
      | some xa =>
        rw [hxa] at ha
        injection ha with ha
        rw [e28] at ha
        have hf := (wO hv.2 hxa).1
        rw [e28] at hf
        have hf' : xa.kind = 4 ∧ ∀ x' ∈ xa.items, x'.kind = 5 := by simpa [FitLoc] using hf
        have et : turnV 13 mergedV xa = turnAll mergedV xa := by simp [turnV]
        have hown : ∀ own ∈ all.items, ∃ z ∈ kidsOf 13 xa, own = mergedV z := fun own ho => by
          rw [← ha, et] at ho
          obtain ⟨z, hz, rfl⟩ := List.mem_map.1 (show own ∈ xa.items.map (mapKids mergedV) from ho)
          exact ⟨z, by rw [kids13 hf'.2]; exact hz, wD (hf'.2 z hz)⟩
        rw [merL_get (fun own ho => ?_) (rW (qL hsv)) (fun own ho => ?_), get_without (qA _ _), if_neg (by decide +kernel), hb]
        · obtain ⟨z, hz, rfl⟩ := hown own ho
          have hzk := wP hv.1 hv.2.kind hxa (by rw [e28]; exact hz)
          exact tE (rG (kid_pl hv.1 hzk) (rA hv.1 hv.2 hzk).kind)
        · obtain ⟨z, hz, rfl⟩ := hown own ho
          cases hg : getV (mergedV z) kSchema with
          | none => rfl
          | some x' =>
            have hzk := wP hv.1 hv.2.kind hxa (by rw [e28]; exact hz)
            have := merged_clear hv hm hxa hz _ (srtV_mem (tE (rG (kid_pl hv.1 hzk) (rA hv.1 hv.2 hzk).kind)) hg)
            exact absurd rfl this.2.2
  · have hzk := wP hv.1 hv.2.kind hx (by rw [e28]; exact hz)
    have hsz := sub z hzk
    have hsz' := tE (rG (kid_pl hv.1 hzk) (rA hv.1 hv.2 hzk).kind)
    obtain ⟨h1, h2, h3⟩ := wO hsz (srtV_get hsz' he)
    exact ⟨h1, h2, fun hid => absurd hid (merged_clear hv hm hx hz _ he).2.1⟩
theorem kw1_merged {v : V} (hv : Sch v) (IH : ∀ z ∈ kidsV v, Kw1 (mergedV z)) (hk : Kw1 v) : Kw1 (mergedV v) := by
  have hsv := tE (rG hv.1 hv.2.kind)
  intro k hk'
  obtain ⟨i, hi, rfl⟩ := List.getElem_of_mem hk'
  have hm : ((mergedV v).keys[i], (mergedV v).items[i]'(by rw [← hsv.2]; exact hi)) ∈ (mergedV v).keys.zip (mergedV v).items := by
    refine List.mem_of_getElem? (i := i) ?_
    rw [List.getElem?_zip_eq_some]
    exact ⟨List.getElem?_eq_getElem hi, List.getElem?_eq_getElem (by rw [← hsv.2]; exact hi)⟩
  rcases merged_mem hv hm with ⟨x, hx, _⟩ | ⟨xa, z, hx, hz, he⟩
  · obtain ⟨j, hj, _⟩ := qH hx
    exact hk _ (List.mem_of_getElem? hj)
  · exact IH z (wP hv.1 hv.2.kind hx (by rw [e28]; exact hz)) _ (List.of_mem_zip he).1
theorem kids_merged {v z : V} (hv : Sch v) (h : z ∈ kidsV (mergedV v)) : (∃ y ∈ kidsV v, z = mergedV y) ∨ ∃ y ∈ kidsV v, z ∈ kidsV (mergedV y) := by
 obtain ⟨p, hp, hz⟩ := List.mem_flatMap.1 h
 rcases merged_mem hv (show (p.1, p.2) ∈ _ from hp) with ⟨x, hx, he⟩ | ⟨xa, y, hx, hy, he⟩
 ·simp only at hx he
  rw [he] at hz
  obtain ⟨y, hy, rfl⟩ := kids_turn mergedV_kind (wO hv.2 hx).1 hz
  exact .inl ⟨y, wP hv.1 hv.2.kind hx hy, rfl⟩
 ·exact .inr ⟨y, wP hv.1 hv.2.kind hx (by rw [e28]; exact hy), List.mem_flatMap.2 ⟨p, he, hz⟩⟩
theorem deep_merged (v : V) : Sch v → DeepV Kw1 v → DeepV Kw1 (mergedV v) := by
 refine V.indS (p := fun v => Sch v → DeepV Kw1 v → DeepV Kw1 (mergedV v)) (fun v IH hv hd => ?_) v
 obtain ⟨h1, h2⟩ := (wS _ _).1 hd
 have sub : ∀ z ∈ kidsV v, DeepV Kw1 (mergedV z) := fun z hz => IH z (vD hz) (qI.kid v hv z hz) (h2 z hz)
 refine (wS _ _).2 ⟨kw1_merged hv (fun z hz => ((wS _ _).1 (sub z hz)).1) h1, fun z hz => ?_⟩
 rcases kids_merged hv hz with ⟨y, hy, rfl⟩ | ⟨y, hy, hz⟩
 ·exact sub y hy
 ·exact ((wS _ _).1 (sub y hy)).2 z hz
theorem fld_below {U U' : Nat → V → Prop} {g : V → V} (hg : ∀ z, (g z).kind = 5) {v : V} (hv : Sch v) {i : Nat} {f : Flds} (h1 : 1 ≤ i) (h2 : i ≤ 36) (h : ∀ c z, i ∈ kidIdx → c ∈ kidsAt f i → z ∈ kidsV v → U c z → U' c (g z)) (hf : FldRel U v i (f i)) : FldRel U' (belowV g v) i (f i) := by
  cases hfi : f i with
  | none =>
    rw [hfi] at hf
    intro key hkw
    rw [sJ hv.1.wf.le, hf key hkw]; rfl
  | some fv =>
    rw [hfi] at hf
    obtain ⟨key, x, hkw, hx, hr⟩ := hf
    have hsh := kw_of_sh hkw (by omega)
    refine ⟨key, turnV (shapeOf key) g x, hkw, by rw [sJ hv.1.wf.le, hx]; rfl, ?_⟩
    have hfit := (wO hv.2 hx).1
    rw [hsh] at hfit ⊢
    refine FvRel.turn hg hfit (fun c z hc hz hu => ?_) hr
    exact h c z (kid_idx h1 h2 hr hc) (by unfold kidsAt; rw [hfi]; exact hc) (wP hv.1 hv.2.kind hx (by rw [hsh]; exact hz)) hu
def cpyS (σ : Sig) (a : Flds) (c : Nat) : Flds := match σ c with
  | some s => cpy a s
  | none => a
def mgS (σ : Sig) (f : Flds) : Flds := match f 28 with
  | some (.list bs) => (bs.foldl (cpyS σ) f).put 28 none
  | _ => f
theorem mgS_none {σ : Sig} {f : Flds} (h : f 28 = none) : mgS σ f = f := by unfold mgS; rw [h]
theorem mgS_list {σ : Sig} {f : Flds} {bs : List Nat} (h : f 28 = some (.list bs)) : mgS σ f = (bs.foldl (cpyS σ) f).put 28 none := by unfold mgS; rw [h]
theorem cpy_or (f s : Flds) (i : Nat) : cpy f s i = f i ∨ cpy f s i = s i := by
  unfold cpy
  split
  · cases s i with
    | none => exact .inl rfl
    | some x => exact .inr rfl
  · exact .inl rfl
theorem cpy_put {a s : Flds} (h : s 28 = none) : (cpy a s).put 28 none = cpy (a.put 28 none) s := by
 funext i
 by_cases e : i = 28
 ·subst e
  show (if (28 : Nat) = 28 then none else _) = cpy (a.put 28 none) s 28
  unfold cpy
  rw [if_pos rfl, if_pos (by decide), h]
  simp [Flds.put]
 ·show (if i = 28 then none else cpy a s i) = cpy (a.put 28 none) s i
  rw [if_neg e]
  unfold cpy
  simp [Flds.put, e]
theorem fold_put {σ : Sig} {bs : List Nat} (h : ∀ c ∈ bs, ∀ s, σ c = some s → s 28 = none) (a : Flds) : (bs.foldl (cpyS σ) a).put 28 none = bs.foldl (cpyS σ) (a.put 28 none) := by
  induction bs generalizing a with
  | nil => rfl
  | cons c bs ih =>
    have h' := fun c' hc' => h c' (List.mem_cons_of_mem _ hc')
    rw [List.foldl_cons, List.foldl_cons, ih h']
    congr 1
    unfold cpyS
    cases hc : σ c with
    | none => rfl
    | some s => exact cpy_put (h c List.mem_cons_self s hc)
theorem fold_all {σ : Sig} {p : Nat → FVal → Prop} {bs : List Nat} (hs : ∀ c ∈ bs, ∀ s, σ c = some s → ∀ i fv, s i = some fv → p i fv) {a : Flds} (ha : ∀ i fv, a i = some fv → p i fv) : ∀ i fv, (bs.foldl (cpyS σ) a) i = some fv → p i fv := by
  induction bs generalizing a with
  | nil => exact ha
  | cons c bs ih =>
    refine ih (fun c' hc' => hs c' (List.mem_cons_of_mem _ hc')) (fun i fv hf => ?_)
    unfold cpyS at hf
    cases hc : σ c with
    | none => rw [hc] at hf; exact ha i fv hf
    | some s =>
      rw [hc] at hf
      rcases cpy_or a s i with e | e
      · exact ha i fv (e.symm.trans hf)
      · exact hs c List.mem_cons_self s hc i fv (e.symm.trans hf)
theorem mg_all {σ : Sig} {p : Nat → FVal → Prop} {f : Flds} (hs : ∀ bs, f 28 = some (.list bs) → ∀ c ∈ bs, ∀ s, σ c = some s → ∀ i fv, s i = some fv → p i fv) (ha : ∀ i fv, f i = some fv → p i fv) : ∀ i fv, mgS σ f i = some fv → p i fv := by
  intro i fv hf
  by_cases hl : ∃ bs, f 28 = some (.list bs)
  · obtain ⟨bs, hb⟩ := hl
    rw [mgS_list hb] at hf
    by_cases e : i = 28
    · subst e; simp [Flds.put] at hf
    · rw [show ∀ g : Flds, g.put 28 none i = g i from fun g => by simp [Flds.put, e]] at hf
      exact fold_all (hs bs hb) ha i fv hf
  · have e : mgS σ f = f := by
      unfold mgS
      split
      · rename_i bs hb; exact absurd ⟨bs, hb⟩ hl
      · rfl
    rw [e] at hf
    exact ha i fv hf
theorem fold_fld {U : Nat → V → Prop} {σ : Sig} : ∀ (bs : List Nat) (owns : List V), All2 (fun c own => SrtV own ∧ ∃ s, σ c = some s ∧ ∀ i, 1 ≤ i → i ≤ 36 → FldRel U own i (s i)) bs owns → ∀ (out : V) (a : Flds), SrtV out → (∀ i, 1 ≤ i → i ≤ 36 → FldRel U out i (a i)) → ∀ i, 1 ≤ i → i ≤ 36 → FldRel U (merL owns out) i ((bs.foldl (cpyS σ) a) i)
  | [], owns, h, out, a, ho, hf => by
    have : owns = [] := List.eq_nil_of_length_eq_zero h.1.symm
    subst this
    exact hf
  | c :: bs, [], h, out, a, ho, hf => by cases h.1
  | c :: bs, own :: owns, h, out, a, ho, hf => by
    obtain ⟨hso, s, hs, hfl⟩ := h.2 0 c own rfl rfl
    have h' : All2 (fun c own => SrtV own ∧ ∃ s, σ c = some s ∧ ∀ i, 1 ≤ i → i ≤ 36 → FldRel U own i (s i)) bs owns := ⟨by simpa using h.1, fun i a b ha hb => h.2 (i + 1) a b (by simpa using ha) (by simpa using hb)⟩
    refine fold_fld bs owns h' (mergeV own out) (cpyS σ a c) (srtV_setL ho) (fun i hi hj => ?_)
    have e : cpyS σ a c = cpy a s := by unfold cpyS; rw [hs]
    rw [e]
    exact fld_cpy hi hj (fun key => merge_get (srtV_nodup hso) (rH hso) (rH ho) key) (hfl i hi hj) (hf i hi hj)

def FinM (σ0 σ : Sig) (d : Nat) : Prop := ∀ e, Rch σ d e → (∃ f, σ e = some f ∧ f 28 = none) ∧ ∀ v, Sch v → USig σ0 v e → USig σ (mergedV v) e
def mrgT (mb : Nat) (σ0 : Sig) (mu : Nat → Nat) : Trv Unit where
 mb := mb
 X := fun _ => []
 D0 := []
 I := fun x => ∀ d, SGood Sch σ0 d → (∃ f, x.2 d = some f ∧ FT f ∧ ∀ i ∈ kidIdx, ∀ c ∈ kidsAt f i, SGood Sch σ0 c ∧ mu c < mu d) ∧ (x.2 d = σ0 d ∨ FinM σ0 x.2 d)
 S := SGood Sch σ0
 mu := mu
 dn := fun x _ b => FinM σ0 x.2 b
theorem fin_move {σ0 σ σ' : Sig} {d : Nat} (h : FinM σ0 σ d) (ha : ∀ e, Rch σ d e → σ' e = σ e) : FinM σ0 σ' d := by
 intro e he
 have he' := rch_agree' he ha
 obtain ⟨⟨f, h1, h2⟩, h3⟩ := h e he'
 exact ⟨⟨f, (ha e he').trans h1, h2⟩, fun v hv hu => usig_agree _ e (fun d' hd' => ha d' (he'.trans hd')) (h3 v hv hu)⟩
theorem kidsAt_some {f : Flds} {i c : Nat} (h : c ∈ kidsAt f i) : ∃ fv, f i = some fv ∧ c ∈ fkids fv := by
  unfold kidsAt at h
  cases hf : f i with
  | none => rw [hf] at h; cases h
  | some fv => rw [hf] at h; exact ⟨fv, rfl, h⟩
theorem mrg_usig {σ0 σ : Sig} {v : V} {b : Nat} {f : Flds} (hv : Sch v) (hu : USig σ0 v b) (hf : σ0 b = some f) (hft : FT f) (hfin : ∀ i ∈ kidIdx, ∀ c ∈ kidsAt f i, FinM σ0 σ c) :
    ∀ i, 1 ≤ i → i ≤ 36 → FldRel (fun c x => USig σ x c) (mergedV v) i (mgS σ f i) := by
  obtain ⟨f', h1, hU⟩ := (sU _ _ _).1 hu
  rw [hf] at h1
  injection h1 with h1
  subst h1
  have hsv := rG hv.1 hv.2.kind
  have below : ∀ i, 1 ≤ i → i ≤ 36 → FldRel (fun c x => USig σ x c) (belowV mergedV v) i (f i) := fun i hi hj =>
    fld_below mergedV_kind hv hi hj (fun c z hik hc hz huc => (hfin i hik c hc c (.refl c)).2 z (qI.kid v hv z hz) huc) (hU i hi hj)
  intro i hi hj
  cases h28 : f 28 with
  | none =>
    rw [mgS_none h28, tD, merV]
    have hno : getV (belowV mergedV v) k28 = none := by
      have := below 28 (by decide) (by decide)
      rw [h28] at this
      exact this k28 (by decide +kernel)
    rw [hno]
    exact below i hi hj
  | some fv =>
    have hok := hft 28 fv (by decide) (by decide) h28
    obtain ⟨key, xa, hkw, hxa, hr⟩ : ∃ key x, kwIdx key = 28 ∧ getV v key = some x ∧ FvRel (fun c x => USig σ0 x c) (shIdx 28) x fv := by
      have := hU 28 (by decide) (by decide)
      rw [h28] at this
      exact this
    obtain rfl := kwI hkw k28 (by decide +kernel) (by decide)
    obtain ⟨bs, rfl⟩ := rB hok
    have hf13 := (wO hv.2 hxa).1
    rw [e28] at hf13
    have hf' : xa.kind = 4 ∧ ∀ x' ∈ xa.items, x'.kind = 5 := by simpa [FitLoc] using hf13
    have hget : getV (belowV mergedV v) k28 = some (turnAll mergedV xa) := by
      rw [sJ hv.1.wf.le, hxa, e28]
      simp [turnV]
    have hbs : ∀ c ∈ bs, c ∈ kidsAt f 28 := fun c hc => by unfold kidsAt; rw [h28]; exact hc
    rw [mgS_list h28, fold_put (fun c hc s hs => ?_), tD, merV, hget]
    · refine fold_fld bs _ ?_ _ _ (rW (qL hsv)) (fun i hi hj => ?_) i hi hj
      · show All2 _ bs (xa.items.map (mapKids mergedV))
        refine All2.map (fun c z hc hz huc => ?_) hr.2
        rw [wD (hf'.2 z hz)]
        have hzk : z ∈ kidsV v := wP hv.1 hv.2.kind hxa (by rw [e28, kids13 hf'.2]; exact hz)
        have hsz := qI.kid v hv z hzk
        obtain ⟨s, hs, hfl⟩ := (sU _ _ _).1 ((hfin 28 (by decide) c (hbs c hc) c (.refl c)).2 z hsz huc)
        exact ⟨tE (rG hsz.1 hsz.2.kind), s, hs, hfl⟩
      · by_cases e : i = 28
        · subst e
          show FldRel _ _ 28 (if (28 : Nat) = 28 then none else f 28)
          rw [if_pos rfl]
          intro key hk
          obtain rfl := kwI hk k28 (by decide +kernel) (by decide)
          rw [get_without (qA _ _), if_pos rfl]
        · have e' : (f.put 28 none) i = f i := by simp [Flds.put, e]
          rw [e']
          have hb := below i hi hj
          have hg : ∀ key, kwIdx key = i → getV (withoutV (belowV mergedV v) k28) key = getV (belowV mergedV v) key := fun key hk => by
            rw [get_without (qA _ _), if_neg (fun h => e (by rw [← hk, h]; decide +kernel))]
          cases hfi : f i with
          | none => rw [hfi] at hb; intro key hk; rw [hg key hk]; exact hb key hk
          | some fv => rw [hfi] at hb; obtain ⟨key, x, a, b, c⟩ := hb; exact ⟨key, x, a, by rw [hg key a]; exact b, c⟩
    · obtain ⟨s', hs', h'⟩ := (hfin 28 (by decide) c (hbs c hc) c (.refl c)).1
      rw [hs] at hs'
      injection hs' with hs'
      rw [hs']; exact h'
theorem mrg_ok {P : Program} {fo : FuncId} {mb : Nat} {σ0 : Sig} {mu : Nat → Nat}
    (hop : ∀ σ b f ctx G, σ b = some f → FT f → GOk G σ → (∀ bs, f 28 = some (.list bs) → ∀ c ∈ bs, c ≠ b ∧ ∃ s, σ c = some s) → Ct P fo #[ptr b, .string ctx] [.many 124 (Gr.blks G)] [.graph mb G] (fun u M' D' => u = .tuple #[] ∧ ∃ G', GOk G' (upd σ b (some (mgS σ f))) ∧ M' = [.many 124 (Gr.blks G')] ∧ D' = [.graph mb G'])) :
    (mrgT mb σ0 mu).Ok P fo #[] where
  kid := fun x b hI hS => (hI b hS).1
  op := fun x b f ctx G hI hS hf hk hG => by
    obtain ⟨⟨f', h1, hft, hkid⟩, hst⟩ := hI b hS
    rw [hf] at h1
    injection h1 with h1
    subst h1
    refine (hop x.2 b f ctx G hf hft hG (fun bs hb c hc => ?_)).mono ?_
    · have hc' : c ∈ kidsAt f 28 := by unfold kidsAt; rw [hb]; exact hc
      obtain ⟨h2, h3⟩ := hkid 28 (by decide) c hc'
      obtain ⟨⟨s, hs, _⟩, _⟩ := hI c h2
      exact ⟨fun e => by subst e; exact Nat.lt_irrefl _ h3, s, hs⟩
    rintro u M' D' ⟨rfl, G', hG', rfl, rfl⟩
    have hk' : ∀ i ∈ kidIdx, ∀ c ∈ kidsAt f i, FinM σ0 x.2 c := hk
    by_cases h28 : f 28 = none
    · rw [mgS_none h28, upd_same hf] at hG'
      refine ⟨rfl, x, G', hI, hG', rfl, rfl, fun o d h => h, ?_, fun d _ => rfl⟩
      rcases hst with h | h
      · intro e he
        cases he with
        | refl =>
          refine ⟨⟨f, hf, h28⟩, fun v hv hu => (sU _ _ _).2 ⟨f, hf, fun i hi hj => ?_⟩⟩
          have := mrg_usig (σ := x.2) hv hu (h ▸ hf) hft hk' i hi hj
          rwa [mgS_none h28] at this
        | step hσ hi hc r =>
          rw [hf] at hσ
          injection hσ with hσ
          subst hσ
          exact hk' _ hi _ hc e r
      · exact h
    · have hnf : ¬ FinM σ0 x.2 b := fun h => by
        obtain ⟨⟨f', h1, h2⟩, _⟩ := h b (.refl b)
        rw [hf] at h1
        injection h1 with h1
        subst h1
        exact h28 h2
      have h0 : x.2 b = σ0 b := hst.resolve_right hnf
      have hne : ∀ d, FinM σ0 x.2 d → ∀ e, Rch x.2 d e → e ≠ b := fun d hd e he heq => by
        subst heq
        obtain ⟨⟨f', h1, h2⟩, _⟩ := hd e he
        rw [hf] at h1
        injection h1 with h1
        subst h1
        exact h28 h2
      have hmv : ∀ d, FinM σ0 x.2 d → FinM σ0 (upd x.2 b (some (mgS x.2 f))) d := fun d hd => fin_move hd fun e he => tN (hne d hd e he) _
      have hkF : ∀ i ∈ kidIdx, ∀ c ∈ kidsAt (mgS x.2 f) i, (SGood Sch σ0 c ∧ mu c < mu b) ∧ FinM σ0 x.2 c := by
        intro i hi c hc
        obtain ⟨fv, hfv, hcf⟩ := kidsAt_some hc
        refine mg_all (p := fun i fv => i ∈ kidIdx → ∀ c ∈ fkids fv, (SGood Sch σ0 c ∧ mu c < mu b) ∧ FinM σ0 x.2 c) (fun bs hb c' hc' s hs i fv hsi hik c hcf => ?_) (fun i fv hfi hik c hcf => ?_) i fv hfv hi c hcf
        · have hc2 : c' ∈ kidsAt f 28 := by unfold kidsAt; rw [hb]; exact hc'
          obtain ⟨h2, h3⟩ := hkid 28 (by decide) c' hc2
          obtain ⟨⟨s', hs', _, hk2⟩, _⟩ := hI c' h2
          rw [hs] at hs'
          injection hs' with hs'
          subst hs'
          have hcs : c ∈ kidsAt s i := by unfold kidsAt; rw [hsi]; exact hcf
          obtain ⟨h4, h5⟩ := hk2 i hik c hcs
          refine ⟨⟨h4, Nat.lt_trans h5 h3⟩, fun e he => hk' 28 (by decide) c' hc2 e (.step hs hik hcs he)⟩
        · have hcs : c ∈ kidsAt f i := by unfold kidsAt; rw [hfi]; exact hcf
          exact ⟨hkid i hik c hcs, hk' i hik c hcs⟩
      have hftF : FT (mgS x.2 f) := fun i fv hi hj hfv => by
        refine mg_all (p := fun i fv => 1 ≤ i → i ≤ 36 → FvOk (shIdx i) fv) (fun bs hb c' hc' s hs i fv hsi h1 h2 => ?_) (fun i fv hfi h1 h2 => hft i fv h1 h2 hfi) i fv hfv hi hj
        have hc2 : c' ∈ kidsAt f 28 := by unfold kidsAt; rw [hb]; exact hc'
        obtain ⟨⟨s', hs', hfs, _⟩, _⟩ := hI c' (hkid 28 (by decide) c' hc2).1
        rw [hs] at hs'
        injection hs' with hs'
        subst hs'
        exact hfs i fv h1 h2 hsi
      have hF28 : mgS x.2 f 28 = none := by
        cases h : f 28 with
        | none => exact absurd h h28
        | some fv =>
          have hok := hft 28 fv (by decide) (by decide) h
          obtain ⟨bs, rfl⟩ := rB hok
          rw [mgS_list h]; rfl
      have hfb : FinM σ0 (upd x.2 b (some (mgS x.2 f))) b := by
        intro e he
        cases he with
        | refl =>
          refine ⟨⟨_, uC _ _ _, hF28⟩, fun v hv hu => (sU _ _ _).2 ⟨_, uC _ _ _, fun i hi hj => ?_⟩⟩
          refine fldRel_monoK hi hj (fun c z hik hc _ huz => ?_) (mrg_usig (σ := x.2) hv hu (h0 ▸ hf) hft hk' i hi hj)
          exact usig_agree z c (fun d hd => tN (hne c (hkF i hik c hc).2 d hd) _) huz
        | step hσ hi hc r =>
          rw [uC] at hσ
          injection hσ with hσ
          subst hσ
          exact hmv _ (hkF _ hi _ hc).2 e r
      refine ⟨rfl, ((), upd x.2 b (some (mgS x.2 f))), G', fun d hd => ?_, hG', rfl, rfl, fun o d h => hmv d h, hfb, fun d hd => tN hd _⟩
      by_cases e : d = b
      · subst e
        exact ⟨⟨_, uC _ _ _, hftF, fun i hi c hc => (hkF i hi c hc).1⟩, .inr hfb⟩
      · obtain ⟨⟨f1, h1, h2, h3⟩, h4⟩ := hI d hd
        refine ⟨⟨f1, (tN e _).trans h1, h2, h3⟩, ?_⟩
        rcases h4 with h4 | h4
        · exact .inl ((tN e _).trans h4)
        · exact .inr (hmv d h4)
section rules
variable {P : Program} {n : Nat} {F : List Nat} {c : Ctx F} {ops : Array Oper} {d : Nat} {T : TypeId} {l : List Oper} {k : List KI} {Q : Post} {e : Env} {M : List HA} {D : List DA}
theorem run_frStrsF (i : Nat) {A : Option Addr} {m cap E : Nat} {xs : List Value} (ks : List ByteArray) (hA : ∀ a, A = some a → c.w0.heap.size ≤ a.block) (hi : M[i]? = some (.row A m cap E 1 xs)) (hx : xs = ks.map Value.string) (hs : ∀ s ∈ ks, s.size ≤ maxLen) (next : Run P n c k Q e (M.eraseIdx i) (.strs (.slice A m cap) ks :: D)) : Run P n c k Q e M D :=
  run_freezeF i [.strs (.slice A m cap) ks] (fun b hb => by
    cases A with
    | none => cases hb
    | some a => rw [List.mem_singleton.1 hb]; exact hA a rfl) hi (fun w ok h hok hD d hd => by
    rcases List.mem_singleton.1 hd with rfl
    exact strs_of_row h hok hx hs) next
end rules
inductive FoldB {α : Type} (Rl : V → α → α → V → Prop) (a0 : α) : Prs → α → Prs → Prop where
  | nil : FoldB Rl a0 [] a0 []
  | step {l l' : Prs} {a a1 : α} {p : ByteArray × V} {v : V} (h : FoldB Rl a0 l a l') (hr : TurnR Rl (shapeOf p.1) p.2 a a1 v) : FoldB Rl a0 (l ++ [p]) a1 (l' ++ [(p.1, v)])
theorem FoldB.keys {α : Type} {Rl : V → α → α → V → Prop} {a0 a : α} {l l' : Prs} (h : FoldB Rl a0 l a l') : l'.map (·.1) = l.map (·.1) := by
  induction h with
  | nil => rfl
  | step h hr ih => simp [ih]
theorem FoldB.stepI {α : Type} {Rl : V → α → α → V → Prop} {a0 a a1 : α} {t v : V} {l : Prs} {i : Nat} (h1 : i < t.keys.length) (h2 : i < t.items.length) (h : FoldB Rl a0 ((t.keys.zip t.items).take i) a l) (hr : TurnR Rl (shapeOf t.keys[i]) t.items[i] a a1 v) :
  FoldB Rl a0 ((t.keys.zip t.items).take (i + 1)) a1 (l ++ [(t.keys[i], v)]) := by
 rw [List.take_add_one, (by rw [List.getElem?_zip_eq_some]; exact ⟨List.getElem?_eq_getElem h1, List.getElem?_eq_getElem h2⟩ : (t.keys.zip t.items)[i]? = some (t.keys[i], t.items[i]))]
 exact .step h hr
def BelR {α : Type} (Rl : V → α → α → V → Prop) (t : V) (a a' : α) (v' : V) : Prop := ∃ l, FoldB Rl a (t.keys.zip t.items) a' l ∧ v' = mkM l
theorem zip_fst_take (ks : List ByteArray) (ts : List V) (i : Nat) (h : ks.length ≤ ts.length) : ((ks.zip ts).take i).map (·.1) = ks.take i := by
 rw [List.map_take, List.map_fst_zip h]

theorem c120g {α : Type} {X : α → List HA} {DX : α → DA} {Rl : V → α → α → V → Prop} (f : FuncId) (fst cap : Array Value) (t : V) (x : Value) (hkl : t.keys.length ≤ 1000000) (hil : t.items.length ≤ 1000000) (hlen : t.keys.length ≤ t.items.length) (hin : ∀ v ∈ t.items, v.keys.length ≤ 1000000 ∧ v.items.length ≤ 1000000)
  (hf : ∀ own ∈ kidsV t, FnR X DX (fun _ _ => True) Rl f fst cap own) (a0 : α) : Ct Tryz.prog 120 #[x, .func (.func f) fst cap] (X a0) [.val x t, DX a0] (fun u M' D' => ∃ a' v' D1, BelR Rl t a0 a' v' ∧ M' = X a' ∧ RV v' u D1 ∧ D' = D1 ++ [DX a']) := by
 refine Ct.of_run (args := [x, .func (.func f) fst cap]) Tryz.func120 (by kernel_rfl) rfl Tryz.ntmps120 rfl (fun c => ?_)
 refine yW 0 rfl (fun A1 c1 A2 c2 hx hs hk1 hk2 hi1 hi2 => ?_)
 subst hx
 unfold maxLen at hi2 hk2
 refine vY 0 rfl (fun hksz => ?_)
 refine rO 3 rfl (yN rfl rfl rfl (fun b2 => ?_))
 refine zA (zR ze25 rfl (fun b4 => ?_))
 change RunOps _ _ _ _ _ _ _ _ (HA.blk _ [_, _, _, _, _] _ :: _) _
 refine oO 4 rfl (yS rfl rfl (bu25_0 ..) ?_)
 refine zA (zR ze25 rfl (fun b5 => ?_))
 change RunOps _ _ _ _ _ _ _ _ (HA.blk _ [_, _, _, _, _] _ :: _) _
 refine zA (zF 0 (M' := HA.blk _ [_, _, _, _, _] _ :: _) rfl rfl rfl rfl si25 rfl rfl rfl ?_)
 refine oO 5 rfl (zB xB rfl rfl ?_)
 refine zA (zH 2 sc22 rfl rfl rfl rfl ?_)
 refine zA (zX sl22 rfl rfl ?_)
 refine oK 4 [12, 11, 10, 5, 4, 2, 1] rfl rfl (xN 25 5 ?_)
 refine xN 9 1 (yK (DX a0) (fun w ok h => dget h 3 rfl) ?_)
 refine uY ?_
 refine yH 1 (fun (⟨i, a, Ak, ck, xk, A, ca, xs, ts, l⟩ : Nat × α × Option Addr × Nat × List Value × Option Addr × Nat × List Value × List V × Prs) => i ≤ t.keys.length ∧ FoldB Rl a0 ((t.keys.zip t.items).take i) a l ∧ xk = (t.keys.take i).map Value.string ∧ ts = l.map (·.2) ∧ (∀ q, Ak = some q → c.w0.heap.size ≤ q.block) ∧ ∀ q, A = some q → c.w0.heap.size ≤ q.block) (fun (⟨i, a, Ak, ck, xk, A, ca, xs, ts, l⟩ : Nat × α × Option Addr × Nat × List Value × Option Addr × Nat × List Value × List V × Prs) => [(12, .int .i64 ((i : Nat) : Int))]) (fun (⟨i, a, Ak, ck, xk, A, ca, xs, ts, l⟩ : Nat × α × Option Addr × Nat × List Value × Option Addr × Nat × List Value × List V × Prs) => HA.row Ak i ck 9 1 xk :: HA.row A i ca 25 5 xs :: HA.blk b5 [.int .i64 5, .int .i64 0, .string ⟨#[]⟩, .slice Ak i ck, .slice A i ca] 25 :: HA.blk b4 [.int .i64 0, .int .i64 0, .string ⟨#[]⟩, .slice none 0 0, .slice none 0 0] 25 :: HA.blk b2 [.int .i64 t.kind, .int .i64 t.num, .string t.text, .slice A1 t.keys.length c1, .slice A2 t.items.length c2] 25 :: X a) (fun (⟨i, a, Ak, ck, xk, A, ca, xs, ts, l⟩ : Nat × α × Option Addr × Nat × List Value × Option Addr × Nat × List Value × List V × Prs) => .its xs ts :: DX a :: .strs (.slice A1 t.keys.length c1) t.keys :: .vals (.slice A2 t.items.length c2) t.items :: .val (.agg #[.int .i64 t.kind, .int .i64 t.num, .string t.text, .slice A1 t.keys.length c1, .slice A2 t.items.length c2]) t :: DX a0 :: []) (fun (⟨i, a, Ak, ck, xk, A, ca, xs, ts, l⟩ : Nat × α × Option Addr × Nat × List Value × Option Addr × Nat × List Value × List V × Prs) => t.keys.length - i) (0, a0, none, 0, [], none, 0, [], [], []) (⟨Nat.zero_le _, .nil, rfl, rfl, (fun q h => by cases h), (fun q h => by cases h)⟩) (eC rfl (eN _)) rfl rfl ?_ (eC rfl (eC rfl (eC rfl (eC rfl (eC rfl (eC rfl (eN _)))))))
 intro ⟨i, a, Ak, ck, xk, A, ca, xs, ts, l⟩ hI K hK
 replace hI : i ≤ t.keys.length ∧ FoldB Rl a0 ((t.keys.zip t.items).take i) a l ∧ xk = (t.keys.take i).map Value.string ∧ ts = l.map (·.2) ∧ (∀ q, Ak = some q → c.w0.heap.size ≤ q.block) ∧ ∀ q, A = some q → c.w0.heap.size ≤ q.block := hI
 change Run _ _ _ _ _ [(12, _), (11, _), (10, _), (5, _), (4, _), (2, _), (1, _)] (HA.row Ak i ck 9 1 xk :: HA.row A i ca 25 5 xs :: HA.blk b5 [.int .i64 5, .int .i64 0, .string ⟨#[]⟩, .slice Ak i ck, .slice A i ca] 25 :: HA.blk b4 [.int .i64 0, .int .i64 0, .string ⟨#[]⟩, .slice none 0 0, .slice none 0 0] 25 :: HA.blk b2 [.int .i64 t.kind, .int .i64 t.num, .string t.text, .slice A1 t.keys.length c1, .slice A2 t.items.length c2] 25 :: X a) [_, _, _, _, _, _]
 obtain ⟨hi, hF, hxk, hts, hAk, hA⟩ := hI
 refine rO 3 rfl (yM rfl rfl rfl ?_)
 refine oR 2 rfl (zO rfl (fun h13 => ?_) (fun h13 => ?_))
 ·refine rO 8 rfl (wM 2 sl22 rfl rfl rfl rfl (by omega) ?_)
  refine zA (yJ sc9 rfl rfl (fun _ h => wE h (j := 2) rfl (List.getElem?_eq_getElem h13)) ?_)
  refine oO 8 rfl (zB xB rfl rfl ?_)
  refine zA (zH 2 sc22 rfl rfl rfl rfl ?_)
  refine oO 3 rfl (zK sl22 rfl rfl rfl rfl rfl (fun b20 => ?_))
  refine zA ?_
  refine qW 1 0 sl22 rfl rfl rfl rfl rfl rfl rfl (by unfold maxLen; omega) (by omega) hAk (fun A21 c21 hA21 => ?_)
  refine zA (zB xB rfl rfl ?_)
  refine zA (zF 3 (M' := _ :: _ :: _ :: HA.blk _ [_, _, _, _, _] _ :: _) rfl rfl rfl rfl si22 rfl rfl rfl ?_)
  refine oK 1 [7, 6, 12, 11, 10, 5, 4, 2, 1] rfl rfl (yT yE ?_)
  refine zS (tP 0 rfl wanted0 (zU yO rfl) ?_)
  refine tP 2 rfl wanted0 (zW rfl) (tP 3 rfl wanted0 (zU yO rfl) ?_)
  refine tP 5 rfl wanted0 (zW rfl) (tP 8 rfl wanted0 (zW rfl) ?_)
  refine any_grpG (zC 3 rfl (zC 4 rfl (yC _))) (uM (zC 3 rfl (zC 4 rfl (yC _))) 1 (xC _ _ _ _) rfl wanted0 (by decide +kernel) (by decide +kernel) (by decide +kernel) rfl (yP 0 sc23 rfl rfl rfl) ?_)
  refine uM (zC 3 rfl (zC 4 rfl (yC _))) 4 (xC _ _ _ _) rfl wanted0 (by decide +kernel) (by decide +kernel) (by decide +kernel) rfl (yP 1 sc23 rfl rfl rfl) (any_grpD ?_)
  refine pA 6 (xC _ _ _ _) rfl wanted0 (by decide +kernel) (by decide +kernel) (by decide +kernel) rfl (wT 3 sl23 rfl rfl rfl (by omega)) ?_
  have hlt : i < t.items.length := by omega
  refine vZ 3 rfl (List.getElem?_eq_getElem hlt) (fun vs30 hl30 => ?_)
  refine any_grpD (pA 7 (xC _ _ _ _) rfl wanted0 (by decide +kernel) (by decide +kernel) (by decide +kernel) rfl (uA 0 hl30 ag25 rfl rfl) ?_)
  refine zI 9 (by decide +kernel) ?_
  refine zL (I2 := [[], [], [1], [0], []]) rfl wanted0 (by decide +kernel) (fun Kd hKd => ?_)
  refine op_callE (pre := [_, _, _, _, _, _]) rfl rfl rfl (c54g (X := X) (DX := DX) (Ok := fun _ _ => True) (fun _ _ _ => trivial) _ (t.items[i]'hlt) _ f fst cap (hin _ (List.getElem_mem hlt)).1 (hin _ (List.getElem_mem hlt)).2 (fun own ho => hf own (List.mem_flatMap.2 ⟨(t.keys[i]'h13, t.items[i]'hlt), List.mem_of_getElem? (i := i) (by rw [List.getElem?_zip_eq_some]; exact ⟨List.getElem?_eq_getElem h13, List.getElem?_eq_getElem hlt⟩), ho⟩)) a trivial) rfl (sub2 1 3 rfl rfl) (fun u32 M32 D32 hv32 => ?_)
  obtain ⟨a32, v32, D32, hR32, rfl, ⟨A32, m32, B32, d32, rfl, rfl⟩, rfl⟩ := hv32
  refine hKd _ _ _ (zD (zD (vX (by repeat (first | exact xS _ | exact yC _ | refine zC 0 rfl ?_ | refine zC 1 rfl ?_ | refine zC 2 rfl ?_ | refine zC 3 rfl ?_ | refine zC 4 rfl ?_ | refine zC 5 rfl ?_ | refine zC 6 rfl ?_ | refine zC 7 rfl ?_ | refine zC 8 rfl ?_ | refine uP ?_)) sQ (vR (by repeat (first | exact List.nil_sublist _ | exact List.Sublist.refl _ | apply List.Sublist.cons)) sQ (zD (zM)))))) ?_
  refine zI 10 (by decide +kernel) ?_
  refine zL (I2 := [[], [], [1], [0], []]) rfl wanted0 (by decide +kernel) (fun Kd hKd => ?_)
  refine zK sl23 rfl rfl rfl rfl rfl (fun b33 => ?_)
  refine hKd _ _ _ (zD (zD (vX (by repeat (first | exact xS _ | exact yC _ | refine zC 0 rfl ?_ | refine zC 1 rfl ?_ | refine zC 2 rfl ?_ | refine zC 3 rfl ?_ | refine zC 4 rfl ?_ | refine zC 5 rfl ?_ | refine zC 6 rfl ?_ | refine zC 7 rfl ?_ | refine zC 8 rfl ?_ | refine uP ?_)) sQ (vR (by repeat (first | exact List.nil_sublist _ | exact List.Sublist.refl _ | apply List.Sublist.cons)) sQ (zD (zM)))))) ?_
  refine zI 11 (by decide +kernel) ?_
  refine zL (I2 := [[], [], [], [], []]) rfl wanted0 (by decide +kernel) (fun Kd hKd => ?_)
  refine qW 3 0 sl23 rfl rfl rfl rfl rfl rfl rfl (by unfold maxLen; omega) (by omega) hA (fun A34 c34 hA34 => ?_)
  refine hKd _ _ _ (zD (zD (zD (zD (zD (zM)))))) (zS ?_)
  refine tP 12 rfl wanted0 (zU yO rfl) (zI 13 (by decide +kernel) ?_)
  refine zL (I2 := [[], [], [], [], [], []]) rfl wanted0 (by decide +kernel) (fun Kd hKd => ?_)
  refine zF 4 (M' := _ :: _ :: _ :: _ :: HA.blk _ [_, _, _, _, _] _ :: _) rfl rfl rfl rfl si23 rfl rfl rfl (hKd _ _ _ (zD (zD (zD (zD (zD (zD (zM))))))) ?_)
  refine yD (by decide +kernel) (rK 0 [12, 11, 10, 5, 4, 2, 1] rfl rfl ?_)
  refine rO 3 rfl (yB rfl rfl (by omega) ?_)
  refine oR 3 rfl (wB 4 0 rfl rfl rfl ?_)
  exact kQ (hK (i + 1, a32, A21, c21, xk ++ [.string t.keys[i]], A34, c34, _, ts ++ [v32], l ++ [(t.keys[i], v32)]) (⟨by show i + 1 ≤ _; omega, hF.stepI (by omega) hlt hR32, by rw [hxk, List.take_add_one, List.getElem?_eq_getElem (by omega : i < t.keys.length), List.map_append]; rfl, by rw [hts]; simp, hA21, hA34⟩) (by show t.keys.length - (i + 1) < t.keys.length - i; omega)) (eC rfl (eC rfl (eC rfl (eC rfl (eC rfl (eC rfl (eC rfl (eN _)))))))) (hM := (by repeat (first | exact xS _ | exact yC _ | refine zC 0 rfl ?_ | refine zC 1 rfl ?_ | refine zC 2 rfl ?_ | refine zC 3 rfl ?_ | refine zC 4 rfl ?_ | refine zC 5 rfl ?_ | refine zC 6 rfl ?_ | refine zC 7 rfl ?_ | refine zC 8 rfl ?_ | refine uP ?_))) (hD := (by intro d hd; refine (List.mem_cons.1 hd).elim (fun e => e ▸ (by (repeat (first | exact List.mem_cons_self | apply List.mem_cons_of_mem)))) (fun hd => ?_); refine (List.mem_cons.1 hd).elim (fun e => e ▸ (by (repeat (first | exact List.mem_cons_self | apply List.mem_cons_of_mem)))) (fun hd => ?_); repeat (first | exact hd | apply List.mem_cons_of_mem)))
 refine rO 4 rfl (zQ 2 rfl ag25 rfl rfl ?_)
 refine zA (zF 3 (M' := _ :: _ :: _ :: HA.blk _ [_, _, _, _, _] _ :: _) rfl rfl rfl rfl si25 rfl rfl rfl ?_)
 refine zZ ?_
 obtain rfl : i = t.keys.length := by omega
 have hll : l.length = t.keys.length := by
  have e := congrArg List.length hF.keys
  rw [zip_fst_take _ _ _ hlen, List.length_map, List.take_length] at e
  exact e
 have hlk : l.map (·.1) = t.keys := by rw [hF.keys, zip_fst_take _ _ _ hlen, List.take_length]
 rw [List.take_of_length_le (by rw [List.length_zip]; omega)] at hF
 refine run_frStrsF 0 (l.map (·.1)) hAk rfl (by rw [hxk, hlk, List.take_length]) (by rw [hlk]; exact hksz) (run_frValsF 0 1 ts hA rfl rfl (by rw [hts, List.length_map, hll]) ?_)
 refine wH (q := 5) (m := 0) (s := ⟨#[]⟩) 1 0 rfl rfl (by decide) ?_
 subst hts
 exact yZ 1 Tryz.results120 rfl rfl ag25 ⟨a, mkM l, _, ⟨l, hF, rfl⟩, rfl, ⟨_, _, _, _, by simp only [mkM, V.kind, V.num, V.text, V.keys, V.items, List.length_map, hll]; rfl, rfl⟩, rfl⟩ (by repeat (first | exact List.nil_sublist _ | exact List.Sublist.refl _ | apply List.Sublist.cons)) (by intro d hd; refine (List.mem_cons.1 hd).elim (fun e => e ▸ (by (repeat (first | exact List.mem_cons_self | apply List.mem_cons_of_mem)))) (fun hd => ?_); refine (List.mem_cons.1 hd).elim (fun e => e ▸ (by (repeat (first | exact List.mem_cons_self | apply List.mem_cons_of_mem)))) (fun hd => ?_); repeat (first | exact hd | apply List.mem_cons_of_mem))
theorem nodup_le {α : Type} [DecidableEq α] : ∀ {l l' : List α}, l.Nodup → (∀ x ∈ l, x ∈ l') → l.length ≤ l'.length
  | [], _, _, _ => Nat.zero_le _
  | x :: t, l', hn, hs => by
    rw [List.nodup_cons] at hn
    have hx := hs x List.mem_cons_self
    have h1 := nodup_le (l' := l'.erase x) hn.2 (fun y hy => (List.mem_erase_of_ne (fun e : y = x => hn.1 (by rw [← e]; exact hy))).2 (hs y (List.mem_cons_of_mem _ hy)))
    rw [List.length_erase_of_mem hx] at h1
    have h2 := List.length_pos_of_mem hx
    simp only [List.length_cons]
    omega
def RlM (own : V) (a a' : Bool) (v : V) : Prop := v = mergedV own ∧ (a' = false → a = false ∧ DeepV Mok own)
theorem fold_m {a0 a : Bool} {l l' : List V} (h : FoldR RlM a0 l a l') : l' = l.map (mapKids mergedV) ∧ (a = false → a0 = false ∧ ∀ z ∈ l.filter (fun x => decide (x.kind = 5)), DeepV Mok z) := by
  induction h with
  | nil => exact ⟨rfl, fun h => ⟨h, fun z hz => by cases hz⟩⟩
  | pos h hk hr ih =>
    refine ⟨by rw [List.map_append, ih.1, hr.1]; simp [mapKids, hk], fun ha => ?_⟩
    obtain ⟨h1, h2⟩ := hr.2 ha
    obtain ⟨h3, h4⟩ := ih.2 h1
    refine ⟨h3, fun z hz => ?_⟩
    rw [List.filter_append, List.mem_append] at hz
    rcases hz with hz | hz
    · exact h4 z hz
    · have : z = _ := List.mem_singleton.1 (List.mem_filter.1 hz).1
      rw [this]; exact h2
  | neg h hk ih =>
    refine ⟨by rw [List.map_append, ih.1]; simp [mapKids, hk], fun ha => ?_⟩
    obtain ⟨h3, h4⟩ := ih.2 ha
    refine ⟨h3, fun z hz => ?_⟩
    rw [List.filter_append, List.mem_append] at hz
    rcases hz with hz | hz
    · exact h4 z hz
    · have e := List.mem_singleton.1 (List.mem_filter.1 hz).1
      exact absurd (by rw [← e]; simpa using (List.mem_filter.1 hz).2) hk
theorem turn_m {sh : Int} {t v : V} {a a' : Bool} (h : TurnR RlM sh t a a' v) : v = turnV sh mergedV t ∧ (a' = false → a = false ∧ ∀ z ∈ kidsOf sh t, DeepV Mok z) := by
 have al : AllR RlM t a a' v → v = turnAll mergedV t ∧ (a' = false → a = false ∧ ∀ z ∈ t.items.filter (fun x => decide (x.kind = 5)), DeepV Mok z) := fun ⟨ts, h, e⟩ => by
  obtain ⟨h1, h2⟩ := fold_m h
  exact ⟨by rw [e, h1]; rfl, h2⟩
 have one : RlM t a a' v → v = mergedV t ∧ (a' = false → a = false ∧ ∀ z ∈ [t], DeepV Mok z) := fun h =>
  ⟨h.1, fun ha => ⟨(h.2 ha).1, fun z hz => by rw [List.mem_singleton.1 hz]; exact (h.2 ha).2⟩⟩
 have no : (a' = a ∧ v = t) → v = t ∧ (a' = false → a = false ∧ ∀ z ∈ ([] : List V), DeepV Mok z) := fun h => ⟨h.2, fun ha => ⟨h.1 ▸ ha, fun z hz => by cases hz⟩⟩
 unfold TurnR at h
 unfold turnV kidsOf
 split at h
 ·rename_i h5; rw [if_pos h5, if_pos h5]; exact one h
 rename_i h5; rw [if_neg h5, if_neg h5]
 split at h
 ·rename_i h6
  rw [if_pos h6, if_pos h6]
  split at h
  ·rename_i hk; rw [if_pos hk, if_pos hk]; exact one h
  ·rename_i hk; rw [if_neg hk, if_neg hk]; exact no h
 rename_i h6; rw [if_neg h6, if_neg h6]
 split at h
 ·rename_i h7
  rw [if_pos h7, if_pos h7]
  split at h
  ·rename_i hk; rw [if_pos hk, if_pos hk]; exact one h
  ·rename_i hk; rw [if_neg hk, if_neg hk]; exact al h
 rename_i h7; rw [if_neg h7, if_neg h7]
 split at h
 ·rename_i h9; rw [if_pos h9, if_pos h9]; exact al h
 ·rename_i h9; rw [if_neg h9, if_neg h9]; exact no h
theorem foldB_m {a0 a : Bool} {l l' : Prs} (h : FoldB RlM a0 l a l') : l' = l.map (fun p => (p.1, turnV (shapeOf p.1) mergedV p.2)) ∧ (a = false → a0 = false ∧ ∀ z ∈ l.flatMap (fun p => kidsOf (shapeOf p.1) p.2), DeepV Mok z) := by
  induction h with
  | nil => exact ⟨rfl, fun h => ⟨h, fun z hz => by cases hz⟩⟩
  | step h hr ih =>
    obtain ⟨e1, e2⟩ := turn_m hr
    refine ⟨by rw [List.map_append, ih.1, e1]; rfl, fun ha => ?_⟩
    obtain ⟨h1, h2⟩ := e2 ha
    obtain ⟨h3, h4⟩ := ih.2 h1
    refine ⟨h3, fun z hz => ?_⟩
    rw [List.flatMap_append, List.mem_append] at hz
    rcases hz with hz | hz
    · exact h4 z hz
    · exact h2 z (by simpa using hz)
theorem bel_m {own v : V} {a a' : Bool} (h : BelR RlM own a a' v) : v = belowV mergedV own ∧ (a' = false → a = false ∧ ∀ z ∈ kidsV own, DeepV Mok z) := by
 obtain ⟨l, h1, rfl⟩ := h
 obtain ⟨h2, h3⟩ := foldB_m h1
 exact ⟨by rw [h2]; rfl, h3⟩

theorem clear1_snoc {l : Prs} {p : ByteArray × V} {o : V} : Clear1 (l ++ [p]) o ↔ Clear1 l o ∧ ¬ (0 ≤ findI (setL l o).keys p.1 ∨ p.1 = k3 ∨ p.1 = k2 ∨ p.1 = k1) := by
  induction l generalizing o with
  | nil => show (_ ∧ True) ↔ (True ∧ _); simp [setL]
  | cons q l ih =>
    show (_ ∧ Clear1 (l ++ [p]) _) ↔ ((_ ∧ Clear1 l _) ∧ _)
    rw [ih, and_assoc]
    rfl
theorem clearM_snoc {l : List V} {own o : V} : ClearM (l ++ [own]) o ↔ ClearM l o ∧ Clear1 (own.keys.zip own.items) (merL l o) := by
  induction l generalizing o with
  | nil => show (_ ∧ True) ↔ (True ∧ _); simp [merL]
  | cons q l ih =>
    show (_ ∧ ClearM (l ++ [own]) _) ↔ ((_ ∧ ClearM l _) ∧ _)
    rw [ih, and_assoc]
    rfl
theorem qM {l : Prs} {out : V} {i : Nat} {p : ByteArray × V} (h : l[i]? = some p) : withV (setL (l.take i) out) p.1 p.2 = setL (l.take (i + 1)) out := by
 unfold setL
 rw [List.take_add_one, h, List.foldl_append]
 rfl

def KwS (o : V) : Prop := SrtV o ∧ Kw1 o
theorem kwS_mem {key : ByteArray} (h : isKw key = true) : key ∈ shKeys := sh_case (of_decide_eq_true h)
theorem kwS_size {key : ByteArray} (h : isKw key = true) : key.size ≤ maxLen := by
 have h1 : ∀ k ∈ shKeys, k.size ≤ 1000 := by decide +kernel
 have := h1 key (kwS_mem h)
 unfold maxLen
 omega
theorem ks_few {o : V} (h : KwS o) : o.keys.length ≤ 1000 := by
 have h1 := nodup_le (srtV_nodup h.1) (fun k hk => kwS_mem (h.2 k hk))
 have h2 : shKeys.length ≤ 1000 := by decide
 omega
theorem kw1_mk {l : Prs} (h : ∀ p ∈ l, isKw p.1 = true) : Kw1 (mkM l) := fun k hk => by
 obtain ⟨p, hp, rfl⟩ := List.mem_map.1 (show k ∈ l.map (·.1) from hk)
 exact h p hp
theorem kw1_zip {o : V} (h : Kw1 o) : ∀ p ∈ o.keys.zip o.items, isKw p.1 = true := fun p hp => h _ (List.of_mem_zip hp).1
theorem ks_with {o own : V} {key : ByteArray} (h : KwS o) (hk : isKw key = true) : KwS (withV o key own) :=
 ⟨srtV_with h.1, kw1_mk fun p hp => by
  rcases with_mem hp with rfl | hp
  ·exact hk
  ·exact kw1_zip h.2 p hp⟩
theorem ks_setL {l : Prs} : ∀ {o : V}, KwS o → (∀ p ∈ l, isKw p.1 = true) → KwS (setL l o) := by
  induction l with
  | nil => intro o h _; exact h
  | cons p l ih => intro o h hl; exact ih (ks_with h (hl p List.mem_cons_self)) (fun q hq => hl q (List.mem_cons_of_mem _ hq))
theorem ks_merL {l : List V} : ∀ {o : V}, KwS o → (∀ own ∈ l, KwS own) → KwS (merL l o) := by
  induction l with
  | nil => intro o h _; exact h
  | cons p l ih => intro o h hl; exact ih (ks_setL h (kw1_zip (hl p List.mem_cons_self).2)) (fun q hq => hl q (List.mem_cons_of_mem _ hq))
theorem ks_merged {v : V} (hv : Sch v) (hk : DeepV Kw1 v) : KwS (mergedV v) :=
 ⟨tE (rG hv.1 hv.2.kind), ((wS _ _).1 (deep_merged v hv hk)).1⟩
theorem ks_below {v : V} (hv : Sch v) (hk : DeepV Kw1 v) : KwS (belowV mergedV v) :=
 ⟨qL (rG hv.1 hv.2.kind), kw1_mk fun p hp => by
  obtain ⟨q, hq, rfl⟩ := List.mem_map.1 hp
  exact kw1_zip ((wS _ _).1 hk).1 q hq⟩
theorem ks_without {o : V} {key : ByteArray} (h : KwS o) : KwS (withoutV o key) :=
 ⟨rW h.1, kw1_mk fun p hp => kw1_zip h.2 p (List.mem_filter.1 hp).1⟩
theorem all_ks {v all : V} (hv : Sch v) (hk : DeepV Kw1 v) (h : getV (belowV mergedV v) k28 = some all) : all.items.length ≤ 1000 ∧ ∀ own ∈ all.items, KwS own := by
  rw [sJ hv.1.wf.le, e28] at h
  cases hx : getV v k28 with
  | none => rw [hx] at h; cases h
  | some xa =>
    rw [hx] at h
    injection h with h
    have hf13 := (wO hv.2 hx).1
    rw [e28] at hf13
    have hf' : xa.kind = 4 ∧ ∀ x' ∈ xa.items, x'.kind = 5 := by simpa [FitLoc] using hf13
    have e : all = turnAll mergedV xa := by rw [← h]; simp [turnV]
    have hxm := getV_mem hx
    refine ⟨?_, fun own ho => ?_⟩
    · rw [e]
      show (xa.items.map (mapKids mergedV)).length ≤ _
      rw [List.length_map]
      have := (hv.1.item _ hxm).len
      omega
    · rw [e] at ho
      obtain ⟨z, hz, rfl⟩ := List.mem_map.1 (show own ∈ xa.items.map (mapKids mergedV) from ho)
      rw [wD (hf'.2 z hz)]
      have hzk : z ∈ kidsV v := wP hv.1 hv.2.kind hx (by rw [e28, kids13 hf'.2]; exact hz)
      exact ks_merged (qI.kid v hv z hzk) (((wS _ _).1 hk).2 z hzk)
section rules
variable {P : Program} {n : Nat} {F : List Nat} {c : Ctx F} {ops : Array Oper} {d : Nat} {T : TypeId} {l : List Oper} {k : List KI} {Q : Post} {e : Env} {M : List HA} {D : List DA}
theorem op_makeFuncB {fn : Fn} {x : Operand} {cs : Array Operand} {v : Value} (hd : Nat.blt d n = true) (hx : ev e x = some v) (hc : cs = #[]) (next : RunOps P n c ops l k Q ((d, .func fn #[v] #[]) :: e) M D) :
  RunOp P n c ops (some d) (.makeFunc fn #[x] cs) T l k Q e M D := by
 subst hc
 exact xM hd (fun a w hfit => by simp [execOp, opr, Instr.makeFunc, hfit.ev hx]) next
end rules
def XM (bm : Nat) (a : Bool) : List HA := [.blk bm [.bool a] 90]
def DM (_ : Bool) : DA := .val (.agg #[.int .i64 0, .int .i64 0, .string ⟨#[]⟩, .slice none 0 0, .slice none 0 0]) zV
theorem zipj {w : V} {j : Nat} (h1 : j < w.keys.length) (h2 : j < w.items.length) : (w.keys.zip w.items)[j]? = some (w.keys[j], w.items[j]) := by
 rw [List.getElem?_zip_eq_some]; exact ⟨List.getElem?_eq_getElem h1, List.getElem?_eq_getElem h2⟩

theorem c79 (bm : Nat) (own : V) : Sch own → DeepV Kw1 own → FnR (XM bm) DM (fun _ _ => True) RlM 79 #[ptr bm] #[] own := by
 refine V.indS (p := fun own => Sch own → DeepV Kw1 own → FnR (XM bm) DM (fun _ _ => True) RlM 79 #[ptr bm] #[] own) ?_ own
 intro v IH hv hk k a x _
 change Ct Tryz.prog 79 #[ptr bm, x] [.blk bm [.bool a] 90] [.val x v, DM a] _
 refine Ct.of_run (args := [ptr bm, x]) Tryz.func79 (by kernel_rfl) rfl Tryz.ntmps79 rfl (fun c => ?_)
 refine yW 0 rfl (fun A1 c1 A2 c2 hx hsz hk1 hk2 hi1 hi2 => ?_)
 subst hx
 refine rO 3 rfl (yN rfl rfl rfl (fun b3 => ?_))
 refine zA (zR ze25 rfl (fun b4 => ?_))
 change RunOps _ _ _ _ _ _ _ _ (HA.blk _ [_, _, _, _, _] _ :: _) _
 refine oO 4 rfl (zQ 1 rfl ag25 rfl rfl ?_)
 refine oO 3 rfl (op_makeFuncB rfl rfl rfl ?_)
 refine zA (op_callE (pre := [_, _]) rfl rfl rfl (c120g (X := XM bm) (DX := DM) (Rl := RlM) 79 #[ptr bm] #[] v _ hv.1.wf.kl hv.1.wf.il hv.1.wf.le (fun u hu => ⟨(hv.1.item u hu).wf.kl, (hv.1.item u hu).wf.il⟩) (fun o ho => IH o (vD ho) (qI.kid v hv o ho) (((wS _ _).1 hk).2 o ho)) a) rfl (sub2 2 3 rfl rfl) (fun u15 M15 D15 hv15 => ?_))
 obtain ⟨a15, v15, D15, hR15, rfl, ⟨A15, m15, B15, d15, rfl, rfl⟩, rfl⟩ := hv15
 obtain ⟨e15, hfl15⟩ := bel_m hR15
 subst e15
 refine zA (zF 1 (M' := [_, HA.blk _ [_, _, _, _, _] _, _]) rfl rfl rfl rfl si25 rfl rfl rfl ?_)
 refine oO 4 rfl (zQ 1 rfl ag25 rfl rfl ?_)
 refine zA ?_
 refine zT rfl rfl rfl (c62v _ (belowV mergedV v) k28 (qA _ _)) (by first | exact sub1 0 rfl | exact sub1 1 rfl | exact sub1 2 rfl | exact sub1 3 rfl | exact sub1 4 rfl | exact sub1 5 rfl | exact sub1 6 rfl | exact sub1 7 rfl | exact sub1 8 rfl | exact sub1 9 rfl) (fun u18 D18 hv18 => ?_)
 obtain ⟨all, hall⟩ : ∃ all, all = (getV (belowV mergedV v) k28).getD zV := ⟨_, rfl⟩
 rw [← hall] at hv18
 obtain ⟨_, rfl, A18, m18, B18, d18, rfl, rfl⟩ := hv18
 refine oO 7 rfl (zR ze25 rfl (fun b5 => ?_))
 change RunOps _ _ _ _ _ _ _ _ (HA.blk _ [_, _, _, _, _] _ :: _) _
 refine zA (zF 0 (M' := [HA.blk _ [_, _, _, _, _] _, _, _, _]) rfl rfl rfl rfl si25 rfl rfl rfl ?_)
 refine oK 3 [6, 5, 4, 3, 0] rfl rfl (rR 8 rfl ?_)
 refine yF rfl (fun h22 => ?_) (fun h22 => ?_)
 ·refine rO 3 rfl (zQ 2 rfl ag25 rfl rfl ?_)
  refine zA (zF 1 (M' := [_, HA.blk _ [_, _, _, _, _] _, _, _]) rfl rfl rfl rfl si25 rfl rfl rfl ?_)
  refine zZ ?_
  have hno : getV (belowV mergedV v) k28 = none := by
   cases hg : getV (belowV mergedV v) k28 with
   | none => rfl
   | some y => rw [hg] at h22; cases h22
  have e : belowV mergedV v = mergedV v := by rw [tD v, merV, hno]
  refine wY (M' := [HA.blk b4 [_, _, _, _, _] 25, HA.blk bm [_] 90]) (by repeat (first | exact yC _ | refine zC 0 rfl ?_ | refine zC 1 rfl ?_ | refine zC 2 rfl ?_ | refine zC 3 rfl ?_ | refine zC 4 rfl ?_ | refine zC 5 rfl ?_ | refine zC 6 rfl ?_)) ?_
  refine yK (DM true) (fun w ok _ => qF w ok) ?_
  exact yZ 0 Tryz.results79 rfl rfl ag25 ⟨a15, belowV mergedV v, _, ⟨e, fun hf => ⟨(hfl15 hf).1, (wS _ _).2 ⟨fun y hy => (by rw [hno] at hy; cases hy), (hfl15 hf).2⟩⟩⟩, trivial, rfl, ⟨_, _, _, _, rfl, rfl⟩, rfl⟩ (by repeat (first | exact List.Sublist.refl _ | apply List.Sublist.cons)) (by intro d hd; simp only [List.mem_append, List.mem_cons, List.not_mem_nil, or_false, List.mem_singleton] at hd; rcases hd with rfl | rfl <;> simp [DM])
 obtain ⟨all0, hg⟩ := Option.isSome_iff_exists.1 (by simpa using h22 : (getV (belowV mergedV v) k28).isSome = true)
 obtain rfl : all = all0 := by rw [hall, hg]; rfl
 obtain ⟨hal, hks⟩ := all_ks hv hk hg
 refine rO 4 rfl (zQ 2 rfl ag25 rfl rfl ?_)
 refine zA ?_
 refine zT rfl rfl rfl (c87 (belowV mergedV v) k28 _ (below_kl hv.1.wf) (below_il hv.1.wf) (qA _ _)) (by first | exact sub1 0 rfl | exact sub1 1 rfl | exact sub1 2 rfl | exact sub1 3 rfl | exact sub1 4 rfl | exact sub1 5 rfl | exact sub1 6 rfl | exact sub1 7 rfl | exact sub1 8 rfl | exact sub1 9 rfl) (fun u25 D25 hv25 => ?_)
 obtain ⟨rest, hrest⟩ : ∃ rest, rest = withoutV (belowV mergedV v) k28 := ⟨_, rfl⟩
 rw [← hrest] at hv25
 obtain ⟨A25, m25, B25, d25, rfl, rfl⟩ := hv25
 refine zA (zR ze25 rfl (fun b7 => ?_))
 change RunOps _ _ _ _ _ _ _ _ (HA.blk _ [_, _, _, _, _] _ :: _) _
 refine zA (zF 0 (M' := [HA.blk _ [_, _, _, _, _] _, _, _, _, _]) rfl rfl rfl rfl si25 rfl rfl rfl ?_)
 refine oO 5 rfl (zB yO rfl rfl ?_)
 refine zA (zH 1 sc23 rfl rfl rfl rfl ?_)
 refine zA (zX sl23 rfl rfl ?_)
 refine oK 4 [29, 28, 27, 7, 4, 0] rfl rfl (yW 1 rfl (fun A5 c5 A6 c6 hx hsz5 hk5 hk6 hi5 hi6 => ?_))
 cases hx
 refine uS (D' := .val (.agg #[.int .i64 rest.kind, .int .i64 rest.num, .string rest.text, .slice A25 rest.keys.length m25, .slice B25 rest.items.length d25]) rest :: .strs (.slice A18 all.keys.length m18) all.keys :: .vals (.slice B18 all.items.length d18) all.items :: .val (.agg #[.int .i64 all.kind, .int .i64 all.num, .string all.text, .slice A18 all.keys.length m18, .slice B18 all.items.length d18]) all :: []) (by intro d hd; simp only [List.mem_cons, List.not_mem_nil, or_false] at hd ⊢; rcases hd with rfl | rfl | rfl | rfl <;> simp) (yH 1 (fun (⟨i, a1, out, Ew, ew, Fw, fw⟩ : Nat × Bool × V × Option Addr × Nat × Option Addr × Nat) => i ≤ all.items.length ∧ out = merL (all.items.take i) rest ∧ (a1 = false → a15 = false ∧ ClearM (all.items.take i) rest)) (fun (⟨i, a1, out, Ew, ew, Fw, fw⟩ : Nat × Bool × V × Option Addr × Nat × Option Addr × Nat) => [(29, .int .i64 ((i : Nat) : Int))]) (fun (⟨i, a1, out, Ew, ew, Fw, fw⟩ : Nat × Bool × V × Option Addr × Nat × Option Addr × Nat) => HA.blk b7 [.int .i64 out.kind, .int .i64 out.num, .string out.text, .slice Ew out.keys.length ew, .slice Fw out.items.length fw] 25 :: HA.blk b5 [.int .i64 all.kind, .int .i64 all.num, .string all.text, .slice A18 all.keys.length m18, .slice B18 all.items.length d18] 25 :: HA.blk b4 [.int .i64 0, .int .i64 0, .string ⟨#[]⟩, .slice none 0 0, .slice none 0 0] 25 :: HA.blk b3 [.int .i64 (belowV mergedV v).kind, .int .i64 (belowV mergedV v).num, .string (belowV mergedV v).text, .slice A15 (belowV mergedV v).keys.length m15, .slice B15 (belowV mergedV v).items.length d15] 25 :: HA.blk bm [.bool a1] 90 :: []) (fun (⟨i, a1, out, Ew, ew, Fw, fw⟩ : Nat × Bool × V × Option Addr × Nat × Option Addr × Nat) => .val (.agg #[.int .i64 out.kind, .int .i64 out.num, .string out.text, .slice Ew out.keys.length ew, .slice Fw out.items.length fw]) out :: .strs (.slice A18 all.keys.length m18) all.keys :: .vals (.slice B18 all.items.length d18) all.items :: .val (.agg #[.int .i64 all.kind, .int .i64 all.num, .string all.text, .slice A18 all.keys.length m18, .slice B18 all.items.length d18]) all :: []) (fun (⟨i, a1, out, Ew, ew, Fw, fw⟩ : Nat × Bool × V × Option Addr × Nat × Option Addr × Nat) => all.items.length - i) (0, a15, rest, A25, m25, B25, d25) (⟨Nat.zero_le _, rfl, fun h => ⟨h, trivial⟩⟩) (eC rfl (eN _)) rfl rfl ?_ (eC rfl (eC rfl (eC rfl (eC rfl (eC rfl (eN _)))))))
 intro ⟨i, a1, out, Ew, ew, Fw, fw⟩ hI K hK
 replace hI : i ≤ all.items.length ∧ out = merL (all.items.take i) rest ∧ (a1 = false → a15 = false ∧ ClearM (all.items.take i) rest) := hI
 change Run _ _ _ _ _ [(29, _), (28, _), (27, _), (7, _), (4, _), (0, _)] [_, _, _, _, _] [_, _, _, _]
 obtain ⟨hi, hout, hfl⟩ := hI
 have hko : KwS out := hout ▸ ks_merL (hrest ▸ ks_without (ks_below hv hk)) (fun o ho => hks o (List.mem_of_mem_take ho))
 refine rO 3 rfl (yM rfl rfl rfl ?_)
 refine oR 2 rfl (zO rfl (fun h30 => ?_) (fun h30 => ?_))
 ·refine rO 6 rfl (xV 2 sl23 rfl rfl rfl rfl (by omega) ?_)
  refine zA (xQ 2 ag25 rfl rfl rfl (List.getElem?_eq_getElem h30) (fun A3 c3 A4 c4 => ?_))
  have hkw0 : KwS all.items[i] := hks _ (List.getElem_mem h30)
  generalize hw : all.items[i] = w at hkw0 ⊢
  have hwl := hkw0.1.2
  have hwf := ks_few hkw0
  refine zA (zR ze25 rfl (fun b9 => ?_))
  change RunOps _ _ _ _ _ _ _ _ (HA.blk _ [_, _, _, _, _] _ :: _) _
  refine zA (zF 0 (M' := [HA.blk _ [_, _, _, _, _] _, _, _, _, _, _]) rfl rfl rfl rfl si25 rfl rfl rfl ?_)
  refine oO 4 rfl (zB xB rfl rfl ?_)
  refine zA (zH 0 sc22 rfl rfl rfl rfl ?_)
  refine zA (zX sl22 rfl rfl ?_)
  refine oK 4 [36, 35, 34, 9, 29, 28, 27, 7, 4, 0] rfl rfl (yW 0 rfl (fun A7 c7 A8 c8 hx hsz7 hk7 hk8 hi7 hi8 => ?_))
  cases hx
  refine uS (D' := .val (.agg #[.int .i64 out.kind, .int .i64 out.num, .string out.text, .slice Ew out.keys.length ew, .slice Fw out.items.length fw]) out :: .strs (.slice A3 w.keys.length c3) w.keys :: .vals (.slice A4 w.items.length c4) w.items :: .val (.agg #[.int .i64 w.kind, .int .i64 w.num, .string w.text, .slice A3 w.keys.length c3, .slice A4 w.items.length c4]) w :: .strs (.slice A18 all.keys.length m18) all.keys :: .vals (.slice B18 all.items.length d18) all.items :: .val (.agg #[.int .i64 all.kind, .int .i64 all.num, .string all.text, .slice A18 all.keys.length m18, .slice B18 all.items.length d18]) all :: []) (by intro d hd; simp only [List.mem_cons, List.not_mem_nil, or_false] at hd ⊢; rcases hd with rfl | rfl | rfl | rfl | rfl | rfl | rfl <;> simp) (yH 1 (fun (⟨j, a2, out2, Gw, gw, Hw, hw2⟩ : Nat × Bool × V × Option Addr × Nat × Option Addr × Nat) => j ≤ w.keys.length ∧ out2 = setL ((w.keys.zip w.items).take j) out ∧ (a2 = false → a1 = false ∧ Clear1 ((w.keys.zip w.items).take j) out)) (fun (⟨j, a2, out2, Gw, gw, Hw, hw2⟩ : Nat × Bool × V × Option Addr × Nat × Option Addr × Nat) => [(36, .int .i64 ((j : Nat) : Int))]) (fun (⟨j, a2, out2, Gw, gw, Hw, hw2⟩ : Nat × Bool × V × Option Addr × Nat × Option Addr × Nat) => HA.blk b9 [.int .i64 w.kind, .int .i64 w.num, .string w.text, .slice A3 w.keys.length c3, .slice A4 w.items.length c4] 25 :: HA.blk b7 [.int .i64 out2.kind, .int .i64 out2.num, .string out2.text, .slice Gw out2.keys.length gw, .slice Hw out2.items.length hw2] 25 :: HA.blk b5 [.int .i64 all.kind, .int .i64 all.num, .string all.text, .slice A18 all.keys.length m18, .slice B18 all.items.length d18] 25 :: HA.blk b4 [.int .i64 0, .int .i64 0, .string ⟨#[]⟩, .slice none 0 0, .slice none 0 0] 25 :: HA.blk b3 [.int .i64 (belowV mergedV v).kind, .int .i64 (belowV mergedV v).num, .string (belowV mergedV v).text, .slice A15 (belowV mergedV v).keys.length m15, .slice B15 (belowV mergedV v).items.length d15] 25 :: HA.blk bm [.bool a2] 90 :: []) (fun (⟨j, a2, out2, Gw, gw, Hw, hw2⟩ : Nat × Bool × V × Option Addr × Nat × Option Addr × Nat) => .val (.agg #[.int .i64 out2.kind, .int .i64 out2.num, .string out2.text, .slice Gw out2.keys.length gw, .slice Hw out2.items.length hw2]) out2 :: .strs (.slice A3 w.keys.length c3) w.keys :: .vals (.slice A4 w.items.length c4) w.items :: .val (.agg #[.int .i64 w.kind, .int .i64 w.num, .string w.text, .slice A3 w.keys.length c3, .slice A4 w.items.length c4]) w :: .strs (.slice A18 all.keys.length m18) all.keys :: .vals (.slice B18 all.items.length d18) all.items :: .val (.agg #[.int .i64 all.kind, .int .i64 all.num, .string all.text, .slice A18 all.keys.length m18, .slice B18 all.items.length d18]) all :: []) (fun (⟨j, a2, out2, Gw, gw, Hw, hw2⟩ : Nat × Bool × V × Option Addr × Nat × Option Addr × Nat) => w.keys.length - j) (0, a1, out, Ew, ew, Fw, fw) (⟨Nat.zero_le _, rfl, fun h => ⟨h, trivial⟩⟩) (eC rfl (eN _)) rfl rfl ?_ (eC rfl (eC rfl (eC rfl (eC rfl (eC rfl (eC rfl (eC rfl (eC rfl (eC rfl (eN _)))))))))))
  intro ⟨j, a2, out2, Gw, gw, Hw, hw2⟩ hI K hK1
  replace hI : j ≤ w.keys.length ∧ out2 = setL ((w.keys.zip w.items).take j) out ∧ (a2 = false → a1 = false ∧ Clear1 ((w.keys.zip w.items).take j) out) := hI
  change Run _ _ _ _ _ [(36, _), (35, _), (34, _), (9, _), (29, _), (28, _), (27, _), (7, _), (4, _), (0, _)] [_, _, _, _, _, _] [_, _, _, _, _, _, _]
  obtain ⟨hj, hout2, hfl2⟩ := hI
  have hko2 : KwS out2 := hout2 ▸ ks_setL hko (fun p hp => kw1_zip hkw0.2 p (List.mem_of_mem_take hp))
  refine rO 3 rfl (yM rfl rfl rfl ?_)
  refine oR 2 rfl (zO rfl (fun h37 => ?_) (fun h37 => ?_))
  ·refine rO 8 rfl (wM 1 sl22 rfl rfl rfl rfl h37 ?_)
   refine zA (yJ sc9 rfl rfl (fun _ h => wE h (j := 1) rfl (List.getElem?_eq_getElem h37)) ?_)
   refine oK 5 [11, 10, 36, 35, 34, 9, 29, 28, 27, 7, 4, 0] rfl rfl (rO 4 rfl ?_)
   refine zQ 1 rfl ag25 rfl rfl (oO 3 rfl ?_)
   refine zN rfl rfl rfl (c63 _ out2 _) (by first | exact sub1 0 rfl | exact sub1 1 rfl | exact sub1 2 rfl | exact sub1 3 rfl | exact sub1 4 rfl | exact sub1 5 rfl | exact sub1 6 rfl | exact sub1 7 rfl | exact sub1 8 rfl | exact sub1 9 rfl) (zA ?_)
   refine qD rfl rfl rfl (oS 2 rfl ?_)
   refine yG (s := 45) rfl (fun h45 => ?_) (fun h45 => ?_)
   ·refine oK 17 [56, 11, 10, 36, 35, 34, 9, 29, 28, 27, 7, 4, 0] rfl rfl (rO 7 rfl ?_)
    refine zB fo90_0 rfl rfl (zA ?_)
    refine zF 5 (M' := [_, _, _, _, _, HA.blk _ [_] _]) rfl rfl rfl rfl si4 rfl rfl rfl (oK 1 [11, 10, 36, 35, 34, 9, 29, 28, 27, 7, 4, 0] rfl rfl ?_)
    refine yT yE (zS ?_)
    refine tP 1 rfl wanted0 (zW rfl) (tP 2 rfl wanted0 (zU yO rfl) ?_)
    refine tP 4 rfl wanted0 (zW rfl) (yA ?_)
    refine tM 0 rfl wanted0 (wZ 1 rfl ag25 rfl) (tM 3 rfl wanted0 (yP 0 sc23 rfl rfl rfl) ?_)
    refine tM 5 rfl wanted0 (wT 2 sl23 rfl rfl rfl (by omega)) ?_
    have hlt : j < w.items.length := by omega
    refine vZ 2 rfl (List.getElem?_eq_getElem hlt) (fun vs66 hl66 => ?_)
    refine yA (tM 6 rfl wanted0 (uA 0 hl66 ag25 rfl rfl) ?_)
    refine zI 7 (by decide +kernel) ?_
    refine zL (I2 := [[], [], [], []]) rfl wanted0 (by decide +kernel) (fun Kd hKd => ?_)
    refine zT rfl rfl rfl (c64 out2 (w.items[j]'hlt) (w.keys[j]'h37) _ _ (by have := ks_few hko2; omega) (rH hko2.1) (kwS_size (hkw0.2 _ (List.getElem_mem h37)))) (by first | exact sub2 0 1 rfl rfl | exact sub2 0 2 rfl rfl | exact sub2 0 3 rfl rfl | exact sub2 0 4 rfl rfl | exact sub2 0 5 rfl rfl | exact sub2 0 6 rfl rfl | exact sub2 0 7 rfl rfl | exact sub2 1 0 rfl rfl | exact sub2 1 2 rfl rfl | exact sub2 1 3 rfl rfl | exact sub2 1 4 rfl rfl | exact sub2 1 5 rfl rfl | exact sub2 1 6 rfl rfl | exact sub2 1 7 rfl rfl | exact sub2 2 0 rfl rfl | exact sub2 2 1 rfl rfl | exact sub2 2 3 rfl rfl | exact sub2 2 4 rfl rfl | exact sub2 2 5 rfl rfl | exact sub2 2 6 rfl rfl | exact sub2 2 7 rfl rfl | exact sub2 3 0 rfl rfl | exact sub2 3 1 rfl rfl | exact sub2 3 2 rfl rfl | exact sub2 3 4 rfl rfl | exact sub2 3 5 rfl rfl | exact sub2 3 6 rfl rfl | exact sub2 3 7 rfl rfl | exact sub2 4 0 rfl rfl | exact sub2 4 1 rfl rfl | exact sub2 4 2 rfl rfl | exact sub2 4 3 rfl rfl | exact sub2 4 5 rfl rfl | exact sub2 4 6 rfl rfl | exact sub2 4 7 rfl rfl | exact sub2 5 0 rfl rfl | exact sub2 5 1 rfl rfl | exact sub2 5 2 rfl rfl | exact sub2 5 3 rfl rfl | exact sub2 5 4 rfl rfl | exact sub2 5 6 rfl rfl | exact sub2 5 7 rfl rfl | exact sub2 6 0 rfl rfl | exact sub2 6 1 rfl rfl | exact sub2 6 2 rfl rfl | exact sub2 6 3 rfl rfl | exact sub2 6 4 rfl rfl | exact sub2 6 5 rfl rfl | exact sub2 6 7 rfl rfl | exact sub2 7 0 rfl rfl | exact sub2 7 1 rfl rfl | exact sub2 7 2 rfl rfl | exact sub2 7 3 rfl rfl | exact sub2 7 4 rfl rfl | exact sub2 7 5 rfl rfl | exact sub2 7 6 rfl rfl) (fun u67 D67 hv67 => ?_)
    obtain ⟨A67, m67, B67, d67, rfl, rfl⟩ := hv67
    refine hKd _ _ _ (zD (zD (zD (zD (zM))))) (zI 8 (by decide +kernel) ?_)
    refine zL (I2 := [[], [], [], []]) rfl wanted0 (by decide +kernel) (fun Kd hKd => ?_)
    refine zF 1 (M' := [_, HA.blk _ [_, _, _, _, _] _, _, _, _, _]) rfl rfl rfl rfl si25 rfl rfl rfl (hKd _ _ _ (zD (zD (zD (zD (zM))))) ?_)
    refine yD (by decide +kernel) (rK 0 [36, 35, 34, 9, 29, 28, 27, 7, 4, 0] rfl rfl ?_)
    refine rO 3 rfl (yB rfl rfl (by omega) ?_)
    refine oR 3 rfl ?_
    exact kQ (hK1 (j + 1, true, withV out2 w.keys[j] w.items[j], _, _, _, _) (⟨h37, (by rw [hout2]; exact qM (zipj h37 hlt)), fun hf => by cases hf⟩) (by show w.keys.length - (j + 1) < w.keys.length - j; omega)) (eC rfl (eC rfl (eC rfl (eC rfl (eC rfl (eC rfl (eC rfl (eC rfl (eC rfl (eC rfl (eN _))))))))))) (hD := (subc 0 rfl sQ))
   refine oS 8 rfl (yG (s := 49) rfl (fun h49 => ?_) (fun h49 => ?_))
   ·refine oK 11 [56, 11, 10, 36, 35, 34, 9, 29, 28, 27, 7, 4, 0] rfl rfl (rO 7 rfl ?_)
    refine zB fo90_0 rfl rfl (zA ?_)
    refine zF 5 (M' := [_, _, _, _, _, HA.blk _ [_] _]) rfl rfl rfl rfl si4 rfl rfl rfl (oK 1 [11, 10, 36, 35, 34, 9, 29, 28, 27, 7, 4, 0] rfl rfl ?_)
    refine yT yE (zS ?_)
    refine tP 1 rfl wanted0 (zW rfl) (tP 2 rfl wanted0 (zU yO rfl) ?_)
    refine tP 4 rfl wanted0 (zW rfl) (yA ?_)
    refine tM 0 rfl wanted0 (wZ 1 rfl ag25 rfl) (tM 3 rfl wanted0 (yP 0 sc23 rfl rfl rfl) ?_)
    refine tM 5 rfl wanted0 (wT 2 sl23 rfl rfl rfl (by omega)) ?_
    have hlt : j < w.items.length := by omega
    refine vZ 2 rfl (List.getElem?_eq_getElem hlt) (fun vs66 hl66 => ?_)
    refine yA (tM 6 rfl wanted0 (uA 0 hl66 ag25 rfl rfl) ?_)
    refine zI 7 (by decide +kernel) ?_
    refine zL (I2 := [[], [], [], []]) rfl wanted0 (by decide +kernel) (fun Kd hKd => ?_)
    refine zT rfl rfl rfl (c64 out2 (w.items[j]'hlt) (w.keys[j]'h37) _ _ (by have := ks_few hko2; omega) (rH hko2.1) (kwS_size (hkw0.2 _ (List.getElem_mem h37)))) (by first | exact sub2 0 1 rfl rfl | exact sub2 0 2 rfl rfl | exact sub2 0 3 rfl rfl | exact sub2 0 4 rfl rfl | exact sub2 0 5 rfl rfl | exact sub2 0 6 rfl rfl | exact sub2 0 7 rfl rfl | exact sub2 1 0 rfl rfl | exact sub2 1 2 rfl rfl | exact sub2 1 3 rfl rfl | exact sub2 1 4 rfl rfl | exact sub2 1 5 rfl rfl | exact sub2 1 6 rfl rfl | exact sub2 1 7 rfl rfl | exact sub2 2 0 rfl rfl | exact sub2 2 1 rfl rfl | exact sub2 2 3 rfl rfl | exact sub2 2 4 rfl rfl | exact sub2 2 5 rfl rfl | exact sub2 2 6 rfl rfl | exact sub2 2 7 rfl rfl | exact sub2 3 0 rfl rfl | exact sub2 3 1 rfl rfl | exact sub2 3 2 rfl rfl | exact sub2 3 4 rfl rfl | exact sub2 3 5 rfl rfl | exact sub2 3 6 rfl rfl | exact sub2 3 7 rfl rfl | exact sub2 4 0 rfl rfl | exact sub2 4 1 rfl rfl | exact sub2 4 2 rfl rfl | exact sub2 4 3 rfl rfl | exact sub2 4 5 rfl rfl | exact sub2 4 6 rfl rfl | exact sub2 4 7 rfl rfl | exact sub2 5 0 rfl rfl | exact sub2 5 1 rfl rfl | exact sub2 5 2 rfl rfl | exact sub2 5 3 rfl rfl | exact sub2 5 4 rfl rfl | exact sub2 5 6 rfl rfl | exact sub2 5 7 rfl rfl | exact sub2 6 0 rfl rfl | exact sub2 6 1 rfl rfl | exact sub2 6 2 rfl rfl | exact sub2 6 3 rfl rfl | exact sub2 6 4 rfl rfl | exact sub2 6 5 rfl rfl | exact sub2 6 7 rfl rfl | exact sub2 7 0 rfl rfl | exact sub2 7 1 rfl rfl | exact sub2 7 2 rfl rfl | exact sub2 7 3 rfl rfl | exact sub2 7 4 rfl rfl | exact sub2 7 5 rfl rfl | exact sub2 7 6 rfl rfl) (fun u67 D67 hv67 => ?_)
    obtain ⟨A67, m67, B67, d67, rfl, rfl⟩ := hv67
    refine hKd _ _ _ (zD (zD (zD (zD (zM))))) (zI 8 (by decide +kernel) ?_)
    refine zL (I2 := [[], [], [], []]) rfl wanted0 (by decide +kernel) (fun Kd hKd => ?_)
    refine zF 1 (M' := [_, HA.blk _ [_, _, _, _, _] _, _, _, _, _]) rfl rfl rfl rfl si25 rfl rfl rfl (hKd _ _ _ (zD (zD (zD (zD (zM))))) ?_)
    refine yD (by decide +kernel) (rK 0 [36, 35, 34, 9, 29, 28, 27, 7, 4, 0] rfl rfl ?_)
    refine rO 3 rfl (yB rfl rfl (by omega) ?_)
    refine oR 3 rfl ?_
    exact kQ (hK1 (j + 1, true, withV out2 w.keys[j] w.items[j], _, _, _, _) (⟨h37, (by rw [hout2]; exact qM (zipj h37 hlt)), fun hf => by cases hf⟩) (by show w.keys.length - (j + 1) < w.keys.length - j; omega)) (eC rfl (eC rfl (eC rfl (eC rfl (eC rfl (eC rfl (eC rfl (eC rfl (eC rfl (eC rfl (eN _))))))))))) (hD := (subc 0 rfl sQ))
   refine oS 8 rfl (yG (s := 53) rfl (fun h53 => ?_) (fun h53 => ?_))
   ·refine oK 5 [56, 11, 10, 36, 35, 34, 9, 29, 28, 27, 7, 4, 0] rfl rfl (rO 7 rfl ?_)
    refine zB fo90_0 rfl rfl (zA ?_)
    refine zF 5 (M' := [_, _, _, _, _, HA.blk _ [_] _]) rfl rfl rfl rfl si4 rfl rfl rfl (oK 1 [11, 10, 36, 35, 34, 9, 29, 28, 27, 7, 4, 0] rfl rfl ?_)
    refine yT yE (zS ?_)
    refine tP 1 rfl wanted0 (zW rfl) (tP 2 rfl wanted0 (zU yO rfl) ?_)
    refine tP 4 rfl wanted0 (zW rfl) (yA ?_)
    refine tM 0 rfl wanted0 (wZ 1 rfl ag25 rfl) (tM 3 rfl wanted0 (yP 0 sc23 rfl rfl rfl) ?_)
    refine tM 5 rfl wanted0 (wT 2 sl23 rfl rfl rfl (by omega)) ?_
    have hlt : j < w.items.length := by omega
    refine vZ 2 rfl (List.getElem?_eq_getElem hlt) (fun vs66 hl66 => ?_)
    refine yA (tM 6 rfl wanted0 (uA 0 hl66 ag25 rfl rfl) ?_)
    refine zI 7 (by decide +kernel) ?_
    refine zL (I2 := [[], [], [], []]) rfl wanted0 (by decide +kernel) (fun Kd hKd => ?_)
    refine zT rfl rfl rfl (c64 out2 (w.items[j]'hlt) (w.keys[j]'h37) _ _ (by have := ks_few hko2; omega) (rH hko2.1) (kwS_size (hkw0.2 _ (List.getElem_mem h37)))) (by first | exact sub2 0 1 rfl rfl | exact sub2 0 2 rfl rfl | exact sub2 0 3 rfl rfl | exact sub2 0 4 rfl rfl | exact sub2 0 5 rfl rfl | exact sub2 0 6 rfl rfl | exact sub2 0 7 rfl rfl | exact sub2 1 0 rfl rfl | exact sub2 1 2 rfl rfl | exact sub2 1 3 rfl rfl | exact sub2 1 4 rfl rfl | exact sub2 1 5 rfl rfl | exact sub2 1 6 rfl rfl | exact sub2 1 7 rfl rfl | exact sub2 2 0 rfl rfl | exact sub2 2 1 rfl rfl | exact sub2 2 3 rfl rfl | exact sub2 2 4 rfl rfl | exact sub2 2 5 rfl rfl | exact sub2 2 6 rfl rfl | exact sub2 2 7 rfl rfl | exact sub2 3 0 rfl rfl | exact sub2 3 1 rfl rfl | exact sub2 3 2 rfl rfl | exact sub2 3 4 rfl rfl | exact sub2 3 5 rfl rfl | exact sub2 3 6 rfl rfl | exact sub2 3 7 rfl rfl | exact sub2 4 0 rfl rfl | exact sub2 4 1 rfl rfl | exact sub2 4 2 rfl rfl | exact sub2 4 3 rfl rfl | exact sub2 4 5 rfl rfl | exact sub2 4 6 rfl rfl | exact sub2 4 7 rfl rfl | exact sub2 5 0 rfl rfl | exact sub2 5 1 rfl rfl | exact sub2 5 2 rfl rfl | exact sub2 5 3 rfl rfl | exact sub2 5 4 rfl rfl | exact sub2 5 6 rfl rfl | exact sub2 5 7 rfl rfl | exact sub2 6 0 rfl rfl | exact sub2 6 1 rfl rfl | exact sub2 6 2 rfl rfl | exact sub2 6 3 rfl rfl | exact sub2 6 4 rfl rfl | exact sub2 6 5 rfl rfl | exact sub2 6 7 rfl rfl | exact sub2 7 0 rfl rfl | exact sub2 7 1 rfl rfl | exact sub2 7 2 rfl rfl | exact sub2 7 3 rfl rfl | exact sub2 7 4 rfl rfl | exact sub2 7 5 rfl rfl | exact sub2 7 6 rfl rfl) (fun u67 D67 hv67 => ?_)
    obtain ⟨A67, m67, B67, d67, rfl, rfl⟩ := hv67
    refine hKd _ _ _ (zD (zD (zD (zD (zM))))) (zI 8 (by decide +kernel) ?_)
    refine zL (I2 := [[], [], [], []]) rfl wanted0 (by decide +kernel) (fun Kd hKd => ?_)
    refine zF 1 (M' := [_, HA.blk _ [_, _, _, _, _] _, _, _, _, _]) rfl rfl rfl rfl si25 rfl rfl rfl (hKd _ _ _ (zD (zD (zD (zD (zM))))) ?_)
    refine yD (by decide +kernel) (rK 0 [36, 35, 34, 9, 29, 28, 27, 7, 4, 0] rfl rfl ?_)
    refine rO 3 rfl (yB rfl rfl (by omega) ?_)
    refine oR 3 rfl ?_
    exact kQ (hK1 (j + 1, true, withV out2 w.keys[j] w.items[j], _, _, _, _) (⟨h37, (by rw [hout2]; exact qM (zipj h37 hlt)), fun hf => by cases hf⟩) (by show w.keys.length - (j + 1) < w.keys.length - j; omega)) (eC rfl (eC rfl (eC rfl (eC rfl (eC rfl (eC rfl (eC rfl (eC rfl (eC rfl (eC rfl (eN _))))))))))) (hD := (subc 0 rfl sQ))
   refine oK 7 [56, 11, 10, 36, 35, 34, 9, 29, 28, 27, 7, 4, 0] rfl rfl (zO rfl (fun h56 => ?_) (fun h56 => ?_))
   ·refine rO 6 rfl (zB fo90_0 rfl rfl ?_)
    refine zA (zF 5 (M' := [_, _, _, _, _, HA.blk _ [_] _]) rfl rfl rfl rfl si4 rfl rfl rfl ?_)
    refine oK 1 [11, 10, 36, 35, 34, 9, 29, 28, 27, 7, 4, 0] rfl rfl (yT yE ?_)
    refine zS (tP 1 rfl wanted0 (zW rfl) ?_)
    refine tP 2 rfl wanted0 (zU yO rfl) (tP 4 rfl wanted0 (zW rfl) ?_)
    refine yA (tM 0 rfl wanted0 (wZ 1 rfl ag25 rfl) ?_)
    refine tM 3 rfl wanted0 (yP 0 sc23 rfl rfl rfl) (tM 5 rfl wanted0 (wT 2 sl23 rfl rfl rfl (by omega)) ?_)
    have hlt : j < w.items.length := by omega
    refine vZ 2 rfl (List.getElem?_eq_getElem hlt) (fun vs66 hl66 => ?_)
    refine yA (tM 6 rfl wanted0 (uA 0 hl66 ag25 rfl rfl) ?_)
    refine zI 7 (by decide +kernel) ?_
    refine zL (I2 := [[], [], [], []]) rfl wanted0 (by decide +kernel) (fun Kd hKd => ?_)
    refine zT rfl rfl rfl (c64 out2 (w.items[j]'hlt) (w.keys[j]'h37) _ _ (by have := ks_few hko2; omega) (rH hko2.1) (kwS_size (hkw0.2 _ (List.getElem_mem h37)))) (by first | exact sub2 0 1 rfl rfl | exact sub2 0 2 rfl rfl | exact sub2 0 3 rfl rfl | exact sub2 0 4 rfl rfl | exact sub2 0 5 rfl rfl | exact sub2 0 6 rfl rfl | exact sub2 0 7 rfl rfl | exact sub2 1 0 rfl rfl | exact sub2 1 2 rfl rfl | exact sub2 1 3 rfl rfl | exact sub2 1 4 rfl rfl | exact sub2 1 5 rfl rfl | exact sub2 1 6 rfl rfl | exact sub2 1 7 rfl rfl | exact sub2 2 0 rfl rfl | exact sub2 2 1 rfl rfl | exact sub2 2 3 rfl rfl | exact sub2 2 4 rfl rfl | exact sub2 2 5 rfl rfl | exact sub2 2 6 rfl rfl | exact sub2 2 7 rfl rfl | exact sub2 3 0 rfl rfl | exact sub2 3 1 rfl rfl | exact sub2 3 2 rfl rfl | exact sub2 3 4 rfl rfl | exact sub2 3 5 rfl rfl | exact sub2 3 6 rfl rfl | exact sub2 3 7 rfl rfl | exact sub2 4 0 rfl rfl | exact sub2 4 1 rfl rfl | exact sub2 4 2 rfl rfl | exact sub2 4 3 rfl rfl | exact sub2 4 5 rfl rfl | exact sub2 4 6 rfl rfl | exact sub2 4 7 rfl rfl | exact sub2 5 0 rfl rfl | exact sub2 5 1 rfl rfl | exact sub2 5 2 rfl rfl | exact sub2 5 3 rfl rfl | exact sub2 5 4 rfl rfl | exact sub2 5 6 rfl rfl | exact sub2 5 7 rfl rfl | exact sub2 6 0 rfl rfl | exact sub2 6 1 rfl rfl | exact sub2 6 2 rfl rfl | exact sub2 6 3 rfl rfl | exact sub2 6 4 rfl rfl | exact sub2 6 5 rfl rfl | exact sub2 6 7 rfl rfl | exact sub2 7 0 rfl rfl | exact sub2 7 1 rfl rfl | exact sub2 7 2 rfl rfl | exact sub2 7 3 rfl rfl | exact sub2 7 4 rfl rfl | exact sub2 7 5 rfl rfl | exact sub2 7 6 rfl rfl) (fun u67 D67 hv67 => ?_)
    obtain ⟨A67, m67, B67, d67, rfl, rfl⟩ := hv67
    refine hKd _ _ _ (zD (zD (zD (zD (zM))))) (zI 8 (by decide +kernel) ?_)
    refine zL (I2 := [[], [], [], []]) rfl wanted0 (by decide +kernel) (fun Kd hKd => ?_)
    refine zF 1 (M' := [_, HA.blk _ [_, _, _, _, _] _, _, _, _, _]) rfl rfl rfl rfl si25 rfl rfl rfl (hKd _ _ _ (zD (zD (zD (zD (zM))))) ?_)
    refine yD (by decide +kernel) (rK 0 [36, 35, 34, 9, 29, 28, 27, 7, 4, 0] rfl rfl ?_)
    refine rO 3 rfl (yB rfl rfl (by omega) ?_)
    refine oR 3 rfl ?_
    exact kQ (hK1 (j + 1, true, withV out2 w.keys[j] w.items[j], _, _, _, _) (⟨h37, (by rw [hout2]; exact qM (zipj h37 hlt)), fun hf => by cases hf⟩) (by show w.keys.length - (j + 1) < w.keys.length - j; omega)) (eC rfl (eC rfl (eC rfl (eC rfl (eC rfl (eC rfl (eC rfl (eC rfl (eC rfl (eC rfl (eN _))))))))))) (hD := (subc 0 rfl sQ))
   refine xU (yT yE ?_)
   refine zS (tP 1 rfl wanted0 (zW rfl) ?_)
   refine tP 2 rfl wanted0 (zU yO rfl) (tP 4 rfl wanted0 (zW rfl) ?_)
   refine yA (tM 0 rfl wanted0 (wZ 1 rfl ag25 rfl) ?_)
   refine tM 3 rfl wanted0 (yP 0 sc23 rfl rfl rfl) (tM 5 rfl wanted0 (wT 2 sl23 rfl rfl rfl (by omega)) ?_)
   have hlt : j < w.items.length := by omega
   refine vZ 2 rfl (List.getElem?_eq_getElem hlt) (fun vs66 hl66 => ?_)
   refine yA (tM 6 rfl wanted0 (uA 0 hl66 ag25 rfl rfl) ?_)
   refine zI 7 (by decide +kernel) ?_
   refine zL (I2 := [[], [], [], []]) rfl wanted0 (by decide +kernel) (fun Kd hKd => ?_)
   refine zT rfl rfl rfl (c64 out2 (w.items[j]'hlt) (w.keys[j]'h37) _ _ (by have := ks_few hko2; omega) (rH hko2.1) (kwS_size (hkw0.2 _ (List.getElem_mem h37)))) (by first | exact sub2 0 1 rfl rfl | exact sub2 0 2 rfl rfl | exact sub2 0 3 rfl rfl | exact sub2 0 4 rfl rfl | exact sub2 0 5 rfl rfl | exact sub2 0 6 rfl rfl | exact sub2 0 7 rfl rfl | exact sub2 1 0 rfl rfl | exact sub2 1 2 rfl rfl | exact sub2 1 3 rfl rfl | exact sub2 1 4 rfl rfl | exact sub2 1 5 rfl rfl | exact sub2 1 6 rfl rfl | exact sub2 1 7 rfl rfl | exact sub2 2 0 rfl rfl | exact sub2 2 1 rfl rfl | exact sub2 2 3 rfl rfl | exact sub2 2 4 rfl rfl | exact sub2 2 5 rfl rfl | exact sub2 2 6 rfl rfl | exact sub2 2 7 rfl rfl | exact sub2 3 0 rfl rfl | exact sub2 3 1 rfl rfl | exact sub2 3 2 rfl rfl | exact sub2 3 4 rfl rfl | exact sub2 3 5 rfl rfl | exact sub2 3 6 rfl rfl | exact sub2 3 7 rfl rfl | exact sub2 4 0 rfl rfl | exact sub2 4 1 rfl rfl | exact sub2 4 2 rfl rfl | exact sub2 4 3 rfl rfl | exact sub2 4 5 rfl rfl | exact sub2 4 6 rfl rfl | exact sub2 4 7 rfl rfl | exact sub2 5 0 rfl rfl | exact sub2 5 1 rfl rfl | exact sub2 5 2 rfl rfl | exact sub2 5 3 rfl rfl | exact sub2 5 4 rfl rfl | exact sub2 5 6 rfl rfl | exact sub2 5 7 rfl rfl | exact sub2 6 0 rfl rfl | exact sub2 6 1 rfl rfl | exact sub2 6 2 rfl rfl | exact sub2 6 3 rfl rfl | exact sub2 6 4 rfl rfl | exact sub2 6 5 rfl rfl | exact sub2 6 7 rfl rfl | exact sub2 7 0 rfl rfl | exact sub2 7 1 rfl rfl | exact sub2 7 2 rfl rfl | exact sub2 7 3 rfl rfl | exact sub2 7 4 rfl rfl | exact sub2 7 5 rfl rfl | exact sub2 7 6 rfl rfl) (fun u67 D67 hv67 => ?_)
   obtain ⟨A67, m67, B67, d67, rfl, rfl⟩ := hv67
   refine hKd _ _ _ (zD (zD (zD (zD (zM))))) (zI 8 (by decide +kernel) ?_)
   refine zL (I2 := [[], [], [], []]) rfl wanted0 (by decide +kernel) (fun Kd hKd => ?_)
   refine zF 1 (M' := [_, HA.blk _ [_, _, _, _, _] _, _, _, _, _]) rfl rfl rfl rfl si25 rfl rfl rfl (hKd _ _ _ (zD (zD (zD (zD (zM))))) ?_)
   refine yD (by decide +kernel) (rK 0 [36, 35, 34, 9, 29, 28, 27, 7, 4, 0] rfl rfl ?_)
   refine rO 3 rfl (yB rfl rfl (by omega) ?_)
   refine oR 3 rfl ?_
   exact kQ (hK1 (j + 1, a2, withV out2 w.keys[j] w.items[j], _, _, _, _) (⟨h37, (by rw [hout2]; exact qM (zipj h37 hlt)), fun hf => ⟨(hfl2 hf).1, (by rw [List.take_add_one, zipj h37 hlt]; exact clear1_snoc.2 ⟨(hfl2 hf).2, (by rw [← hout2]; simp_all)⟩)⟩⟩) (by show w.keys.length - (j + 1) < w.keys.length - j; omega)) (eC rfl (eC rfl (eC rfl (eC rfl (eC rfl (eC rfl (eC rfl (eC rfl (eC rfl (eC rfl (eN _))))))))))) (hD := (subc 0 rfl sQ))
  obtain rfl : j = w.keys.length := by omega
  rw [List.take_of_length_le (by rw [List.length_zip]; omega)] at hout2 hfl2
  have htk : all.items.take (i + 1) = all.items.take i ++ [w] := by rw [List.take_add_one, List.getElem?_eq_getElem h30, hw]; rfl
  refine rO 4 rfl (yB rfl rfl (by omega) ?_)
  refine oR 3 rfl ?_
  exact kQ (hK (i + 1, a2, out2, _, _, _, _) (⟨h30, (by rw [htk, hout2, hout]; simp [merL, mergeV]), fun hf => ⟨(hfl (hfl2 hf).1).1, (by rw [htk]; exact clearM_snoc.2 ⟨(hfl (hfl2 hf).1).2, (by rw [← hout]; exact (hfl2 hf).2)⟩)⟩⟩) (by show all.items.length - (i + 1) < all.items.length - i; omega)) (eC rfl (eC rfl (eC rfl (eC rfl (eC rfl (eC rfl (eN _))))))) (hD := (subc 0 rfl sQ))
 refine rO 4 rfl (zQ 0 rfl ag25 rfl rfl ?_)
 refine zA (zF 2 (M' := [_, _, HA.blk _ [_, _, _, _, _] _, _, _]) rfl rfl rfl rfl si25 rfl rfl rfl ?_)
 refine zZ ?_
 obtain rfl : i = all.items.length := by omega
 rw [List.take_length] at hout hfl
 have e : out = mergedV v := by rw [hout, hrest, tD v, merV, hg]
 refine wY (M' := [HA.blk b4 [_, _, _, _, _] 25, HA.blk bm [_] 90]) (by repeat (first | exact yC _ | refine zC 0 rfl ?_ | refine zC 1 rfl ?_ | refine zC 2 rfl ?_ | refine zC 3 rfl ?_ | refine zC 4 rfl ?_ | refine zC 5 rfl ?_ | refine zC 6 rfl ?_)) ?_
 refine yK (DM true) (fun w ok _ => qF w ok) ?_
 exact yZ 0 Tryz.results79 rfl rfl ag25 ⟨a1, out, _, ⟨e, fun hf => ⟨(hfl15 (hfl hf).1).1, (wS _ _).2 ⟨fun y hy => (by rw [hg] at hy; injection hy with hy; rw [← hy, ← hrest]; exact (hfl hf).2), (hfl15 (hfl hf).1).2⟩⟩⟩, trivial, rfl, ⟨_, _, _, _, rfl, rfl⟩, rfl⟩ (by repeat (first | exact List.Sublist.refl _ | apply List.Sublist.cons)) (by intro d hd; simp only [List.mem_append, List.mem_cons, List.not_mem_nil, or_false, List.mem_singleton] at hd; rcases hd with rfl | rfl <;> simp [DM])
theorem c43 (v : V) (x : Value) : CtR Tryz.prog 43 #[x] [.val x v] (fun u D' => ∃ y z b, u = .tuple #[y, .bool b] ∧ RV z y D' ∧ (b = true → IsSchemaV v ∧ z = mergedV (normalV v) ∧ DeepV Mok (normalV v) ∧ IsDataV z)) := by
 refine Ct.of_run (args := [x]) Tryz.func43 (by kernel_rfl) rfl Tryz.ntmps43 rfl (fun c => ?_)
 refine yW 0 rfl (fun A1 c1 A2 c2 hx hsz1 hk1 hk2 hi1 hi2 => ?_)
 subst hx
 refine rO 3 rfl (yN rfl rfl rfl (fun b1 => ?_))
 refine zA (zR ze25 rfl (fun b2 => ?_))
 change RunOps _ _ _ _ _ _ _ _ (HA.blk _ [_, _, _, _, _] _ :: _) _
 refine oO 7 rfl (zQ 1 rfl ag25 rfl rfl ?_)
 refine zA (zN rfl rfl rfl (c20 v _) (by first | exact sub1 0 rfl | exact sub1 1 rfl | exact sub1 2 rfl | exact sub1 3 rfl | exact sub1 4 rfl | exact sub1 5 rfl | exact sub1 6 rfl | exact sub1 7 rfl | exact sub1 8 rfl | exact sub1 9 rfl) ?_)
 refine oR 3 rfl (yF rfl (fun h8 => ?_) (fun h8 => ?_))
 ·refine rO 3 rfl (yS rfl rfl (bu25 ..) ?_)
  refine zA (zF 0 (M' := [HA.blk _ [_, _, _, _, _] _, _]) rfl rfl rfl rfl si25 rfl rfl rfl ?_)
  refine oR 3 rfl ?_
  refine wY (M' := [HA.blk b2 [_, _, _, _, _] 25]) (by repeat (first | exact yC _ | refine zC 0 rfl ?_ | refine zC 1 rfl ?_ | refine zC 2 rfl ?_ | refine zC 3 rfl ?_ | refine zC 4 rfl ?_ | refine zC 5 rfl ?_ | refine zC 6 rfl ?_)) ?_
  refine yK (.val (.agg #[.int .i64 0, .int .i64 0, .string ⟨#[]⟩, .slice none 0 0, .slice none 0 0]) zV) (fun w ok _ => qF w ok) ?_
  exact wG 0 Tryz.results43 rfl rfl rfl ag25 ⟨rfl, .agg #[.int .i64 0, .int .i64 0, .string ⟨#[]⟩, .slice none 0 0, .slice none 0 0], zV, false, rfl, ⟨none, 0, none, 0, rfl, rfl⟩, fun e => by cases e⟩ nS (sub1 0 rfl)
 have hsv0 := yR.1 (by simpa using h8)
 have hp : Pl v := ⟨12, hsv0.1.1⟩
 have hs := hsv0.2
 have hpn := pl_norm hs hp
 have hsn := shape_norm v hs hp
 have hkn := deep_norm (p := fun _ => True) (q := Kw1) (fun v _ _ _ => kw1_norm v) v hp hs (deep_true (fun _ => trivial) v)
 refine rO 4 rfl (yS rfl rfl (bu90 ..) ?_)
 refine zA (yN rfl rfl rfl (fun b11 => ?_))
 refine oO 8 rfl (zQ 2 rfl ag25 rfl rfl ?_)
 refine zA ?_
 refine zT rfl rfl rfl (c22 v hp.wf _) (by first | exact sub1 0 rfl | exact sub1 1 rfl | exact sub1 2 rfl | exact sub1 3 rfl | exact sub1 4 rfl | exact sub1 5 rfl | exact sub1 6 rfl | exact sub1 7 rfl | exact sub1 8 rfl | exact sub1 9 rfl) (fun u14 D14 hv14 => ?_)
 obtain ⟨A14, m14, B14, d14, rfl, rfl⟩ := hv14
 refine ops_more (DM false) (fun w ok _ => qF w ok) (zA ?_)
 refine vP (M1 := [_]) rfl rfl rfl (c79 b11 (normalV v) ⟨hpn, hsn⟩ hkn 0 false _ trivial) rfl (sub2 1 0 rfl rfl) (fun u15 M15 D15 hv15 => ?_)
 obtain ⟨a15, v15, D15, hR15, _, rfl, ⟨A15, m15, B15, d15, rfl, rfl⟩, rfl⟩ := hv15
 refine zA (zR ze25 rfl (fun b5 => ?_))
 change RunOps _ _ _ _ _ _ _ _ (HA.blk _ [_, _, _, _, _] _ :: _) _
 refine zA (zF 0 (M' := [HA.blk _ [_, _, _, _, _] _, _, _, _]) rfl rfl rfl rfl si25 rfl rfl rfl ?_)
 refine oK 1 [5, 4, 2] rfl rfl (xA ?_)
 refine yT yE (zS ?_)
 refine tP 1 rfl wanted0 (zW rfl) (tP 2 rfl wanted0 (xH rfl) ?_)
 refine tP 3 rfl wanted0 (zU fo90_0 rfl) (yA ?_)
 refine tM 0 rfl wanted0 (wZ 0 rfl ag25 rfl) (tM 4 rfl wanted0 (yP 1 sc4 rfl rfl rfl) ?_)
 refine zS (tP 5 rfl wanted0 (st_not rfl) ?_)
 refine tP 6 rfl wanted0 (zW rfl) (any_split (s := 22) rfl (fun h22 => ?_) (fun h22 => ?_))
 ·refine yA (tM 7 rfl (wanted1 rfl rfl) (wZ 0 rfl ag25 rfl) ?_)
  refine zI 8 (by decide +kernel) ?_
  refine zL (I2 := [[], [], [0], [], []]) rfl (wanted1 rfl rfl) (by decide +kernel) (fun Kd hKd => ?_)
  refine zN rfl rfl rfl (c50 v15 _) (by first | exact sub1 0 rfl | exact sub1 1 rfl | exact sub1 2 rfl | exact sub1 3 rfl | exact sub1 4 rfl | exact sub1 5 rfl | exact sub1 6 rfl | exact sub1 7 rfl | exact sub1 8 rfl | exact sub1 9 rfl) (hKd _ _ _ (zD (zD (hC (zD (zD (zM)))))) ?_)
  refine zS (tP 9 rfl wanted0 (st_pick rfl rfl) ?_)
  refine zI 10 (by decide +kernel) ?_
  refine zL (I2 := [[9], [], [], [], [], []]) rfl wanted0 (by decide +kernel) (fun Kd hKd => ?_)
  refine zF 2 (M' := [_, _, HA.blk _ [_, _, _, _, _] _, _]) rfl rfl rfl rfl si25 rfl rfl rfl (hKd _ _ _ (hC (zD (zD (zD (zD (zD (zM))))))) ?_)
  refine tP 11 rfl wanted0 (xG rfl) (yD (by decide +kernel) ?_)
  refine rK 0 [3, 2] rfl rfl ?_
  refine wY (M' := [HA.blk b2 [_, _, _, _, _] 25]) (by repeat (first | exact yC _ | refine zC 0 rfl ?_ | refine zC 1 rfl ?_ | refine zC 2 rfl ?_ | refine zC 3 rfl ?_ | refine zC 4 rfl ?_ | refine zC 5 rfl ?_ | refine zC 6 rfl ?_)) ?_
  exact wG 0 Tryz.results43 rfl rfl rfl ag25 ⟨rfl, _, v15, _, rfl, ⟨_, _, _, _, rfl, rfl⟩, fun e => ⟨hsv0, hR15.1, (hR15.2 (by cases a15 <;> simp_all)).2, yR.1 e⟩⟩ nS (by first | exact sub1 0 rfl | exact sub1 1 rfl | exact sub1 2 rfl | exact sub1 3 rfl | exact sub1 4 rfl | exact sub1 5 rfl | exact sub1 6 rfl | exact sub1 7 rfl | exact sub1 8 rfl | exact sub1 9 rfl)
 refine yA (tS 7 rfl rfl rfl rfl ?_)
 refine tS 8 rfl rfl rfl rfl (zS ?_)
 refine tP 9 rfl wanted0 (st_pick rfl rfl) (zI 10 (by decide +kernel) ?_)
 refine zL (I2 := [[9], [], [], [], [], []]) rfl wanted0 (by decide +kernel) (fun Kd hKd => ?_)
 refine zF 2 (M' := [_, _, HA.blk _ [_, _, _, _, _] _, _]) rfl rfl rfl rfl si25 rfl rfl rfl (hKd _ _ _ (hC (zD (zD (zD (zD (zD (zM))))))) ?_)
 refine tP 11 rfl wanted0 (xG rfl) (yD (by decide +kernel) ?_)
 refine rK 0 [3, 2] rfl rfl ?_
 refine wY (M' := [HA.blk b2 [_, _, _, _, _] 25]) (by repeat (first | exact yC _ | refine zC 0 rfl ?_ | refine zC 1 rfl ?_ | refine zC 2 rfl ?_ | refine zC 3 rfl ?_ | refine zC 4 rfl ?_ | refine zC 5 rfl ?_ | refine zC 6 rfl ?_)) ?_
 exact wG 0 Tryz.results43 rfl rfl rfl ag25 ⟨rfl, _, v15, _, rfl, ⟨_, _, _, _, rfl, rfl⟩, fun e => Bool.noConfusion e⟩ nS (by first | exact sub1 0 rfl | exact sub1 1 rfl | exact sub1 2 rfl | exact sub1 3 rfl | exact sub1 4 rfl | exact sub1 5 rfl | exact sub1 6 rfl | exact sub1 7 rfl | exact sub1 8 rfl | exact sub1 9 rfl)
theorem split2 {σ : Sig} {G : Gr} {b s : Nat} {f f2 : Flds} (hG : GOk G σ) (hf : σ b = some f) (hs : σ s = some f2) (hne : s ≠ b) : ∃ cs cs2 R, G.Perm ((b, cs, f) :: (s, cs2, f2) :: R) ∧ HE [.many 124 (Gr.blks G)] [.blk b cs 124, .blk s cs2 124, .many 124 (Gr.blks R)] ∧
  ∀ cs' f', GOk ((b, cs', f') :: (s, cs2, f2) :: R) (upd σ b (some f')) := by
 obtain ⟨cs, R, hp, hR⟩ := hG.split hf
 obtain ⟨cs2, R2, hp2, hR2⟩ := hR.split ((tN hne none).trans hs)
 refine ⟨cs, cs2, R2, hp.trans (hp2.cons _), (he_split hp).trans (HE.append (HE.refl [.blk b cs 124]) (he_split hp2)), fun cs' f' => ?_⟩
 have h1 := hR2.join cs2 f2
 rw [upd_same ((tN hne none).trans hs)] at h1
 exact h1.join cs' f'
theorem c74G (mb : Nat) (σ : Sig) (b s : Nat) (f f2 : Flds) (G : Gr) (hf : σ b = some f) (hs : σ s = some f2) (hne : s ≠ b) (hG : GOk G σ) :
  Ct Tryz.prog 74 #[ptr b, ptr s] [.many 124 (Gr.blks G)] [.graph mb G] (fun u M' D' => u = .tuple #[] ∧ ∃ G', GOk G' (upd σ b (some (cpy f f2))) ∧ M' = [.many 124 (Gr.blks G')] ∧ D' = [.graph mb G']) := by
 obtain ⟨cs, cs2, R, hp, he, hJ⟩ := split2 hG hf hs hne
 have h0 := (c74 b s mb mb cs cs2 f f2).frame (N := [.many 124 (Gr.blks R)])
 have h1 := Ct.draw (D := [.graph mb G]) (fun w ok h d hd => by
  have hg : (DA.graph mb G).p w ok := h _ List.mem_cons_self
  rcases List.mem_cons.1 hd with rfl | hd
  ·exact hg _ (hp.mem_iff.2 List.mem_cons_self)
  ·rcases List.mem_singleton.1 hd with rfl
   exact hg _ (hp.mem_iff.2 (List.mem_cons_of_mem _ List.mem_cons_self))) (h0.he he)
 refine Ct.turn h1 (fun _ u M' D' _ hR => ?_)
 obtain ⟨M1, rfl, rfl, cs', rfl, rfl⟩ := hR
 refine ⟨[.many 124 (Gr.blks ((b, cs', cpy f f2) :: (s, cs2, f2) :: R))], [.graph mb ((b, cs', cpy f f2) :: (s, cs2, f2) :: R)], ?_, fun w ok h h' d hd => ?_, rfl, _, hJ cs' _, rfl, rfl⟩
 ·exact ((he_split (List.Perm.refl _)).trans (HE.append (HE.refl [.blk b cs' 124]) (he_split (List.Perm.refl _)))).symm
 ·rcases List.mem_singleton.1 hd with rfl
  exact graph_upd hp (h' _ List.mem_cons_self) (h _ List.mem_cons_self)
theorem fold_at {σ : Sig} {b : Nat} {bs : List Nat} {f : Flds} (h : ∀ c ∈ bs, c ≠ b ∧ ∃ s, σ c = some s) {i c : Nat} (hc : bs[i]? = some c) : ∃ s, c ≠ b ∧ (∀ o, upd σ b o c = some s) ∧ (bs.take (i + 1)).foldl (cpyS σ) f = cpy ((bs.take i).foldl (cpyS σ) f) s := by
 obtain ⟨h1, s, hs⟩ := h c (List.mem_of_getElem? hc)
 refine ⟨s, h1, fun o => (tN h1 o).trans hs, ?_⟩
 rw [List.take_add_one, hc, List.foldl_append]
 show cpyS σ _ c = _
 unfold cpyS
 rw [hs]

theorem c124 (mb : Nat) (σ : Sig) (b : Nat) (f : Flds) (ctx : ByteArray) (G : Gr) (hf : σ b = some f) (hft : FT f) (hG : GOk G σ) (hbs : ∀ bs, f 28 = some (.list bs) → ∀ c ∈ bs, c ≠ b ∧ ∃ s, σ c = some s) :
  Ct Tryz.prog 124 #[ptr b, .string ctx] [.many 124 (Gr.blks G)] [.graph mb G] (fun u M' D' => u = .tuple #[] ∧ ∃ G', GOk G' (upd σ b (some (mgS σ f))) ∧ M' = [.many 124 (Gr.blks G')] ∧ D' = [.graph mb G']) := by
 refine Ct.of_run (args := [ptr b, .string ctx]) Tryz.func124 (by kernel_rfl) rfl Tryz.ntmps124 rfl (fun c => ?_)
 obtain ⟨cs, hm⟩ := (hG.2 b f).2 hf
 refine vO 0 28 rfl hm (by decide) (by decide) (fun p hc hp => ?_)
 refine rO 7 rfl (zB sN rfl rfl ?_)
 refine zA (xJ 0 sc122 rfl rfl rfl (wA hm) (by rw [Nat.zero_add]; exact hc) ?_)
 refine zA (yL pn122 rfl rfl ?_)
 refine zZ (yF rfl (fun h10 => ?_) (fun h10 => ?_))
 ·obtain ⟨fv, hfv⟩ : ∃ fv, f 28 = some fv := Option.isSome_iff_exists.1 (hp.symm.trans h10)
  obtain ⟨bs, rfl⟩ := rB (hft 28 fv (by decide) (by decide) hfv)
  refine tW 0 28 rfl hm (by decide) (by decide) hc hfv (run_list 0 rfl (fun pl sl hu => ?_))
  cases hu
  refine uK 1 rfl (fun A1 c1 hx hk1 hk2 => ?_)
  subst hx
  unfold maxLen at hk2
  refine rO 8 rfl (zB sN rfl rfl ?_)
  refine zA (xJ 0 sc122 rfl rfl rfl (wA hm) (by rw [Nat.zero_add]; exact hc) ?_)
  refine oO 3 rfl (yV 0 sc137 rfl rfl rfl ?_)
  refine zA (zX sl137 rfl rfl ?_)
  refine oK 3 [18, 17, 16, 0] rfl rfl (rK 1 [18, 17, 16, 0] rfl rfl ?_)
  refine uS (D' := .graph mb G :: .rowp (.slice A1 bs.length c1) bs :: []) (by intro d hd; simp only [List.mem_cons, List.not_mem_nil, or_false] at hd ⊢; rcases hd with rfl | rfl <;> simp) ?_
  refine yH 1 (fun (⟨i, G2⟩ : Nat × Gr) => i ≤ bs.length ∧ GOk G2 (upd σ b (some ((bs.take i).foldl (cpyS σ) f)))) (fun (⟨i, G2⟩ : Nat × Gr) => [(18, .int .i64 ((i : Nat) : Int))]) (fun (⟨i, G2⟩ : Nat × Gr) => .many 124 (Gr.blks G2) :: []) (fun (⟨i, G2⟩ : Nat × Gr) => .graph mb G2 :: .rowp (.slice A1 bs.length c1) bs :: []) (fun (⟨i, G2⟩ : Nat × Gr) => bs.length - i) (0, G) (⟨Nat.zero_le _, (by show GOk G (upd σ b (some f)); rw [upd_same hf]; exact hG)⟩) (eC rfl (eN _)) rfl rfl ?_ (eC rfl (eC rfl (eC rfl (eN _))))
  intro ⟨i, G2⟩ hI K hK
  replace hI : i ≤ bs.length ∧ GOk G2 (upd σ b (some ((bs.take i).foldl (cpyS σ) f))) := hI
  change Run _ _ _ _ _ [(18, _), (17, _), (16, _), (0, _)] [_] [_, _]
  obtain ⟨hi, hG2⟩ := hI
  refine rO 3 rfl (yM rfl rfl rfl ?_)
  refine oR 2 rfl (zO rfl (fun h19 => ?_) (fun h19 => ?_))
  ·refine rO 6 rfl ?_
   have hlt : i < bs.length := h19
   obtain ⟨s, hne, hs, hfold⟩ := fold_at (f := f) (hbs bs hfv) (List.getElem?_eq_getElem hlt)
   refine vC 1 sl137 rfl rfl rfl rfl hlt (zA ?_)
   refine yJ sc63 rfl rfl (fun _ h => vM h (j := 1) rfl (List.getElem?_eq_getElem hlt)) ?_
   refine oO 9 rfl (vP (M1 := [_]) rfl rfl rfl (c74G mb _ b _ _ s G2 (uC _ _ _) (hs _) hne hG2) rfl (sub1 0 rfl) (fun u24 M24 D24 hv24 => ?_))
   obtain ⟨rfl, G24, hG24, rfl, rfl⟩ := hv24
   rw [upd_upd] at hG24
   refine oO 4 rfl (yB rfl rfl (by omega) ?_)
   refine oR 3 rfl ?_
   exact kQ (hK (i + 1, G24) (⟨(by show i + 1 ≤ _; omega), (by rw [hfold]; exact hG24)⟩) (by show bs.length - (i + 1) < bs.length - i; omega)) (eC rfl (eC rfl (eC rfl (eC rfl (eN _))))) (hD := (subc 0 rfl sQ))
  obtain rfl : i = bs.length := by omega
  rw [List.take_length] at hG2
  obtain ⟨cs9, R, hp9, hR⟩ := hG2.split (uC _ _ _)
  refine run_he (he_split hp9) (uW (p := cs9.length = 37) (fun w ok h => ((dget h 0 rfl : (DA.graph mb G2).p w ok) _ (hp9.mem_iff.2 List.mem_cons_self)).1) (fun hcl => ?_))
  refine rO 7 rfl (zB sN rfl rfl ?_)
  refine zA (pR 0 rfl rfl rfl rfl rfl si122 (by omega) ?_)
  refine zZ (run_he (he_split (G := (b, cs9.set 28 (.pointer none), (bs.foldl (cpyS σ) f).put 28 none) :: R) (List.Perm.refl _)).symm ?_)
  refine uI (D' := [.graph mb ((b, cs9.set 28 (.pointer none), (bs.foldl (cpyS σ) f).put 28 none) :: R)]) (fun w ok h x hx => ?_) ?_
  ·rw [List.mem_singleton.1 hx]
   have hg : (DA.graph mb G2).p w ok := dget h 0 rfl
   exact graph_upd hp9 hg (cellsP_put (hg _ (hp9.mem_iff.2 List.mem_cons_self)) (by decide) rfl (fun fv h => by cases h))
  have hJ := hR.join (cs9.set 28 (.pointer none)) ((bs.foldl (cpyS σ) f).put 28 none)
  rw [upd_upd] at hJ
  exact sS Tryz.results124 ⟨rfl, _, by rw [mgS_list hfv]; exact hJ, rfl, rfl⟩ (List.Sublist.refl _) (fun d hd => hd)
 refine xU ?_
 have hn : f 28 = none := uQ hp h10
 exact sS Tryz.results124 ⟨rfl, G, by rw [mgS_none hn, upd_same hf]; exact hG, rfl, rfl⟩ (List.Sublist.refl _) (sub1 0 rfl)
theorem c83 (mb b : Nat) (G : Gr) (v : V) (hv : Sch v) (hU : Unf G v b) :
  Ct Tryz.prog 83 #[ptr b] [.many 124 (Gr.blks G)] [.graph mb G] (fun u M' D' => u = .tuple #[] ∧ ∃ G', Unf G' (mergedV v) b ∧ M' = [.many 124 (Gr.blks G')] ∧ D' = [.graph mb G']) := by
 refine Ct.of_run (args := [ptr b]) Tryz.func83 (by kernel_rfl) rfl Tryz.ntmps83 rfl (fun c => ?_)
 refine run_nd (fun hnd => ?_)
 obtain ⟨σ, hσ⟩ := GOk.ex (graph_nodup hnd)
 obtain ⟨mu, hmu⟩ := tree_mu qI σ
 have hok := mrg_ok (P := Tryz.prog) (fo := 124) (mb := mb) (σ0 := σ) (mu := mu) (fun σ b f ctx G hf hft hG hbs => c124 mb σ b f ctx G hf hft hG hbs)
 refine rO 4 rfl (op_callW rfl rfl rfl (c121 (mrgT mb σ mu) 124 #[] hok b ⟨v, hv, (unf_usig hσ v b).1 hU⟩ ((), σ) G _ (fun d hd => ⟨hmu d hd, .inl rfl⟩) hσ) (fun d hd => hd) (fun u3 M3 D3 hv3 => ?_))
 obtain ⟨rfl, y3, G3, _, hG3, rfl, rfl, _, hdn, _⟩ := hv3
 have hU3 := (unf_usig hG3 _ b).2 ((hdn b (.refl b)).2 v hv ((unf_usig hσ v b).1 hU))
 exact zZ (sS Tryz.results83 ⟨rfl, G3, hU3, rfl, rfl⟩ (List.Sublist.refl _) (sub1 0 rfl))
theorem c45m (fb : Addr) (sb : Nat) (v : V) (x : Value) (hp : Pl v) (hs : IsShape v) (hpc : Pl (mergedV (normalV v))) (hsc : IsShape (mergedV (normalV v))) : CtR Tryz.prog 45 #[x, .slice (some ⟨sb, 0, none⟩) 1 1] [.val x v, .dblk sb [.int .i64 2] 2, .tab, ftA fb] (RTV (wr (mergedV (normalV v)))) := by
 refine Ct.of_run (args := [x, .slice (some ⟨sb, 0, none⟩) 1 1]) Tryz.func45 (by kernel_rfl) rfl Tryz.ntmps45 rfl (fun c => ?_)
 refine yW 0 rfl (fun A1 c1 A2 c2 hx hsz1 hk1 hk2 hi1 hi2 => ?_)
 subst hx
 refine rO 3 rfl (yN rfl rfl rfl (fun b2 => ?_))
 refine zA (zR ze34 rfl (fun b4 => ?_))
 change RunOps _ _ _ _ _ _ _ _ (HA.blk _ [_, _, _, _, _, _] _ :: _) _
 refine oO 4 rfl (zQ 1 rfl ag25 rfl rfl ?_)
 refine zA ?_
 refine vP (M1 := []) rfl rfl rfl (c57 (ftA fb) false v _ (.inl (numC fb)) hp hs) rfl (by intro d hd; simp only [List.mem_cons, List.not_mem_nil, or_false] at hd ⊢; rcases hd with rfl | rfl | rfl <;> simp) (fun u9 M9 D9 hv9 => ?_)
 obtain ⟨b9, G9, mb9, es9, ck9, rfl, rfl, rfl, hU9, hO9, hN9⟩ := hv9
 have hUn := unf_normal v b9 hp hs hU9
 refine oO 9 rfl (pT pn63 rfl rfl ?_)
 refine oO 9 rfl (zX sl54 rfl rfl ?_)
 refine oK 4 [15, 14, 13, 5, 4] rfl rfl ?_
 refine yH 1 (fun (⟨i, G⟩ : Nat × Gr) => i ≤ 1 ∧ (i = 0 → Unf G (normalV v) b9) ∧ (i = 1 → Unf G (mergedV (normalV v)) b9)) (fun (⟨i, G⟩ : Nat × Gr) => [(15, .int .i64 ((i : Nat) : Int))]) (fun (⟨i, G⟩ : Nat × Gr) => .many 124 (Gr.blks G) :: HA.obj mb9 (.map es9 ck9) :: HA.blk b4 [.int .i64 0, .int .i64 0, .int .i64 0, .string ⟨#[]⟩, .slice none 0 0, .slice none 0 0] 34 :: HA.blk b2 [.int .i64 v.kind, .int .i64 v.num, .string v.text, .slice A1 v.keys.length c1, .slice A2 v.items.length c2] 25 :: []) (fun (⟨i, G⟩ : Nat × Gr) => .graph mb9 G :: .strs (.slice A1 v.keys.length c1) v.keys :: .vals (.slice A2 v.items.length c2) v.items :: .val (.agg #[.int .i64 v.kind, .int .i64 v.num, .string v.text, .slice A1 v.keys.length c1, .slice A2 v.items.length c2]) v :: .dblk sb [.int .i64 2] 2 :: .tab :: ftA fb :: []) (fun (⟨i, G⟩ : Nat × Gr) => 1 - i) (0, G9) (⟨Nat.zero_le _, fun _ => hUn, fun e => by cases e⟩) (eC rfl (eN _)) rfl rfl ?_ (eC rfl (eC rfl (eC rfl (eC rfl (eN _)))))
 intro ⟨i, G⟩ hI K hK
 replace hI : i ≤ 1 ∧ (i = 0 → Unf G (normalV v) b9) ∧ (i = 1 → Unf G (mergedV (normalV v)) b9) := hI
 change Run _ _ _ _ _ [(15, _), (14, _), (13, _), (5, _), (4, _)] [_, _, _, _] [_, _, _, _, _, _, _]
 obtain ⟨hi, hI0, hI1⟩ := hI
 refine rO 3 rfl (yM rfl rfl rfl ?_)
 refine oR 2 rfl (zO rfl (fun h16 => ?_) (fun h16 => ?_))
 ·obtain rfl : i = 0 := by omega
  refine rO 6 rfl (xX sl54 rfl rfl rfl (by decide) ?_)
  refine zA (zG 4 sc2 rfl rfl rfl rfl ?_)
  refine oO 29 rfl (vP (M1 := [_]) rfl rfl rfl (c83 mb9 b9 G (normalV v) ⟨pl_norm hs hp, shape_norm v hs hp⟩ (hI0 rfl)) rfl (sub1 0 rfl) (fun u27 M27 D27 hv27 => ?_))
  obtain ⟨rfl, G27, hU27, rfl, rfl⟩ := hv27
  refine oK 1 [15, 14, 13, 5, 4] rfl rfl (rO 4 rfl ?_)
  refine yB rfl rfl (by omega) (oR 3 rfl ?_)
  exact kQ (hK (0 + 1, G27) (⟨by omega, (fun e => absurd e (by decide)), fun _ => hU27⟩) (by show 1 - (0 + 1) < 1 - 0; omega)) (eC rfl (eC rfl (eC rfl (eC rfl (eC rfl (eN _)))))) (hD := (subc 0 rfl sQ))
 obtain rfl : i = 1 := by omega
 have hU := hI1 rfl
 refine rS 5 rfl (ops_frGrC 0 mb9 rfl (fun w ok h g hg => ?_) rfl ?_)
 ·have hg9 : (DA.graph mb9 G).p w ok := dget h 0 rfl
  exact ⟨mb9, hg9 g hg⟩
 refine zA ?_
 refine zT rfl rfl rfl (c60 fb mb9 _ (mergedV (normalV v)) b9 hU hpc hsc) (by intro d hd; simp only [List.mem_cons, List.not_mem_nil, or_false] at hd ⊢; rcases hd with rfl | rfl | rfl <;> simp) (fun u34 D34 hv34 => ?_)
 obtain ⟨A34, m34, B34, d34, rfl, rfl⟩ := hv34
 refine zA (zF 1 (M' := [_, HA.blk _ [_, _, _, _, _, _] _, _]) rfl rfl rfl rfl si34 rfl rfl rfl ?_)
 refine zZ ?_
 refine wY (M' := [HA.blk b4 [_, _, _, _, _, _] 34]) (by repeat (first | exact yC _ | refine zC 0 rfl ?_ | refine zC 1 rfl ?_ | refine zC 2 rfl ?_ | refine zC 3 rfl ?_ | refine zC 4 rfl ?_)) ?_
 exact yZ 0 Tryz.results45 rfl rfl ag34 ⟨rfl, _, _, _, _, rfl, rfl⟩ nS (sub1 0 rfl)
theorem l14 (fb : Addr) (v : V) (x : Value) : CtV Tryz.prog 14 #[x] [.val x v, .tab, ftA fb] (.bool true) := by
 refine Ct.of_run (args := [x]) Tryz.func14 (by kernel_rfl) rfl Tryz.ntmps14 rfl (fun c => ?_)
 refine yW 0 rfl (fun A1 c1 A2 c2 hx hsz1 hk1 hk2 hi1 hi2 => ?_)
 subst hx
 refine rO 3 rfl (yN rfl rfl rfl (fun b1 => ?_))
 refine oO 7 rfl (zQ 0 rfl ag25 rfl rfl ?_)
 refine zA (zN rfl rfl rfl (c19 _ v) (by first | exact sub1 0 rfl | exact sub1 1 rfl | exact sub1 2 rfl | exact sub1 3 rfl | exact sub1 4 rfl | exact sub1 5 rfl | exact sub1 6 rfl | exact sub1 7 rfl) ?_)
 refine oR 3 rfl (yF rfl (fun h7 => ?_) (fun h7 => ?_))
 ·refine rR 5 rfl ?_
  exact zE Tryz.results14 rfl ⟨rfl, rfl, rfl⟩ nS (fun _ h => by cases h)
 refine rO 4 rfl (zQ 0 rfl ag25 rfl rfl ?_)
 refine zA ?_
 refine zT rfl rfl rfl (c43 v _) (by first | exact sub1 0 rfl | exact sub1 1 rfl | exact sub1 2 rfl | exact sub1 3 rfl | exact sub1 4 rfl | exact sub1 5 rfl | exact sub1 6 rfl | exact sub1 7 rfl) (fun u10 D10 hv10 => ?_)
 obtain ⟨_, z, b10, rfl, ⟨A10, m10, B10, d10, rfl, rfl⟩, hz⟩ := hv10
 refine oO 7 rfl (zR ze25 rfl (fun b3 => ?_))
 change RunOps _ _ _ _ _ _ _ _ (HA.blk _ [_, _, _, _, _] _ :: _) _
 refine zA (zF 0 (M' := [HA.blk _ [_, _, _, _, _] _, _]) rfl rfl rfl rfl si25 rfl rfl rfl ?_)
 refine oK 3 [4, 3, 1] rfl rfl (rR 8 rfl ?_)
 refine yF rfl (fun h14 => ?_) (fun h14 => ?_)
 ·refine rR 5 rfl ?_
  exact zE Tryz.results14 rfl ⟨rfl, rfl, rfl⟩ nS (fun _ h => by cases h)
 obtain ⟨hok, rfl, hmok, hdat⟩ := hz (by simpa using h14)
 have hp : Pl v := ⟨12, hok.1.1⟩
 obtain ⟨hsn, hkn⟩ : Sch (normalV v) ∧ DeepV Kw1 (normalV v) := ⟨⟨pl_norm hok.2 hp, shape_norm v hok.2 hp⟩, deep_norm (p := fun _ => True) (q := Kw1) (fun v _ _ _ => kw1_norm v) v hp hok.2 (deep_true (fun _ => trivial) v)⟩
 have hpc : Pl (mergedV (normalV v)) := ⟨12, hdat.1⟩
 have hsc := shape_merged _ hsn hmok
 have hnn := normal_fix _ hpc hsc (deep_merged _ hsn hkn)
 have hpw := pl_wr hsc hpc
 refine rR 2 rfl (yT yE ?_)
 refine tM 0 rfl wanted0 (wZ 1 rfl ag25 rfl) (tM 3 rfl wanted0 (wZ 0 rfl ag25 rfl) ?_)
 refine zI 1 (by decide +kernel) ?_
 refine zL (I2 := [[3, 0]]) rfl wanted0 (by decide +kernel) (fun Kd hKd => ?_)
 refine zK sl54 rfl rfl rfl rfl rfl (fun b16 => ?_)
 refine ops_frBlk 0 rfl rfl (hKd _ _ _ (hC (zM)) ?_)
 refine zI 2 (by decide +kernel) ?_
 refine zL (I2 := [[3]]) rfl wanted0 (by decide +kernel) (fun Kd hKd => ?_)
 refine zT rfl rfl rfl (c45m fb b16 v _ hp hok.2 hpc hsc) (by intro d hd; simp only [List.mem_cons, List.not_mem_nil, or_false] at hd ⊢; rcases hd with rfl | rfl | rfl | rfl <;> simp) (fun u17 D17 hv17 => ?_)
 obtain ⟨A17, m17, B17, d17, rfl, rfl⟩ := hv17
 refine hKd _ _ _ (hC (zM)) (zI 4 (by decide +kernel) ?_)
 refine zL (I2 := [[]]) rfl wanted0 (by decide +kernel) (fun Kd hKd => ?_)
 refine zN rfl rfl rfl (c27 (wr (mergedV (normalV v))) (mergedV (normalV v)) hpw.wf hpc.wf _ _ _ _ _) (by first | exact sub2 0 1 rfl rfl | exact sub2 0 2 rfl rfl | exact sub2 0 3 rfl rfl | exact sub2 0 4 rfl rfl | exact sub2 0 5 rfl rfl | exact sub2 0 6 rfl rfl | exact sub2 0 7 rfl rfl | exact sub2 1 0 rfl rfl | exact sub2 1 2 rfl rfl | exact sub2 1 3 rfl rfl | exact sub2 1 4 rfl rfl | exact sub2 1 5 rfl rfl | exact sub2 1 6 rfl rfl | exact sub2 1 7 rfl rfl | exact sub2 2 0 rfl rfl | exact sub2 2 1 rfl rfl | exact sub2 2 3 rfl rfl | exact sub2 2 4 rfl rfl | exact sub2 2 5 rfl rfl | exact sub2 2 6 rfl rfl | exact sub2 2 7 rfl rfl | exact sub2 3 0 rfl rfl | exact sub2 3 1 rfl rfl | exact sub2 3 2 rfl rfl | exact sub2 3 4 rfl rfl | exact sub2 3 5 rfl rfl | exact sub2 3 6 rfl rfl | exact sub2 3 7 rfl rfl | exact sub2 4 0 rfl rfl | exact sub2 4 1 rfl rfl | exact sub2 4 2 rfl rfl | exact sub2 4 3 rfl rfl | exact sub2 4 5 rfl rfl | exact sub2 4 6 rfl rfl | exact sub2 4 7 rfl rfl | exact sub2 5 0 rfl rfl | exact sub2 5 1 rfl rfl | exact sub2 5 2 rfl rfl | exact sub2 5 3 rfl rfl | exact sub2 5 4 rfl rfl | exact sub2 5 6 rfl rfl | exact sub2 5 7 rfl rfl | exact sub2 6 0 rfl rfl | exact sub2 6 1 rfl rfl | exact sub2 6 2 rfl rfl | exact sub2 6 3 rfl rfl | exact sub2 6 4 rfl rfl | exact sub2 6 5 rfl rfl | exact sub2 6 7 rfl rfl | exact sub2 7 0 rfl rfl | exact sub2 7 1 rfl rfl | exact sub2 7 2 rfl rfl | exact sub2 7 3 rfl rfl | exact sub2 7 4 rfl rfl | exact sub2 7 5 rfl rfl | exact sub2 7 6 rfl rfl) (hKd _ _ _ (zD (zM)) ?_)
 refine zS (tP 5 rfl wanted0 (xG rfl) ?_)
 refine yD (by decide +kernel) (rK 0 [2] rfl rfl ?_)
 exact zE Tryz.results14 rfl ⟨congrArg Value.bool (tb_t ((bare_wr _).trans (congrArg bareV hnn))), rfl, rfl⟩ nS (fun _ h => by cases h)
end Go.Jw

namespace Go.Jw
open Go Go.RowKit Go.Proofs Go.ChangeShapes Go.WideShapes Go.Proofs.YtlcfillobkdnmaaGreatDoor
set_option maxRecDepth 8000
theorem lt_of_cell {w : World} {a : Addr} {v : Value} (h : w.cell? a = some v) : a.block < w.heap.size := by
 rcases Nat.lt_or_ge a.block w.heap.size with hlt | hge
 ·exact hlt
 ·unfold World.cell? at h
  rw [Array.getElem?_eq_none hge] at h
  simp at h
theorem ce9 : Tryz.prog.cellsOf 9 = 1 := by kernel_rfl
theorem ce25 : Tryz.prog.cellsOf 25 = 5 := by kernel_rfl
theorem ce2 : Tryz.prog.cellsOf 2 = 1 := by kernel_rfl
theorem ce22 : Tryz.prog.cellsOf 22 = 1 := by kernel_rfl
theorem ce23 : Tryz.prog.cellsOf 23 = 1 := by kernel_rfl
section
variable {H : Type} {enc : TypeId × Value → H} {W : World} {held : Bool}
theorem strs_of_trod {n : Nat} {kv : Value} {x : DataW H × List MemPlace} (h : DataW.trod enc Tryz.prog W 0 (fun _ => true) held n 22 [kv] = some x) : ∃ ks, StrsP W (· < W.heap.size) kv ks := by
 rcases open_strings Tryz.underlying22 Tryz.underlying9 ce9 h with ⟨h1, _⟩ | ⟨a, len, cap, ss, h1, _, hl, hc, hs, _, hg, hsz⟩
 ·injection h1 with h1
  exact ⟨[], none, 0, h1, Nat.le_refl _, Nat.zero_le _, (fun s hs => by cases hs), fun i s hi => by simp at hi⟩
 ·injection h1 with h1
  simp only [if_true] at hs
  have hlen : (ss.take len).length = len := by rw [List.length_take]; omega
  refine ⟨ss.take len, some a, cap, by rw [hlen]; exact h1, by omega, hc, fun s hm => hsz s (List.mem_of_mem_take hm), fun i s hi => ?_⟩
  have hil : i < len := by
   have := (List.getElem?_eq_some_iff.1 hi).1
   omega
  have hi' : ss[i]? = some s := by rw [← hi, List.getElem?_take]; simp [hil]
  have hcell := hg i (by omega)
  have hd : ss.getD i ByteArray.empty = s := by rw [List.getD_eq_getElem?_getD, hi']; rfl
  rw [hd] at hcell
  exact ⟨a, rfl, by have := lt_of_cell hcell; rwa [tF] at this, by rw [Nat.mul_one]; exact hcell⟩
theorem bulk_sum : ∀ (l : List V) (l' : List (DataW H)), l.length = l'.length → (∀ (i : Nat) t d, l[i]? = some t → l'[i]? = some d → 2 * nodes t ≤ Rows.uptoBulk d) → 2 * (l.map nodes).sum ≤ Rows.uptoBulkAll l'
  | [], _, _, _ => Nat.zero_le _
  | t :: l, [], h, _ => by simp at h
  | t :: l, d :: l', h, hi => by
    have h1 := hi 0 t d rfl rfl
    have h2 := bulk_sum l l' (by simpa using h) (fun i t d a b => hi (i + 1) t d (by simpa using a) (by simpa using b))
    simp only [List.map_cons, List.sum_cons, Rows.uptoBulkAll]
    omega
theorem val_of_trod (n : Nat) : ∀ (cs : List Value) (x : DataW H × List MemPlace), DataW.trod enc Tryz.prog W 0 (fun _ => true) held n 25 cs = some x → ∃ t, ValP W (· < W.heap.size) t (.agg cs.toArray) ∧ 2 * nodes t ≤ Rows.uptoBulk x.1 := by
  induction n using Nat.strongRecOn with
  | _ n IH =>
    intro cs x h
    obtain ⟨xs, m, hm, rfl, hl, hlen, hf⟩ := DataW.trod_struct Tryz.underlying25 h
    rw [ce25] at hl
    match cs, hl with
    | [c0, c1, c2, c3, c4], _ =>
    match xs, hlen with
    | [y0, y1, y2, y3, y4], _ =>
    have h0 : DataW.trod enc Tryz.prog W 0 (fun _ => true) held m 2 [c0] = some y0 := by simpa [ce2] using hf 0 _ rfl
    have h1 : DataW.trod enc Tryz.prog W 0 (fun _ => true) held m 2 [c1] = some y1 := by simpa [ce2] using hf 1 _ rfl
    have h2 : DataW.trod enc Tryz.prog W 0 (fun _ => true) held m 9 [c2] = some y2 := by simpa [ce9] using hf 2 _ rfl
    have h3 : DataW.trod enc Tryz.prog W 0 (fun _ => true) held m 22 [c3] = some y3 := by simpa [ce22] using hf 3 _ rfl
    have h4 : DataW.trod enc Tryz.prog W 0 (fun _ => true) held m 23 [c4] = some y4 := by simpa [ce23] using hf 4 _ rfl
    obtain ⟨k, e0, g0⟩ := DataW.trod_int Tryz.underlying2 h0
    obtain ⟨q, e1, _⟩ := DataW.trod_int Tryz.underlying2 h1
    obtain ⟨s, e2, _, hs⟩ := DataW.trod_string Tryz.underlying9 h2
    obtain ⟨ks, hks⟩ := strs_of_trod h3
    injection e0 with e0; injection e1 with e1; injection e2 with e2
    subst e0; subst e1; subst e2
    have hy0 : Rows.uptoBulk y0.1 = 1 := by rw [g0.1]; simp [Rows.uptoBulk]
    have hbulk : Rows.uptoBulk y4.1 + 2 ≤ Rows.uptoBulk (DataW.agg [y0.1, y1.1, y2.1, y3.1, y4.1]) := by
      simp only [Rows.uptoBulk, Rows.uptoBulkAll]
      omega
    show ∃ t, _ ∧ 2 * nodes t ≤ Rows.uptoBulk (DataW.agg [y0.1, y1.1, y2.1, y3.1, y4.1])
    rcases DataW.trod_slice Tryz.underlying23 h4 with ⟨h5, _⟩ | ⟨a, len, cap, elems, rest, m', hm', h5, h6, hb, hle, hc, hln, hel, hsp, _⟩
    · injection h5 with h5
      refine ⟨.mk k q s ks [], ?_, ?_⟩
      · simp only [ValP]
        exact ⟨_, _, rfl, hs, hks, none, 0, h5, Nat.le_refl _, Nat.zero_le _, by simp [ItemsP]⟩
      · rw [nodes_eq]; simp only [imk, List.map_nil, List.sum_nil]; omega
    · injection h5 with h5
      have hall : ∀ i, ∃ t, i < len → ∃ csi, ∃ y, elems[i]? = some y ∧ W.cells? 0 (a.add (i * 5)) 5 = some csi ∧ ValP W (· < W.heap.size) t (.agg csi.toArray) ∧ 2 * nodes t ≤ Rows.uptoBulk y.1 := by
        intro i
        by_cases hi : i < len
        · have he := hel i hi
          rw [ce25, List.getElem?_eq_getElem (by omega)] at he
          obtain ⟨csi, hcs, htr⟩ := Option.bind_eq_some_iff.1 he
          obtain ⟨t, ht, hnt⟩ := IH m' (by omega) csi _ htr
          exact ⟨t, fun _ => ⟨csi, _, List.getElem?_eq_getElem (by omega), hcs, ht, hnt⟩⟩
        · exact ⟨zV0, fun h => absurd h hi⟩
      obtain ⟨f, hfa⟩ := Classical.axiomOfChoice hall
      have hget : ∀ j t, ((List.range len).map f)[j]? = some t → j < len ∧ t = f j := by
        intro j t hj
        rw [List.getElem?_map] at hj
        obtain ⟨z, hz, rfl⟩ := Option.map_eq_some_iff.1 hj
        obtain ⟨h1, h2⟩ := List.getElem?_eq_some_iff.1 hz
        rw [List.getElem_range] at h2
        rw [List.length_range] at h1
        exact ⟨h1, by rw [h2]⟩
      refine ⟨.mk k q s ks ((List.range len).map f), ?_, ?_⟩
      · simp only [ValP]
        refine ⟨_, _, rfl, hs, hks, some a, cap, by rw [List.length_map, List.length_range]; exact h5, by rw [List.length_map, List.length_range]; exact hle, hc, ItemsP.of_get fun j t hj => ?_⟩
        obtain ⟨hjl, rfl⟩ := hget j t hj
        obtain ⟨csi, y, _, hcs, hv, _⟩ := hfa j hjl
        obtain ⟨_, hcl, hcc⟩ := World.cells?_some hcs
        have hadd : ∀ q, (a.add (j * 5)).add q = a.add ((0 + j) * 5 + q) := fun q => by rw [Nat.zero_add]; exact add_add' a _ _
        refine ⟨a, .agg csi.toArray, rfl, ?_, fun q u hq => ?_, hv⟩
        · have := hcc 0 (by omega)
          rw [List.getElem?_eq_getElem (by omega)] at this
          have := lt_of_cell this
          rwa [tF, tF] at this
        · have hq' : csi[q]? = some u := by simpa [Value.cells] using hq
          have hql := (List.getElem?_eq_some_iff.1 hq').1
          rw [← hadd, hcc q (by omega)]
          exact hq'
      · have hsum := bulk_sum ((List.range len).map f) (elems.map (·.1)) (by simp; omega) (fun i t d ht hd => by
          obtain ⟨hil, rfl⟩ := hget i t ht
          obtain ⟨csi, y, hy, _, _, hn⟩ := hfa i hil
          rw [List.getElem?_map, hy] at hd
          injection hd with hd
          rw [← hd]; exact hn)
        rw [nodes_eq]
        simp only [imk]
        have : Rows.uptoBulkAll (elems.map (·.1)) ≤ Rows.uptoBulk y4.1 := by
          rw [h6]
          simp only [Rows.uptoBulk]
          omega
        omega
end
theorem laidVars_mem {P : Program} {w : World} {n : String} {d : DataW Unit} : ∀ {l : List (String × DataW Unit)} {ps : List MemPlace}, DataW.LaidVars P w l ps → (n, d) ∈ l →
    ∃ g t cs fuel p, P.globalNamed n = some g ∧ (P.globals[g]?).map (·.type) = some t ∧ w.var? P n = some cs ∧ DataW.trod (fun _ => ()) P w 0 (fun _ => true) false fuel t cs.toList = some (d, p)
  | [], _, _, h => by cases h
  | (n', d') :: l, ps, ⟨g, t, cs, fuel, p, q, h1, h2, h3, h4, h5, _⟩, h => by
    rcases List.mem_cons.1 h with h | h
    · injection h with h h'
      subst h; subst h'
      exact ⟨g, t, cs, fuel, p, h1, h2, h3, h4⟩
    · exact laidVars_mem h5 h
theorem gU : Tryz.prog.globalNamed "internal/strconv.uint64pow10" = some 0 := by kernel_rfl
theorem gUt : (Tryz.prog.globals[0]?).map (·.type) = some 270 := by kernel_rfl
theorem ce235 : Tryz.prog.cellsOf 235 = 1 := by kernel_rfl
theorem ce270 : Tryz.prog.cellsOf 270 = 20 := by kernel_rfl
theorem tab_of {W : World} {l : List (String × DataW Unit)} (h : laidMet Tryz.prog l W) (hm : ("internal/strconv.uint64pow10", Rows.laid_internal_strconv_uint64pow10) ∈ l) : DA.tab.p W (· < W.heap.size) := by
  obtain ⟨ps, hv, _⟩ := h
  obtain ⟨g, t, cs, fuel, p, h1, h2, h3, h4⟩ := laidVars_mem hv hm
  obtain rfl := Option.some.inj (gU.symm.trans h1)
  obtain rfl := Option.some.inj (gUt.symm.trans h2)
  have hc := Lib.cells_of_tab (zs := Lib.pow10Tab) Tryz.underlying270 Tryz.underlying235 ce235 ce270 h4
  unfold World.var? at h3
  rw [h1] at h3
  simp only [Option.bind_some] at h3
  cases hh : W.heap[0]? with
  | none => rw [hh] at h3; cases h3
  | some o =>
    rw [hh] at h3
    cases o with
    | cells c T fz =>
      simp at h3
      subst h3
      refine ⟨0, T, fz, gU, (Array.getElem?_eq_some_iff.1 hh).1, ?_⟩
      rw [hh, ← hc]
    | _ => simp at h3
def DA.any : DA := ⟨fun _ _ => True, fun _ _ _ => trivial⟩
theorem calls_of {f : FuncId} {args : Array Value} {D : List DA} {v : Value} {W : World} (h : CtV Tryz.prog f args D v) (hD : ∀ d ∈ D, d.p W (· < W.heap.size)) : Calls Tryz.prog f args W fun e W' => e = .returned v ∧ Below W.heap.size W W' :=
 (h.2 W (· < W.heap.size) (fun k hk => ⟨hk, by simp [foots]⟩) (by simp) (by simp [foots]) hD).mono fun e W' ⟨u, M', D', he, ⟨hu, hM, hd⟩, hc, _⟩ => ⟨by rw [he, hu], hc.below⟩
theorem laidOut : laidOutB Tryz.prog = true := by kernel_rfl
end Go.Jw

namespace Go.Jw
open Go Go.RowKit Go.Proofs Go.ChangeShapes Go.WideShapes Go.Proofs.YtlcfillobkdnmaaGreatDoor
set_option maxRecDepth 20000
section
variable {W : World}
noncomputable abbrev trodU (W : World) (fuel : Nat) (t : TypeId) (cs : List Value) := DataW.trod (fun _ => ()) Tryz.prog W 0 (fun _ => true) false fuel t cs
theorem var_of {l : List (String × DataW Unit)} (h : laidMet Tryz.prog l W) {n : String} {d : DataW Unit} (hm : (n, d) ∈ l) {g t : Nat} (hg : Tryz.prog.globalNamed n = some g) (ht : (Tryz.prog.globals[g]?).map (·.type) = some t) :
    ∃ (c : Array Value) (fuel : Nat) (p : List MemPlace), (∀ (i : Nat) v, c.toList[i]? = some v → W.cell? ⟨g, i, none⟩ = some v) ∧ trodU W fuel t c.toList = some (d, p) := by
  obtain ⟨ps, hv, _⟩ := h
  obtain ⟨g', t', cs, fuel, p, h1, h2, h3, h4⟩ := laidVars_mem hv hm
  obtain rfl := Option.some.inj (hg.symm.trans h1)
  obtain rfl := Option.some.inj (ht.symm.trans h2)
  refine ⟨cs, fuel, p, fun i v hi => ?_, h4⟩
  unfold World.var? at h3
  rw [h1] at h3
  simp only [Option.bind_some] at h3
  unfold World.cell?
  cases hh : W.heap[g]? with
  | none => rw [hh] at h3; cases h3
  | some o =>
    rw [hh] at h3
    cases o with
    | cells c T fz =>
      simp at h3
      subst h3
      simpa using hi
    | _ => simp at h3
theorem trod_fl {fuel : Nat} {t : TypeId} {cs : List Value} {x : DataW Unit × List MemPlace} (ht : Tryz.prog.underlying t = some (.float .f64)) (h : trodU W fuel t cs = some x) : ∃ b, cs = [.float .f64 b] ∧ x = (.lit (.float .f64 b), []) := by
  cases fuel with
  | zero => simp [trodU, DataW.trod] at h
  | succ n =>
    unfold trodU DataW.trod at h
    rw [ht] at h
    split at h <;> simp_all
theorem ce359 : Tryz.prog.cellsOf 359 = 2 := by kernel_rfl
theorem ce360 : Tryz.prog.cellsOf 360 = 1392 := by kernel_rfl
theorem ce214 : Tryz.prog.cellsOf 214 = 1 := by kernel_rfl
theorem get1 {cs : List Value} {o : Nat} {v : Value} (h : (cs.drop o).take 1 = [v]) : cs[o]? = some v := by
 have := congrArg (·[0]?) h
 simpa [List.getElem?_take, List.getElem?_drop] using this
theorem pair_of {fuel : Nat} {cs : List Value} {x : DataW Unit × List MemPlace} {a b : Int} (h : trodU W fuel 359 cs = some x) (hx : x.1 = .agg [.lit (.int .u64 a), .lit (.int .u64 b)]) : cs[0]? = some (.int .u64 a) ∧ cs[1]? = some (.int .u64 b) := by
  obtain ⟨xs, n, _, rfl, _, hl, hf⟩ := DataW.trod_struct Tryz.underlying359 h
  have h0 := hf 0 _ rfl
  have h1 := hf 1 _ rfl
  have hxs : xs.map (·.1) = [.lit (.int .u64 a), .lit (.int .u64 b)] := by
    have := hx
    simpa using this
  match xs, hxs with
  | [y0, y1], hxs =>
    simp only [List.map_cons, List.map_nil, List.cons.injEq, and_true] at hxs
    obtain ⟨m0, e0, f0, _⟩ := DataW.trod_int Tryz.underlying235 h0
    obtain ⟨m1, e1, f1, _⟩ := DataW.trod_int Tryz.underlying235 h1
    subst f0; subst f1
    simp only [DataW.lit.injEq, Lit.int.injEq, true_and] at hxs
    obtain ⟨rfl, rfl⟩ := hxs
    exact ⟨get1 (o := 0) e0, get1 (o := 1) e1⟩
theorem row_of {fuel : Nat} {cs : List Value} {p : List MemPlace} (h : trodU W fuel 360 cs = some (Go.Pinned.pow10Tab, p)) (i : Nat) (hi : i < 696) {a b : Nat} (hr : Go.Pinned.pow10Rows[i]? = some (a, b)) : cs[2 * i]? = some (.int .u64 a) ∧ cs[2 * i + 1]? = some (.int .u64 b) := by
  cases fuel with
  | zero => simp [trodU, DataW.trod] at h
  | succ fuel =>
    simp only [trodU, DataW.trod, Tryz.underlying360, ce359, ce360] at h
    split at h
    · obtain ⟨xs, hm, hx⟩ := Option.map_eq_some_iff.1 h
      obtain ⟨y, hy, hf⟩ := Lib.mapM_at hm i i (by simp [hi])
      have hxs : xs.map (·.1) = Go.Pinned.pow10Rows.map fun x => .agg [.lit (.int .u64 x.1), .lit (.int .u64 x.2)] := by
        have := congrArg Prod.fst hx
        simpa [Go.Pinned.pow10Tab] using this
      have hy1 : y.1 = .agg [.lit (.int .u64 (a : Int)), .lit (.int .u64 (b : Int))] := by
        have := congrArg (·[i]?) hxs
        simp only [List.getElem?_map, hy, hr, Option.map_some, Option.some.injEq] at this
        exact this
      obtain ⟨h0, h1⟩ := pair_of hf hy1
      rw [List.getElem?_take, if_pos (by omega), List.getElem?_drop] at h0 h1
      rw [Nat.mul_comm 2 i]
      exact ⟨h0, h1⟩
    · cases h
theorem p10Tab (i : Nat) (h : i < 20) : Lib.pow10Tab[i]? = some ((10 ^ i : Nat) : Int) := (show ∀ i, i < 20 → Lib.pow10Tab[i]? = some ((10 ^ i : Nat) : Int) by decide) i h
theorem g4 : Tryz.prog.globalNamed "internal/strconv.optimize" = some 4 := by kernel_rfl
theorem g4t : (Tryz.prog.globals[4]?).map (·.type) = some 4 := by kernel_rfl
theorem g5 : Tryz.prog.globalNamed "internal/strconv.float64info" = some 5 := by kernel_rfl
theorem g5t : (Tryz.prog.globals[5]?).map (·.type) = some 305 := by kernel_rfl
theorem g10 : Tryz.prog.globalNamed "internal/strconv.float64pow10" = some 10 := by kernel_rfl
theorem g10t : (Tryz.prog.globals[10]?).map (·.type) = some 349 := by kernel_rfl
theorem g11 : Tryz.prog.globalNamed "internal/strconv.pow10Tab" = some 11 := by kernel_rfl
theorem g11t : (Tryz.prog.globals[11]?).map (·.type) = some 360 := by kernel_rfl
theorem r354 : Go.Pinned.pow10Rows[354]? = some (17592186044416000000, 0) := by kernel_rfl
theorem r355 : Go.Pinned.pow10Rows[355]? = some (10995116277760000000, 0) := by kernel_rfl
theorem ft_of {l : List (String × DataW Unit)} (h : laidMet Tryz.prog l W) (m0 : ("internal/strconv.uint64pow10", Rows.laid_internal_strconv_uint64pow10) ∈ l) (m4 : ("internal/strconv.optimize", Rows.laid_internal_strconv_optimize) ∈ l)
  (m5 : ("internal/strconv.float64info", Rows.laid_internal_strconv_float64info) ∈ l) (m10 : ("internal/strconv.float64pow10", Rows.laid_internal_strconv_float64pow10) ∈ l) (m11 : ("internal/strconv.pow10Tab", Rows.laid_internal_strconv_pow10Tab) ∈ l) :
  ∃ fb, (ftA fb).p W (· < W.heap.size) := by
 obtain ⟨c0, fu0, p0, k0, t0⟩ := var_of h m0 gU gUt
 obtain ⟨c4, fu4, p4, k4, t4⟩ := var_of h m4 g4 g4t
 obtain ⟨c5, fu5, p5, k5, t5⟩ := var_of h m5 g5 g5t
 obtain ⟨c10, fu10, p10, k10, t10⟩ := var_of h m10 g10 g10t
 obtain ⟨c11, fu11, p11, k11, t11⟩ := var_of h m11 g11 g11t
 have e0 := Lib.cells_of_tab (zs := Lib.pow10Tab) Tryz.underlying270 Tryz.underlying235 ce235 ce270 t0
 obtain ⟨b4, e4, f4⟩ := DataW.trod_bool Tryz.underlying4 t4
 have hb4 : b4 = true := by
  have := congrArg Prod.fst f4
  simp only [Rows.laid_internal_strconv_optimize, DataW.lit.injEq, Lit.bool.injEq] at this
  exact this.symm
 obtain ⟨xs5, n5, _, f5, _, _, hf5⟩ := DataW.trod_struct Tryz.underlying305 t5
 have h50 := hf5 0 _ rfl
 have hx5 : (xs5.map (·.1))[0]? = some (.lit (.int .u64 52)) := by
  have := congrArg Prod.fst f5
  simp only [Rows.laid_internal_strconv_float64info, DataW.agg.injEq] at this
  rw [← this]; rfl
 rw [List.getElem?_map] at hx5
 obtain ⟨y5, hy5, hy51⟩ := Option.map_eq_some_iff.1 hx5
 rw [hy5] at h50
 obtain ⟨m5v, e5, fy5, _⟩ := DataW.trod_int Tryz.underlying206 h50
 have hm5 : m5v = 52 := by
  rw [fy5] at hy51
  simp only [DataW.lit.injEq, Lit.int.injEq, true_and] at hy51
  exact hy51
 obtain ⟨h708, h709⟩ := row_of t11 354 (by decide) r354
 obtain ⟨h710, h711⟩ := row_of t11 355 (by decide) r355
 rcases DataW.trod_slice Tryz.underlying349 t10 with ⟨_, hx⟩ | ⟨a, len, cap, elems, rest, n10, _, e10, f10, _, hlc, _, hel, hell, hrest, _⟩
 ·have := congrArg Prod.fst hx
  simp [Rows.laid_internal_strconv_float64pow10] at this
 have hd := congrArg Prod.fst f10
 simp only [Rows.laid_internal_strconv_float64pow10, DataW.slice.injEq] at hd
 obtain ⟨hd1, hd2⟩ := hd
 have hlen : len = 23 := by
  rw [← hel]
  have := congrArg List.length hd1
  simpa using this.symm
 have hcap : cap = 23 := by
  have h1 := (hrest rfl).1
  have h2 : rest = [] := List.map_eq_nil_iff.1 hd2.symm
  rw [h2] at h1
  simp only [List.length_nil] at h1
  omega
 have hfl : ∀ i m, i < 23 → (elems.map (·.1))[i]? = some (.lit (.float .f64 m)) → W.cell? (a.add i) = some (.float .f64 m) := fun i m hi hm => by
  rw [List.getElem?_map] at hm
  obtain ⟨y, hy, hy1⟩ := Option.map_eq_some_iff.1 hm
  have h1 := hell i (by omega)
  rw [hy, ce214, Nat.mul_one] at h1
  obtain ⟨cs, hcs, ht⟩ := Option.bind_eq_some_iff.1 h1
  obtain ⟨q, rfl, fq⟩ := trod_fl Tryz.underlying214 ht
  rw [fq] at hy1
  simp only [DataW.lit.injEq, Lit.float.injEq, true_and] at hy1
  subst hy1
  unfold World.cells? at hcs
  split at hcs
  ·obtain ⟨v, hv, hv2⟩ := Lib.mapM_at hcs 0 0 rfl
   simp only [List.getElem?_cons_zero, Option.some.injEq] at hv
   rw [hv]
   simpa [Addr.add] using hv2
  ·cases hcs
 rw [← hd1] at hfl
 refine ⟨a, tab_of h m0, fun q hq => ?_⟩
 suffices hc : W.cell? q.1 = some q.2 from ⟨lt_of_cell hc, hc⟩
 simp only [ftL, List.cons_append, List.nil_append, List.mem_cons, List.mem_map, List.mem_range] at hq
 rcases hq with rfl | rfl | rfl | rfl | rfl | rfl | rfl | rfl | rfl | rfl | ⟨i, hi, rfl⟩
 ·exact k4 0 _ (by rw [e4, hb4]; rfl)
 ·exact k5 0 _ (by rw [← hm5]; exact get1 (o := 0) e5)
 ·exact k10 0 _ (by rw [e10, hlen, hcap]; rfl)
 ·exact hfl 1 _ (by decide) rfl
 ·exact hfl 2 _ (by decide) rfl
 ·exact hfl 6 _ (by decide) rfl
 ·exact k11 708 _ h708
 ·exact k11 709 _ h709
 ·exact k11 710 _ h710
 ·exact k11 711 _ h711
 ·exact k0 i _ (by rw [e0, List.getElem?_map, p10Tab i hi]; rfl)
end
end Go.Jw

namespace Go.Jw
open Go Go.Proofs Go.Proofs.YtlcfillobkdnmaaGreatDoor
set_option maxRecDepth 100000
theorem ty_later : Tryz.prog.laidByTextLater (Rows.fnTextedRow.laid.take 11) [.data, .data, .widerDeep, .widerDeep, .data, .data, .data, .data, .data, .sentinel, .sentinel] true :=
 Program.laidByTextLater_by_one 91 8 65 (by kernel_rfl) (by kernel_rfl) (by kernel_rfl) (by kernel_rfl) (by kernel_rfl) (by kernel_rfl) (fun _ _ => by kernel_rfl)
theorem ty_pin1 : Tryz.pinned.checked.prog.pinnedFits "internal/strconv.leftcheats" = true := by kernel_rfl
theorem ty_pin2 : Tryz.pinned.checked.prog.pinnedFits "internal/strconv.pow10Tab" = true := by kernel_rfl
theorem ty_own : Tryz.pinned.checked.prog.headLifts.contains "ownunsafe" = false := by kernel_rfl
theorem ty_fits : Tryz.pinned.checked.prog.listedFits Rows.fnTextedRow.laid = true := by
 unfold Program.listedFits
 rw [ty_own]
 kernel_rfl
theorem ty_row (c : OpenClaim) (hl : c.laid = Rows.fnTextedRow.laid) (hs : c.start = .entering) :
    c.laidByTextAt .later Tryz.pinned [.data, .data, .widerDeep, .widerDeep, .data, .data, .data, .data, .data, .sentinel, .sentinel, .pinned, .pinned] true :=
  OpenClaim.laidByTextAt_pinned (by rw [hl]; rfl) hs ty_later rfl (by rw [hl]; rfl) (by rw [hl]; rfl) rfl (fun y hy _e => by
    rw [hl] at hy
    simp only [Rows.fnTextedRow, List.zip_cons_cons, List.zip_nil_right, List.mem_cons, List.mem_nil_iff, or_false] at hy
    rcases hy with rfl | rfl | rfl | rfl | rfl | rfl | rfl | rfl | rfl | rfl | rfl | rfl | rfl
    iterate 11 exact nomatch _e
    exact ⟨ty_pin1, by kernel_rfl⟩
    exact ⟨ty_pin2, by kernel_rfl⟩) (by rw [hl]; exact ty_fits)
end Go.Jw

namespace Go.Jw
open Go Go.RowKit Go.Proofs Go.ChangeShapes Go.WideShapes Go.ChangeAt Go.Proofs.YtlcfillobkdnmaaGreatDoor
set_option maxRecDepth 8000
theorem post_of_below {H : Type} {enc : TypeId × Value → H} {P : Program} {f : Func} {s : ChangeSpec} {apart fresh handsOn again : Bool} {W W' : World} {args : Array Value} {v : Value} {ds gs : List (DataW H)} {before pa pv : List MemPlace}
  (hW : DataW.Whole enc P f.params.toList s.vars apart W args.toList ds gs before)
  (hres : ∀ (b : Nat) (sp : Nat → Bool) (hd : Bool), DataW.TrodAll enc P W' b sp hd f.resultTypes.toList (v.resultList f.resultTypes.size) (s.fn H (ds ++ gs)).results [])
  (hargs : ∀ sp : Nat → Bool, (∀ p ∈ before, sp p.block = true) → DataW.TrodAll enc P W' 0 sp true f.params.toList args.toList (s.fn H (ds ++ gs)).args pa)
  (hvars : ∀ sp : Nat → Bool, (∀ p ∈ before, sp p.block = true) → DataW.TrodVars enc P W' sp s.vars (s.fn H (ds ++ gs)).vars pv)
  (hps : before = pa ++ pv) (hb : Below W.heap.size W W')
  (hok : ∀ (j : Nat) (t : TypeId) (r : Value), f.resultTypes[j]? = some t → (v.resultList f.resultTypes.size)[j]? = some r → Value.okWide P W' .any 0 t r) :
  s.post enc P f apart fresh handsOn again W args v W' := by
 have hlt := hW.lt
 have hold : ∀ p ∈ before, (fun b => decide (b < W.heap.size)) p.block = true := fun p hp => by simpa using hlt p hp
 refine ⟨ds, gs, before, [], pa, pv, hW, hres _ _ _, hargs _ hold, hvars _ hold, hb.frame _, fun _ => ?_⟩
 obtain ⟨_, _, _, _, _, hz, hn⟩ := hW
 refine ⟨hok, _, _, ([] ++ pa) ++ pv, ⟨[] ++ pa, pv, trodAll_append (hargs _ (fun _ _ => rfl)) (hres _ _ _), hvars _ (fun _ _ => rfl), rfl, ?_, ?_⟩, ?_⟩
 ·intro b off hp
  have hp' : MemPlace.cell b off ∈ before := by rw [hps]; simpa using hp
  rw [hb.frozen (p := ⟨b, off, none⟩) (hlt _ hp')]
  exact hz b off hp'
 ·intro ha
  have := hn ha
  rw [hps] at this
  simpa using this
 ·intro p hp _
  rw [hps]
  simpa using hp
theorem own : ownKnob Tryz.prog.godebug = none := by kernel_rfl
theorem rd25 : Tryz.prog.readableRec 25 = true := by kernel_rfl
theorem lt25 : 25 < Tryz.prog.types.size := of_decide_eq_true (by kernel_rfl)
theorem met_eq (W : World) : laidMetH Tryz.prog Rows.fnTextedUptoRow.laid W = laidMet Tryz.prog Rows.fnTextedUptoRow.laid W := by kernel_rfl
end Go.Jw

namespace Go.Jw
open Go Go.RowKit Go.Proofs Go.ChangeShapes Go.WideShapes Go.Proofs.YtlcfillobkdnmaaGreatDoor
set_option maxRecDepth 100000
def setG (h : Array Obj) (g : Nat) (cs : List Value) : Array Obj := h.modify g fun
  | .cells _ t fr => .cells cs.toArray t fr
  | o => o
def wBlocks : Array Obj := #[.cells #[.string ⟨#[105, 110, 118, 97, 108, 105, 100, 32, 115, 121, 110, 116, 97, 120]⟩] 228 (0, 0), .cells #[.string ⟨#[118, 97, 108, 117, 101, 32, 111, 117, 116, 32, 111, 102, 32, 114, 97, 110, 103, 101]⟩] 228 (0, 0),
 .cells ([.float .f32 1065353216, .float .f32 1092616192, .float .f32 1120403456, .float .f32 1148846080, .float .f32 1176256512, .float .f32 1203982336, .float .f32 1232348160, .float .f32 1259902592, .float .f32 1287568416, .float .f32 1315859240, .float .f32 1343554297] : List Value).toArray 288 (0, 0), .cells ([.int .i64 1, .int .i64 3, .int .i64 6, .int .i64 9, .int .i64 13, .int .i64 16, .int .i64 19, .int .i64 23, .int .i64 26] : List Value).toArray 3 (0, 0), .cells ([.float .f64 4607182418800017408, .float .f64 4621819117588971520, .float .f64 4636737291354636288, .float .f64 4652007308841189376, .float .f64 4666723172467343360, .float .f64 4681608360884174848, .float .f64 4696837146684686336, .float .f64 4711630319722168320, .float .f64 4726483295884279808, .float .f64 4741671816366391296, .float .f64 4756540486875873280, .float .f64 4771362005757984768, .float .f64 4786511204640096256, .float .f64 4801453603149578240, .float .f64 4816244402031689728, .float .f64 4831355200913801216, .float .f64 4846369599423283200, .float .f64 4861130398305394688, .float .f64 4876203697187506176, .float .f64 4891288408196988160, .float .f64 4906019910204099648, .float .f64 4921056587992461136, .float .f64 4936209963552724370] : List Value).toArray 214 (0, 0),
 .cells (Pinned.cheatRows.flatMap fun x => [Value.int .i64 x.1, Value.string ⟨x.2.toArray⟩]).toArray 365 (0, 0)]
noncomputable def laidWorld (os : Os) : World := { World.holding Tryz.prog os ⟨wBlocks, #[], []⟩ with heap := (setG (setG (setG (setG (setG (setG (setG (setG (setG (setG (setG (setG (setG (World.holding Tryz.prog os ⟨wBlocks, #[], []⟩).heap 0 [.int .u64 1, .int .u64 10, .int .u64 100, .int .u64 1000, .int .u64 10000, .int .u64 100000, .int .u64 1000000, .int .u64 10000000, .int .u64 100000000, .int .u64 1000000000, .int .u64 10000000000, .int .u64 100000000000, .int .u64 1000000000000, .int .u64 10000000000000, .int .u64 100000000000000, .int .u64 1000000000000000, .int .u64 10000000000000000, .int .u64 100000000000000000, .int .u64 1000000000000000000, .int .u64 10000000000000000000]) 1 [.iface 226 (.pointer (some ⟨18, 0, none⟩))]) 2 [.iface 226 (.pointer (some ⟨19, 0, none⟩))]) 3 [.int .u64 23, .int .u64 8, .int .i64 (-127)]) 4 [.bool true]) 5 [.int .u64 52, .int .u64 11, .int .i64 (-1023)]) 6 [.int .u8 0, .int .u8 1, .int .u8 28, .int .u8 2, .int .u8 29, .int .u8 14, .int .u8 24, .int .u8 3, .int .u8 30, .int .u8 22, .int .u8 20, .int .u8 15, .int .u8 25, .int .u8 17, .int .u8 4, .int .u8 8, .int .u8 31, .int .u8 27, .int .u8 13, .int .u8 23, .int .u8 21, .int .u8 19, .int .u8 16, .int .u8 7, .int .u8 26, .int .u8 12, .int .u8 18, .int .u8 6, .int .u8 11, .int .u8 5, .int .u8 10, .int .u8 9]) 7 [.int .u8 0, .int .u8 1, .int .u8 56, .int .u8 2, .int .u8 57, .int .u8 49, .int .u8 28, .int .u8 3, .int .u8 61, .int .u8 58, .int .u8 42, .int .u8 50, .int .u8 38, .int .u8 29, .int .u8 17, .int .u8 4, .int .u8 62, .int .u8 47, .int .u8 59, .int .u8 36, .int .u8 45, .int .u8 43, .int .u8 51, .int .u8 22, .int .u8 53, .int .u8 39, .int .u8 33, .int .u8 30, .int .u8 24, .int .u8 18, .int .u8 12, .int .u8 5, .int .u8 63, .int .u8 55, .int .u8 48, .int .u8 27, .int .u8 60, .int .u8 41, .int .u8 37, .int .u8 16, .int .u8 46, .int .u8 35, .int .u8 44, .int .u8 21, .int .u8 52, .int .u8 32, .int .u8 23, .int .u8 11, .int .u8 54, .int .u8 26, .int .u8 40, .int .u8 15, .int .u8 34, .int .u8 20, .int .u8 31, .int .u8 10, .int .u8 25, .int .u8 14, .int .u8 19, .int .u8 9, .int .u8 13, .int .u8 8, .int .u8 7, .int .u8 6]) 8 [.slice (some ⟨20, 0, none⟩) 11 11]) 9 [.slice (some ⟨21, 0, none⟩) 9 9]) 10 [.slice (some ⟨22, 0, none⟩) 23 23]) 11 (Pinned.pow10Rows.flatMap fun x => [Value.int .u64 x.1, Value.int .u64 x.2])) 12 [.slice (some ⟨23, 0, none⟩) Pinned.cheatRows.length Pinned.cheatRows.length]) }
def inB (bs : List Nat) (ps : List MemPlace) : Bool := ps.all fun
  | .cell b _ => bs.contains b
  | .map _ => true
end Go.Jw

namespace Go.Jw
open Go Go.RowKit Go.Proofs Go.Proofs.YtlcfillobkdnmaaGreatDoor
set_option maxRecDepth 100000
theorem okRow_of {P : Program} {w : World} {t u : TypeId} {cs : List Value} {n : Nat} (ht : P.cellTypes P.depth t = some (List.replicate n u)) (hn : cs.length = n) (h0 : 0 < n) (h : cs.all (Cell.okRefB P w u) = true) : Row.okRefB P w t cs.toArray = true := by
 unfold Row.okRefB
 rw [ht]
 simp only [List.length_replicate, List.size_toArray, Bool.and_eq_true, List.all_eq_true, List.mem_range]
 refine ⟨by rw [hn]; simp, fun i hi => ?_⟩
 have hm : i % n < n := Nat.mod_lt _ h0
 rw [List.getElem?_toArray, List.getElem?_eq_getElem hi, List.getElem?_replicate, if_pos hm]
 exact List.all_eq_true.1 h _ (List.getElem_mem hi)
def oneB (P : Program) (w₀ w : World) (g : Nat) : Bool := match (w₀.heap[g]?).bind Obj.row? with
  | none => true
  | some (zero, t) => match w.heap[g]? with
    | some (.cells cs t' frozen) => decide (t' = t) && decide (frozen = (0, 0)) && cs.size == zero.size && (!P.buildable t || Row.okRefB P w t cs)
    | _ => false
theorem vars_of {P : Program} {w : World} (h : ∀ g, g < P.globals.size → oneB P (begin P (fun _ _ => 0) default).world w g = true) : w.variablesRefB P = true := by
 unfold World.variablesRefB
 exact List.all_eq_true.2 fun g hg => h g (List.mem_range.1 hg)
theorem oneB_of {P : Program} {w₀ w : World} {g : Nat} {zero : Array Value} {t : TypeId} {cs : List Value} (h0 : (w₀.heap[g]?).bind Obj.row? = some (zero, t)) (h1 : w.heap[g]? = some (.cells cs.toArray t (0, 0))) (hz : cs.length = zero.size) (h2 : Row.okRefB P w t cs.toArray = true) : oneB P w₀ w g = true := by
 unfold oneB
 rw [h0, h1]
 simp [hz, h2]
theorem vg0 (os : Os) (args : Array Value) : oneB Tryz.prog (begin Tryz.prog (fun _ _ => 0) default).world ((laidWorld os).forCall (fun _ _ => 0) ⟨#[], args, []⟩) 0 = true := by kernel_rfl
theorem vg1 (os : Os) (args : Array Value) : oneB Tryz.prog (begin Tryz.prog (fun _ _ => 0) default).world ((laidWorld os).forCall (fun _ _ => 0) ⟨#[], args, []⟩) 1 = true := by kernel_rfl
theorem vg2 (os : Os) (args : Array Value) : oneB Tryz.prog (begin Tryz.prog (fun _ _ => 0) default).world ((laidWorld os).forCall (fun _ _ => 0) ⟨#[], args, []⟩) 2 = true := by kernel_rfl
theorem vg3 (os : Os) (args : Array Value) : oneB Tryz.prog (begin Tryz.prog (fun _ _ => 0) default).world ((laidWorld os).forCall (fun _ _ => 0) ⟨#[], args, []⟩) 3 = true := by kernel_rfl
theorem vg4 (os : Os) (args : Array Value) : oneB Tryz.prog (begin Tryz.prog (fun _ _ => 0) default).world ((laidWorld os).forCall (fun _ _ => 0) ⟨#[], args, []⟩) 4 = true := by kernel_rfl
theorem vg5 (os : Os) (args : Array Value) : oneB Tryz.prog (begin Tryz.prog (fun _ _ => 0) default).world ((laidWorld os).forCall (fun _ _ => 0) ⟨#[], args, []⟩) 5 = true := by kernel_rfl
theorem vg6 (os : Os) (args : Array Value) : oneB Tryz.prog (begin Tryz.prog (fun _ _ => 0) default).world ((laidWorld os).forCall (fun _ _ => 0) ⟨#[], args, []⟩) 6 = true := by kernel_rfl
theorem vg7 (os : Os) (args : Array Value) : oneB Tryz.prog (begin Tryz.prog (fun _ _ => 0) default).world ((laidWorld os).forCall (fun _ _ => 0) ⟨#[], args, []⟩) 7 = true := by kernel_rfl
theorem vg8 (os : Os) (args : Array Value) : oneB Tryz.prog (begin Tryz.prog (fun _ _ => 0) default).world ((laidWorld os).forCall (fun _ _ => 0) ⟨#[], args, []⟩) 8 = true := by kernel_rfl
theorem vg9 (os : Os) (args : Array Value) : oneB Tryz.prog (begin Tryz.prog (fun _ _ => 0) default).world ((laidWorld os).forCall (fun _ _ => 0) ⟨#[], args, []⟩) 9 = true := by kernel_rfl
theorem vg10 (os : Os) (args : Array Value) : oneB Tryz.prog (begin Tryz.prog (fun _ _ => 0) default).world ((laidWorld os).forCall (fun _ _ => 0) ⟨#[], args, []⟩) 10 = true := by kernel_rfl
theorem vg12 (os : Os) (args : Array Value) : oneB Tryz.prog (begin Tryz.prog (fun _ _ => 0) default).world ((laidWorld os).forCall (fun _ _ => 0) ⟨#[], args, []⟩) 12 = true := by kernel_rfl
def pw : List Value := Pinned.pow10Rows.flatMap fun x => [Value.int .u64 x.1, Value.int .u64 x.2]
theorem v11z : ∃ zero, ((begin Tryz.prog (fun _ _ => 0) default).world.heap[11]?).bind Obj.row? = some (zero, 360) ∧ zero.size = 1392 := ⟨(Array.replicate 1392 (.int .u64 0)), by kernel_rfl, by kernel_rfl⟩
theorem v11h (os : Os) (args : Array Value) : ((laidWorld os).forCall (fun _ _ => 0) ⟨#[], args, []⟩).heap[11]? = some (.cells pw.toArray 360 (0, 0)) := by kernel_rfl
theorem v11t : Tryz.prog.cellTypes Tryz.prog.depth 360 = some (List.replicate 1392 235) := by kernel_rfl
theorem v11l : pw.length = 1392 := by kernel_rfl
theorem v11a (w : World) : pw.all (Cell.okRefB Tryz.prog w 235) = true := by kernel_rfl
theorem vg11 (os : Os) (args : Array Value) : oneB Tryz.prog (begin Tryz.prog (fun _ _ => 0) default).world ((laidWorld os).forCall (fun _ _ => 0) ⟨#[], args, []⟩) 11 = true := by
 obtain ⟨z, h0, hz⟩ := v11z
 exact oneB_of h0 (v11h os args) (by rw [hz]; exact v11l) (okRow_of v11t v11l (by decide) (v11a _))
theorem vars_ref (os : Os) (args : Array Value) : World.variablesRefB Tryz.prog ((laidWorld os).forCall (fun _ _ => 0) ⟨#[], args, []⟩) = true := vars_of fun g hg => by
  have h13 : Tryz.prog.globals.size = 13 := by kernel_rfl
  rw [h13] at hg
  match g, hg with
  | 0, _ => exact vg0 os args
  | 1, _ => exact vg1 os args
  | 2, _ => exact vg2 os args
  | 3, _ => exact vg3 os args
  | 4, _ => exact vg4 os args
  | 5, _ => exact vg5 os args
  | 6, _ => exact vg6 os args
  | 7, _ => exact vg7 os args
  | 8, _ => exact vg8 os args
  | 9, _ => exact vg9 os args
  | 10, _ => exact vg10 os args
  | 11, _ => exact vg11 os args
  | 12, _ => exact vg12 os args
end Go.Jw

namespace Go.Jw
open Go Go.RowKit Go.Proofs Go.ChangeShapes Go.WideShapes Go.Proofs.YtlcfillobkdnmaaGreatDoor
set_option maxRecDepth 100000
section
variable {P : Program} {w : World}
theorem wmapM_some {α β : Type} {f : α → Option β} {h : α → β} : ∀ (l : List α), (∀ x ∈ l, f x = some (h x)) → l.mapM f = some (l.map h)
  | [], _ => rfl
  | a :: l, H => by
    rw [List.mapM_cons, H a List.mem_cons_self, wmapM_some l (fun x hx => H x (List.mem_cons_of_mem _ hx))]
    rfl
theorem wcell_lit {b off : Nat} {T : TypeId} {cs : List Value} (h : w.heap[b]? = some (.cells cs.toArray T (0, 0))) : w.cell? ⟨b, off, none⟩ = cs[off]? := by
 unfold World.cell?
 simp [h]
theorem wcells_lit {b off n : Nat} {T : TypeId} {cs : List Value} (h : w.heap[b]? = some (.cells cs.toArray T (0, 0))) (hn : off + n ≤ cs.length) : w.cells? 0 ⟨b, off, none⟩ n = some ((cs.drop off).take n) := by
  unfold World.cells?
  rw [if_pos (Nat.zero_le _), wmapM_some (h := fun i => cs.getD (off + i) (.bool false)) (List.range n) (fun i hi => ?_)]
  · congr 1
    apply List.ext_getElem?
    intro j
    rw [List.getElem?_map, List.getElem?_take, List.getElem?_drop]
    by_cases hj : j < n
    · rw [if_pos hj, List.getElem?_range hj]
      simp [List.getD_eq_getElem?_getD, List.getElem?_eq_getElem (show off + j < cs.length by omega)]
    · rw [if_neg hj, List.getElem?_eq_none (by simpa using hj)]
      rfl
  · have hi' := List.mem_range.1 hi
    have : (⟨b, off, none⟩ : Addr).add i = ⟨b, off + i, none⟩ := by
      unfold Addr.add
      by_cases h0 : i = 0
      · subst h0; rfl
      · rw [if_neg h0]
    rw [this, wcell_lit h, List.getD_eq_getElem?_getD, List.getElem?_eq_getElem (show off + i < cs.length by omega)]
    rfl
variable {H : Type} {enc : TypeId × Value → H} {sp : Nat → Bool} {held : Bool}
theorem trod_sliceL {fuel : Nat} {t e : TypeId} {b n k : Nat} {T : TypeId} {cs : List Value} {g : Nat → DataW H} (ht : P.underlying t = some (.slice e)) (hk : P.cellsOf e = k) (hb : w.heap[b]? = some (.cells cs.toArray T (0, 0))) (hl : cs.length = n * k) (hn : n ≤ maxLen)
  (he : ∀ i, i < n → DataW.trod enc P w 0 sp held fuel e ((cs.drop (i * k)).take k) = some (g i, [])) : DataW.trod enc P w 0 sp held (fuel + 1) t [.slice (some ⟨b, 0, none⟩) n n] = some (.slice ((List.range n).map g) [], MemPlace.row ⟨b, 0, none⟩ (n * k)) := by
 subst hk
 have hel : ∀ i ∈ List.range n, (w.cells? 0 ((⟨b, 0, none⟩ : Addr).add (i * P.cellsOf e)) (P.cellsOf e)).bind (DataW.trod enc P w 0 sp held fuel e) = some ((g i, []) : DataW H × List MemPlace) := by
  intro i hi
  have hi' := List.mem_range.1 hi
  have : (⟨b, 0, none⟩ : Addr).add (i * P.cellsOf e) = ⟨b, i * P.cellsOf e, none⟩ := by
   unfold Addr.add
   by_cases h0 : i * P.cellsOf e = 0
   ·rw [if_pos h0, h0]
   ·rw [if_neg h0, Nat.zero_add]
  have hle : i * P.cellsOf e + P.cellsOf e ≤ cs.length := by
   rw [hl]
   have := Nat.mul_le_mul_right (P.cellsOf e) (show i + 1 ≤ n by omega)
   rw [Nat.succ_mul] at this
   exact this
  rw [this, wcells_lit hb hle, Option.bind_some, he i hi']
 unfold DataW.trod
 simp only [ht]
 rw [if_pos ⟨Nat.zero_le _, Nat.le_refl _, hn⟩, wmapM_some _ hel]
 simp [Nat.sub_self]
theorem trod_arrayL {fuel : Nat} {t e : TypeId} {n k : Nat} {cs : List Value} {g : Nat → DataW H} (ht : P.underlying t = some (.array n e)) (hk : P.cellsOf e = k) (hl : cs.length = P.cellsOf t)
  (he : ∀ i, i < n → DataW.trod enc P w 0 sp held fuel e ((cs.drop (i * k)).take k) = some (g i, [])) : DataW.trod enc P w 0 sp held (fuel + 1) t cs = some (.agg ((List.range n).map g), []) := by
 subst hk
 have hel : ∀ i ∈ List.range n, DataW.trod enc P w 0 sp held fuel e ((cs.drop (i * P.cellsOf e)).take (P.cellsOf e)) = some ((g i, []) : DataW H × List MemPlace) := fun i hi => he i (List.mem_range.1 hi)
 unfold DataW.trod
 simp only [ht]
 rw [if_pos hl, wmapM_some _ hel]
 simp
theorem uE {n : String} {d : DataW Unit} {r : List (String × DataW Unit)} {p q : List MemPlace} {g t T : Nat} {cs : List Value} (fuel : Nat) (hg : P.globalNamed n = some g) (ht : (P.globals[g]?).map (·.type) = some t) (hh : w.heap[g]? = some (.cells cs.toArray T (0, 0)))
  (hd : DataW.trod (fun _ => ()) P w 0 (fun _ => true) false fuel t cs = some (d, p)) (hr : DataW.LaidVars P w r q) : DataW.LaidVars P w ((n, d) :: r) (MemPlace.row ⟨g, 0, none⟩ cs.length ++ p ++ q) :=
 ⟨g, t, cs.toArray, fuel, p, q, hg, ht, by unfold World.var?; rw [hg]; simp [hh], by simpa using hd, hr, by simp⟩
def wplainB : Value → Bool
  | .iface .. => false
  | _ => true
theorem wJ {b off : Nat} {T : TypeId} {cs : List Value} (h : w.heap[b]? = some (.cells cs.toArray T (0, 0))) (hn : cs.all wplainB = true) :
  (∃ c t, w.heap[b]? = some (.cells c t (0, 0))) ∧ ∀ u v, w.cell? ⟨b, off, none⟩ = some (.iface u v) → Value.okWide P w .any 0 u v := by
 refine ⟨⟨_, _, h⟩, fun u v hc => ?_⟩
 rw [wcell_lit h] at hc
 have := List.all_eq_true.1 hn _ (List.mem_of_getElem? hc)
 cases this
theorem wgood_one {b off : Nat} {T u : TypeId} {v : Value} (h : w.heap[b]? = some (.cells [.iface u v].toArray T (0, 0))) (hn : Value.okWideB P w u v = true) :
  (∃ c t, w.heap[b]? = some (.cells c t (0, 0))) ∧ ∀ u' v', w.cell? ⟨b, off, none⟩ = some (.iface u' v') → Value.okWide P w .any 0 u' v' := by
 refine ⟨⟨_, _, h⟩, fun u' v' hc => ?_⟩
 rw [wcell_lit h] at hc
 have := List.mem_of_getElem? hc
 simp only [List.mem_singleton, Value.iface.injEq] at this
 obtain ⟨rfl, rfl⟩ := this
 exact Value.okWide_of_okWideB hn
end
theorem wflat_at {α : Type} (f : α → List Value) (k : Nat) (hf : ∀ x, (f x).length = k) : ∀ (l : List α) (i : Nat) (h : i < l.length), ((l.flatMap f).drop (i * k)).take k = f l[i]
  | [], i, h => by simp at h
  | x :: l, 0, _ => by simp [List.flatMap_cons, ← hf x]
  | x :: l, i + 1, h => by
    rw [List.flatMap_cons, Nat.succ_mul, Nat.add_comm, ← List.drop_drop, List.drop_append_of_le_length (by rw [hf x]; exact Nat.le_refl _), ← hf x, List.drop_length, List.nil_append, hf x]
    exact wflat_at f k hf l i (by simpa using h)
theorem wflat_len {α : Type} (f : α → List Value) (k : Nat) (hf : ∀ x, (f x).length = k) (l : List α) : (l.flatMap f).length = l.length * k := by
  induction l with
  | nil => simp
  | cons x l ih => rw [List.flatMap_cons, List.length_append, hf, ih, List.length_cons, Nat.succ_mul, Nat.add_comm]
theorem wrange_get {α β : Type} [Inhabited α] (f : α → β) (l : List α) : (List.range l.length).map (fun i => f (l.getD i default)) = l.map f := by
  apply List.ext_getElem?
  intro j
  rw [List.getElem?_map, List.getElem?_map]
  by_cases h : j < l.length
  · rw [List.getElem?_range h, List.getElem?_eq_getElem h]
    simp [List.getD_eq_getElem?_getD, h]
  · rw [List.getElem?_eq_none (by simpa using h), List.getElem?_eq_none (by simpa using h)]
    rfl
def wlitOf : Value → DataW Unit
  | .int k n => .lit (.int k n)
  | .float k b => .lit (.float k b)
  | _ => .nil
def wlitB (d : TypeDesc) : Value → Bool
  | .int k n => (match d with | .int k' => decide (k = k') | _ => false) && (Lit.int k n).wf
  | .float k n => (match d with | .float k' => decide (k = k') | _ => false) && (Lit.float k n).wf
  | _ => false
theorem wtrod_lit {P : Program} {w : World} {sp : Nat → Bool} {held : Bool} {fuel : Nat} {e : TypeId} {d : TypeDesc} {v : Value} (he : P.underlying e = some d) (h : wlitB d v = true) : DataW.trod (fun _ => ()) P w 0 sp held (fuel + 1) e [v] = some (wlitOf v, []) := by
 unfold DataW.trod
 cases v <;> simp [wlitB] at h <;> cases d <;> simp at h <;> (obtain ⟨rfl, h2⟩ := h; simp [he, wlitOf, h2])
theorem trod_slitsL {P : Program} {w : World} {fuel : Nat} {t e : TypeId} {d : TypeDesc} {b n : Nat} {T : TypeId} {cs : List Value} (ht : P.underlying t = some (.slice e)) (he : P.underlying e = some d) (hk : P.cellsOf e = 1) (hb : w.heap[b]? = some (.cells cs.toArray T (0, 0))) (hl : cs.length = n) (hn : n ≤ maxLen) (hs : cs.all (wlitB d) = true) :
    DataW.trod (fun _ => ()) P w 0 (fun _ => true) false (fuel + 2) t [.slice (some ⟨b, 0, none⟩) n n] = some (.slice (cs.map wlitOf) [], MemPlace.row ⟨b, 0, none⟩ n) := by
  subst hl
  have := trod_sliceL (P := P) (w := w) (enc := fun _ => ()) (sp := fun _ => true) (held := false) (fuel := fuel + 1) (k := 1) (n := cs.length) (g := fun i => wlitOf (cs.getD i (.bool false))) ht hk hb (by omega) hn (fun i hi => by
    have h1 : (cs.drop (i * 1)).take 1 = [cs[i]] := by rw [Nat.mul_one, List.drop_eq_getElem_cons hi]; rfl
    rw [h1, wtrod_lit he (List.all_eq_true.1 hs _ (List.getElem_mem hi)), List.getD_eq_getElem?_getD, List.getElem?_eq_getElem hi]
    rfl)
  rw [this, Nat.mul_one]
  congr 2
  have h2 : (List.range cs.length).map (fun i => wlitOf (cs.getD i (.bool false))) = cs.map wlitOf := @wrange_get _ _ ⟨.bool false⟩ wlitOf cs
  rw [h2]
def pwF (x : Nat × Nat) : List Value := [Value.int .u64 x.1, Value.int .u64 x.2]
def chF (x : Nat × List UInt8) : List Value := [Value.int .i64 x.1, Value.string ⟨x.2.toArray⟩]
def wc0 : List Value := [.int .u64 1, .int .u64 10, .int .u64 100, .int .u64 1000, .int .u64 10000, .int .u64 100000, .int .u64 1000000, .int .u64 10000000, .int .u64 100000000, .int .u64 1000000000, .int .u64 10000000000, .int .u64 100000000000, .int .u64 1000000000000, .int .u64 10000000000000, .int .u64 100000000000000, .int .u64 1000000000000000, .int .u64 10000000000000000, .int .u64 100000000000000000, .int .u64 1000000000000000000, .int .u64 10000000000000000000]
def wc1 : List Value := [.iface 226 (.pointer (some ⟨18, 0, none⟩))]
def wc2 : List Value := [.iface 226 (.pointer (some ⟨19, 0, none⟩))]
def wc3 : List Value := [.int .u64 23, .int .u64 8, .int .i64 (-127)]
def wc4 : List Value := [.bool true]
def wc5 : List Value := [.int .u64 52, .int .u64 11, .int .i64 (-1023)]
def wc6 : List Value := [.int .u8 0, .int .u8 1, .int .u8 28, .int .u8 2, .int .u8 29, .int .u8 14, .int .u8 24, .int .u8 3, .int .u8 30, .int .u8 22, .int .u8 20, .int .u8 15, .int .u8 25, .int .u8 17, .int .u8 4, .int .u8 8, .int .u8 31, .int .u8 27, .int .u8 13, .int .u8 23, .int .u8 21, .int .u8 19, .int .u8 16, .int .u8 7, .int .u8 26, .int .u8 12, .int .u8 18, .int .u8 6, .int .u8 11, .int .u8 5, .int .u8 10, .int .u8 9]
def wc7 : List Value := [.int .u8 0, .int .u8 1, .int .u8 56, .int .u8 2, .int .u8 57, .int .u8 49, .int .u8 28, .int .u8 3, .int .u8 61, .int .u8 58, .int .u8 42, .int .u8 50, .int .u8 38, .int .u8 29, .int .u8 17, .int .u8 4, .int .u8 62, .int .u8 47, .int .u8 59, .int .u8 36, .int .u8 45, .int .u8 43, .int .u8 51, .int .u8 22, .int .u8 53, .int .u8 39, .int .u8 33, .int .u8 30, .int .u8 24, .int .u8 18, .int .u8 12, .int .u8 5, .int .u8 63, .int .u8 55, .int .u8 48, .int .u8 27, .int .u8 60, .int .u8 41, .int .u8 37, .int .u8 16, .int .u8 46, .int .u8 35, .int .u8 44, .int .u8 21, .int .u8 52, .int .u8 32, .int .u8 23, .int .u8 11, .int .u8 54, .int .u8 26, .int .u8 40, .int .u8 15, .int .u8 34, .int .u8 20, .int .u8 31, .int .u8 10, .int .u8 25, .int .u8 14, .int .u8 19, .int .u8 9, .int .u8 13, .int .u8 8, .int .u8 7, .int .u8 6]
def wc8 : List Value := [.slice (some ⟨20, 0, none⟩) 11 11]
def wc9 : List Value := [.slice (some ⟨21, 0, none⟩) 9 9]
def wc10 : List Value := [.slice (some ⟨22, 0, none⟩) 23 23]
def wc11 : List Value := Pinned.pow10Rows.flatMap pwF
def wc12 : List Value := [.slice (some ⟨23, 0, none⟩) Pinned.cheatRows.length Pinned.cheatRows.length]
def wc18 : List Value := [.string ⟨#[105, 110, 118, 97, 108, 105, 100, 32, 115, 121, 110, 116, 97, 120]⟩]
def wc19 : List Value := [.string ⟨#[118, 97, 108, 117, 101, 32, 111, 117, 116, 32, 111, 102, 32, 114, 97, 110, 103, 101]⟩]
def wc20 : List Value := [.float .f32 1065353216, .float .f32 1092616192, .float .f32 1120403456, .float .f32 1148846080, .float .f32 1176256512, .float .f32 1203982336, .float .f32 1232348160, .float .f32 1259902592, .float .f32 1287568416, .float .f32 1315859240, .float .f32 1343554297]
def wc21 : List Value := [.int .i64 1, .int .i64 3, .int .i64 6, .int .i64 9, .int .i64 13, .int .i64 16, .int .i64 19, .int .i64 23, .int .i64 26]
def wc22 : List Value := [.float .f64 4607182418800017408, .float .f64 4621819117588971520, .float .f64 4636737291354636288, .float .f64 4652007308841189376, .float .f64 4666723172467343360, .float .f64 4681608360884174848, .float .f64 4696837146684686336, .float .f64 4711630319722168320, .float .f64 4726483295884279808, .float .f64 4741671816366391296, .float .f64 4756540486875873280, .float .f64 4771362005757984768, .float .f64 4786511204640096256, .float .f64 4801453603149578240, .float .f64 4816244402031689728, .float .f64 4831355200913801216, .float .f64 4846369599423283200, .float .f64 4861130398305394688, .float .f64 4876203697187506176, .float .f64 4891288408196988160, .float .f64 4906019910204099648, .float .f64 4921056587992461136, .float .f64 4936209963552724370]
def wc23 : List Value := Pinned.cheatRows.flatMap chF
noncomputable def wW (os : Os) (args : Array Value) : World := ((laidWorld os).forCall (fun _ _ => 0) ⟨#[], args, []⟩).memory
theorem wh0 (os : Os) (args : Array Value) : (wW os args).heap[0]? = some (.cells wc0.toArray 270 (0, 0)) := by kernel_rfl
theorem wh1 (os : Os) (args : Array Value) : (wW os args).heap[1]? = some (.cells wc1.toArray 77 (0, 0)) := by kernel_rfl
theorem wh2 (os : Os) (args : Array Value) : (wW os args).heap[2]? = some (.cells wc2.toArray 77 (0, 0)) := by kernel_rfl
theorem wh3 (os : Os) (args : Array Value) : (wW os args).heap[3]? = some (.cells wc3.toArray 305 (0, 0)) := by kernel_rfl
theorem wh4 (os : Os) (args : Array Value) : (wW os args).heap[4]? = some (.cells wc4.toArray 4 (0, 0)) := by kernel_rfl
theorem wh5 (os : Os) (args : Array Value) : (wW os args).heap[5]? = some (.cells wc5.toArray 305 (0, 0)) := by kernel_rfl
theorem wh6 (os : Os) (args : Array Value) : (wW os args).heap[6]? = some (.cells wc6.toArray 323 (0, 0)) := by kernel_rfl
theorem wh7 (os : Os) (args : Array Value) : (wW os args).heap[7]? = some (.cells wc7.toArray 324 (0, 0)) := by kernel_rfl
theorem wh8 (os : Os) (args : Array Value) : (wW os args).heap[8]? = some (.cells wc8.toArray 340 (0, 0)) := by kernel_rfl
theorem wh9 (os : Os) (args : Array Value) : (wW os args).heap[9]? = some (.cells wc9.toArray 139 (0, 0)) := by kernel_rfl
theorem wh10 (os : Os) (args : Array Value) : (wW os args).heap[10]? = some (.cells wc10.toArray 349 (0, 0)) := by kernel_rfl
theorem wh11 (os : Os) (args : Array Value) : (wW os args).heap[11]? = some (.cells wc11.toArray 360 (0, 0)) := by kernel_rfl
theorem wh12 (os : Os) (args : Array Value) : (wW os args).heap[12]? = some (.cells wc12.toArray 366 (0, 0)) := by kernel_rfl
theorem wh18 (os : Os) (args : Array Value) : (wW os args).heap[18]? = some (.cells wc18.toArray 228 (0, 0)) := by kernel_rfl
theorem wh19 (os : Os) (args : Array Value) : (wW os args).heap[19]? = some (.cells wc19.toArray 228 (0, 0)) := by kernel_rfl
theorem wh20 (os : Os) (args : Array Value) : (wW os args).heap[20]? = some (.cells wc20.toArray 288 (0, 0)) := by kernel_rfl
theorem wh21 (os : Os) (args : Array Value) : (wW os args).heap[21]? = some (.cells wc21.toArray 3 (0, 0)) := by kernel_rfl
theorem wh22 (os : Os) (args : Array Value) : (wW os args).heap[22]? = some (.cells wc22.toArray 214 (0, 0)) := by kernel_rfl
theorem wh23 (os : Os) (args : Array Value) : (wW os args).heap[23]? = some (.cells wc23.toArray 365 (0, 0)) := by kernel_rfl
theorem wt0 (w : World) : DataW.trod (fun _ => ()) Tryz.prog w 0 (fun _ => true) false 8 270 wc0 = some (Rows.laid_internal_strconv_uint64pow10, []) := by kernel_rfl
theorem wt3 (w : World) : DataW.trod (fun _ => ()) Tryz.prog w 0 (fun _ => true) false 8 305 wc3 = some (Rows.laid_internal_strconv_float32info, []) := by kernel_rfl
theorem wt4 (w : World) : DataW.trod (fun _ => ()) Tryz.prog w 0 (fun _ => true) false 8 4 wc4 = some (Rows.laid_internal_strconv_optimize, []) := by kernel_rfl
theorem wt5 (w : World) : DataW.trod (fun _ => ()) Tryz.prog w 0 (fun _ => true) false 8 305 wc5 = some (Rows.laid_internal_strconv_float64info, []) := by kernel_rfl
theorem wt6 (w : World) : DataW.trod (fun _ => ()) Tryz.prog w 0 (fun _ => true) false 8 323 wc6 = some (Rows.laid_math_bits_deBruijn32tab, []) := by kernel_rfl
theorem wt7 (w : World) : DataW.trod (fun _ => ()) Tryz.prog w 0 (fun _ => true) false 8 324 wc7 = some (Rows.laid_math_bits_deBruijn64tab, []) := by kernel_rfl
theorem wt8 (os : Os) (args : Array Value) : DataW.trod (fun _ => ()) Tryz.prog (wW os args) 0 (fun _ => true) false 8 340 wc8 = some (Rows.laid_internal_strconv_float32pow10, MemPlace.row ⟨20, 0, none⟩ 11) :=
 (trod_slitsL (fuel := 6) (e := 288) (d := .float .f32) (cs := wc20) (n := 11) (by kernel_rfl) (by kernel_rfl) (by kernel_rfl) (wh20 os args) rfl (by unfold maxLen; omega) (by kernel_rfl)).trans (by kernel_rfl)
theorem wt9 (os : Os) (args : Array Value) : DataW.trod (fun _ => ()) Tryz.prog (wW os args) 0 (fun _ => true) false 8 139 wc9 = some (Rows.laid_internal_strconv_powtab, MemPlace.row ⟨21, 0, none⟩ 9) :=
 (trod_slitsL (fuel := 6) (e := 3) (d := .int .i64) (cs := wc21) (n := 9) (by kernel_rfl) (by kernel_rfl) (by kernel_rfl) (wh21 os args) rfl (by unfold maxLen; omega) (by kernel_rfl)).trans (by kernel_rfl)
theorem wt10 (os : Os) (args : Array Value) : DataW.trod (fun _ => ()) Tryz.prog (wW os args) 0 (fun _ => true) false 8 349 wc10 = some (Rows.laid_internal_strconv_float64pow10, MemPlace.row ⟨22, 0, none⟩ 23) :=
 (trod_slitsL (fuel := 6) (e := 214) (d := .float .f64) (cs := wc22) (n := 23) (by kernel_rfl) (by kernel_rfl) (by kernel_rfl) (wh22 os args) rfl (by unfold maxLen; omega) (by kernel_rfl)).trans (by kernel_rfl)
theorem wt1 (os : Os) (args : Array Value) : DataW.trod (fun _ => ()) Tryz.prog (wW os args) 0 (fun _ => true) false 8 77 wc1 = some (Rows.laid_strconv_ErrSyntax, MemPlace.row ⟨18, 0, none⟩ 1) := by kernel_rfl
theorem wo1 (os : Os) (args : Array Value) : Value.okWideB Tryz.prog (wW os args) 226 (.pointer (some ⟨18, 0, none⟩)) = true := by kernel_rfl
theorem wt2 (os : Os) (args : Array Value) : DataW.trod (fun _ => ()) Tryz.prog (wW os args) 0 (fun _ => true) false 8 77 wc2 = some (Rows.laid_strconv_ErrRange, MemPlace.row ⟨19, 0, none⟩ 1) := by kernel_rfl
theorem wo2 (os : Os) (args : Array Value) : Value.okWideB Tryz.prog (wW os args) 226 (.pointer (some ⟨19, 0, none⟩)) = true := by kernel_rfl
theorem wpw_one (w : World) (x : Nat × Nat) (h1 : (Lit.int .u64 (x.1 : Int)).wf = true) (h2 : (Lit.int .u64 (x.2 : Int)).wf = true) : DataW.trod (fun _ => ()) Tryz.prog w 0 (fun _ => true) false 7 359 (pwF x) = some (.agg [.lit (.int .u64 x.1), .lit (.int .u64 x.2)], []) := by
 have e1 : Tryz.prog.underlying 359 = some (.struct #[⟨ "hi", 235, 0, false, "", "internal/strconv", 0⟩, ⟨ "lo", 235, 1, false, "", "internal/strconv", 8⟩]) := by kernel_rfl
 have e2 : Tryz.prog.cellsOf 359 = 2 := by kernel_rfl
 have e3 : Tryz.prog.cellsOf 235 = 1 := by kernel_rfl
 have e4 : Tryz.prog.underlying 235 = some (.int .u64) := by kernel_rfl
 unfold DataW.trod
 simp only [e1, pwF, e2]
 rw [if_pos (show ([Value.int .u64 (x.1 : Int), Value.int .u64 (x.2 : Int)] : List Value).length = 2 from rfl)]
 simp only [List.mapM_cons, List.mapM_nil, e3]
 have t1 : DataW.trod (fun _ => ()) Tryz.prog w 0 (fun _ => true) false 6 235 [Value.int .u64 x.1] = some (.lit (.int .u64 x.1), []) := wtrod_lit (fuel := 5) e4 (by simp [wlitB, h1])
 have t2 : DataW.trod (fun _ => ()) Tryz.prog w 0 (fun _ => true) false 6 235 [Value.int .u64 x.2] = some (.lit (.int .u64 x.2), []) := wtrod_lit (fuel := 5) e4 (by simp [wlitB, h2])
 simp [t1, t2]
theorem wt11 (w : World) : DataW.trod (fun _ => ()) Tryz.prog w 0 (fun _ => true) false 8 360 wc11 = some (Rows.laid_internal_strconv_pow10Tab, []) := by
  have hl : wc11.length = Pinned.pow10Rows.length * 2 := wflat_len pwF 2 (fun _ => rfl) _
  have hr : Pinned.pow10Rows.length = 696 := by kernel_rfl
  have hwf : Pinned.pow10Rows.all (fun x => (Lit.int .u64 x.1).wf && (Lit.int .u64 x.2).wf) = true := by kernel_rfl
  have := trod_arrayL (P := Tryz.prog) (w := w) (enc := fun _ => ()) (sp := fun _ => true) (held := false) (fuel := 7) (t := 360) (e := 359) (n := 696) (k := 2) (cs := wc11) (g := fun i => (fun x : Nat × Nat => (.agg [.lit (.int .u64 x.1), .lit (.int .u64 x.2)] : DataW Unit)) (Pinned.pow10Rows.getD i default)) (by kernel_rfl) (by kernel_rfl) (by rw [hl, hr]; kernel_rfl) (fun i hi => by
    have hi' : i < Pinned.pow10Rows.length := by rw [hr]; exact hi
    have h1 : (wc11.drop (i * 2)).take 2 = pwF Pinned.pow10Rows[i] := wflat_at pwF 2 (fun _ => rfl) _ i hi'
    have h2 := List.all_eq_true.1 hwf _ (List.getElem_mem hi')
    simp only [Bool.and_eq_true] at h2
    rw [h1, List.getD_eq_getElem?_getD, List.getElem?_eq_getElem hi', Option.getD_some]
    exact wpw_one w _ h2.1 h2.2)
  rw [this]
  have h3 := wrange_get (fun x : Nat × Nat => (.agg [.lit (.int .u64 x.1), .lit (.int .u64 x.2)] : DataW Unit)) Pinned.pow10Rows
  rw [hr] at h3
  rw [h3]
  rfl
theorem wch_one (w : World) (x : Nat × List UInt8) (h1 : (Lit.int .i64 (x.1 : Int)).wf = true) (h2 : x.2.length ≤ maxLen) : DataW.trod (fun _ => ()) Tryz.prog w 0 (fun _ => true) false 7 365 (chF x) = some (.agg [.lit (.int .i64 x.1), .lit (.string x.2)], []) := by
 have e1 : Tryz.prog.underlying 365 = some (.struct #[⟨ "delta", 3, 0, false, "", "internal/strconv", 0⟩, ⟨ "cutoff", 9, 1, false, "", "internal/strconv", 8⟩]) := by kernel_rfl
 have e2 : Tryz.prog.cellsOf 365 = 2 := by kernel_rfl
 have e3 : Tryz.prog.cellsOf 3 = 1 := by kernel_rfl
 have e4 : Tryz.prog.cellsOf 9 = 1 := by kernel_rfl
 have e5 : Tryz.prog.underlying 3 = some (.int .i64) := by kernel_rfl
 have e6 : Tryz.prog.underlying 9 = some .string := by kernel_rfl
 have t1 : DataW.trod (fun _ => ()) Tryz.prog w 0 (fun _ => true) false 6 3 [Value.int .i64 x.1] = some (.lit (.int .i64 x.1), []) := wtrod_lit (fuel := 5) e5 (by simp [wlitB, h1])
 have t2 : DataW.trod (fun _ => ()) Tryz.prog w 0 (fun _ => true) false 6 9 [Value.string ⟨x.2.toArray⟩] = some (.lit (.string x.2), []) := by
  unfold DataW.trod
  have : (ByteArray.mk x.2.toArray).size ≤ maxLen := by simpa [ByteArray.size] using h2
  simp [e6, this]
 unfold DataW.trod
 simp only [e1, chF, e2]
 rw [if_pos (show ([Value.int .i64 (x.1 : Int), Value.string ⟨x.2.toArray⟩] : List Value).length = 2 from rfl)]
 simp only [List.mapM_cons, List.mapM_nil, e3, e4]
 simp [t1, t2]
theorem wt12 (os : Os) (args : Array Value) : DataW.trod (fun _ => ()) Tryz.prog (wW os args) 0 (fun _ => true) false 8 366 wc12 = some (Rows.laid_internal_strconv_leftcheats, MemPlace.row ⟨23, 0, none⟩ 122) := by
  have hl : wc23.length = Pinned.cheatRows.length * 2 := wflat_len chF 2 (fun _ => rfl) _
  have hr : Pinned.cheatRows.length = 61 := by kernel_rfl
  have hwf : Pinned.cheatRows.all (fun x => (Lit.int .i64 x.1).wf && decide (x.2.length ≤ maxLen)) = true := by kernel_rfl
  have := trod_sliceL (P := Tryz.prog) (w := wW os args) (enc := fun _ => ()) (sp := fun _ => true) (held := false) (fuel := 7) (t := 366) (e := 365) (b := 23) (n := 61) (k := 2) (T := 365) (cs := wc23) (g := fun i => (fun x : Nat × List UInt8 => (.agg [.lit (.int .i64 x.1), .lit (.string x.2)] : DataW Unit)) (Pinned.cheatRows.getD i default)) (by kernel_rfl) (by kernel_rfl) (wh23 os args) (by rw [hl, hr]) (by unfold maxLen; omega) (fun i hi => by
    have hi' : i < Pinned.cheatRows.length := by rw [hr]; exact hi
    have h1 : (wc23.drop (i * 2)).take 2 = chF Pinned.cheatRows[i] := wflat_at chF 2 (fun _ => rfl) _ i hi'
    have h2 := List.all_eq_true.1 hwf _ (List.getElem_mem hi')
    simp only [Bool.and_eq_true, decide_eq_true_eq] at h2
    rw [h1, List.getD_eq_getElem?_getD, List.getElem?_eq_getElem hi', Option.getD_some]
    exact wch_one _ _ h2.1 h2.2)
  have h3 := wrange_get (fun x : Nat × List UInt8 => (.agg [.lit (.int .i64 x.1), .lit (.string x.2)] : DataW Unit)) Pinned.cheatRows
  rw [hr] at h3
  rw [h3] at this
  exact this
def wPs : List MemPlace := MemPlace.row ⟨6, 0, none⟩ wc6.length ++ [] ++ (MemPlace.row ⟨7, 0, none⟩ wc7.length ++ [] ++ (MemPlace.row ⟨3, 0, none⟩ wc3.length ++ [] ++ (MemPlace.row ⟨5, 0, none⟩ wc5.length ++ [] ++ (MemPlace.row ⟨4, 0, none⟩ wc4.length ++ [] ++ (MemPlace.row ⟨9, 0, none⟩ wc9.length ++ MemPlace.row ⟨21, 0, none⟩ 9 ++ (MemPlace.row ⟨10, 0, none⟩ wc10.length ++ MemPlace.row ⟨22, 0, none⟩ 23 ++ (MemPlace.row ⟨8, 0, none⟩ wc8.length ++ MemPlace.row ⟨20, 0, none⟩ 11 ++ (MemPlace.row ⟨0, 0, none⟩ wc0.length ++ [] ++ (MemPlace.row ⟨2, 0, none⟩ wc2.length ++ MemPlace.row ⟨19, 0, none⟩ 1 ++ (MemPlace.row ⟨1, 0, none⟩ wc1.length ++ MemPlace.row ⟨18, 0, none⟩ 1 ++ (MemPlace.row ⟨12, 0, none⟩ wc12.length ++ MemPlace.row ⟨23, 0, none⟩ 122 ++ (MemPlace.row ⟨11, 0, none⟩ wc11.length ++ [] ++ ([])))))))))))))
theorem wLv (os : Os) (args : Array Value) : DataW.LaidVars Tryz.prog (wW os args) Rows.fnTextedRow.laid wPs :=
 uE 8 (by kernel_rfl) (by kernel_rfl) (wh6 os args) (wt6 _) (uE 8 (by kernel_rfl) (by kernel_rfl) (wh7 os args) (wt7 _) (uE 8 (by kernel_rfl) (by kernel_rfl) (wh3 os args) (wt3 _) (uE 8 (by kernel_rfl) (by kernel_rfl) (wh5 os args) (wt5 _) (uE 8 (by kernel_rfl) (by kernel_rfl) (wh4 os args) (wt4 _) (uE 8 (by kernel_rfl) (by kernel_rfl) (wh9 os args) (wt9 os args) (uE 8 (by kernel_rfl) (by kernel_rfl) (wh10 os args) (wt10 os args) (uE 8 (by kernel_rfl) (by kernel_rfl) (wh8 os args) (wt8 os args) (uE 8 (by kernel_rfl) (by kernel_rfl) (wh0 os args) (wt0 _) (uE 8 (by kernel_rfl) (by kernel_rfl) (wh2 os args) (wt2 os args) (uE 8 (by kernel_rfl) (by kernel_rfl) (wh1 os args) (wt1 os args) (uE 8 (by kernel_rfl) (by kernel_rfl) (wh12 os args) (wt12 os args) (uE 8 (by kernel_rfl) (by kernel_rfl) (wh11 os args) (wt11 _) (rfl)))))))))))))
def wBs : List Nat := [0, 1, 2, 3, 4, 5, 6, 7, 8, 9, 10, 11, 12, 18, 19, 20, 21, 22, 23]
theorem wNd : nodupBits 1400 wPs 0 = true := by kernel_rfl
theorem wIn : inB wBs wPs = true := by kernel_rfl
theorem laid_met (os : Os) (args : Array Value) : laidMet Tryz.prog Rows.fnTextedRow.laid (wW os args) := by
 refine ⟨wPs, wLv os args, (nodupBits_sound wNd).1, fun b off hp => ?_⟩
 have h1 := List.all_eq_true.1 wIn _ hp
 have hb : b ∈ wBs := by simpa using h1
 simp only [wBs, List.mem_cons, List.not_mem_nil, or_false] at hb
 rcases hb with rfl | rfl | rfl | rfl | rfl | rfl | rfl | rfl | rfl | rfl | rfl | rfl | rfl | rfl | rfl | rfl | rfl | rfl | rfl
 ·exact wJ (wh0 os args) (by kernel_rfl)
 ·exact wgood_one (wh1 os args) (wo1 os args)
 ·exact wgood_one (wh2 os args) (wo2 os args)
 ·exact wJ (wh3 os args) (by kernel_rfl)
 ·exact wJ (wh4 os args) (by kernel_rfl)
 ·exact wJ (wh5 os args) (by kernel_rfl)
 ·exact wJ (wh6 os args) (by kernel_rfl)
 ·exact wJ (wh7 os args) (by kernel_rfl)
 ·exact wJ (wh8 os args) (by kernel_rfl)
 ·exact wJ (wh9 os args) (by kernel_rfl)
 ·exact wJ (wh10 os args) (by kernel_rfl)
 ·exact wJ (wh11 os args) (by kernel_rfl)
 ·exact wJ (wh12 os args) (by kernel_rfl)
 ·exact wJ (wh18 os args) (by kernel_rfl)
 ·exact wJ (wh19 os args) (by kernel_rfl)
 ·exact wJ (wh20 os args) (by kernel_rfl)
 ·exact wJ (wh21 os args) (by kernel_rfl)
 ·exact wJ (wh22 os args) (by kernel_rfl)
 ·exact wJ (wh23 os args) (by kernel_rfl)
end Go.Jw

namespace Go.Jw
open Go Go.RowKit Go.Proofs Go.ChangeShapes Go.WideShapes Go.ChangeAt Go.Proofs.YtlcfillobkdnmaaGreatDoor
set_option maxRecDepth 100000
noncomputable abbrev jP : Program := Tryz.pinned.checked.prog
def jL : List Char := ([104, 97, 114, 110, 101, 115, 115, 32, 51, 52, 54, 53, 50, 48, 98, 97, 101, 52, 98, 52, 51, 99, 98, 99, 55, 56, 100, 101, 53, 53, 51, 57, 50, 50, 101, 54, 99, 51, 55, 50, 100, 97, 98, 97, 102, 48, 98, 100, 48, 48, 53, 100, 102, 57, 97, 97, 102, 99, 54, 50, 57, 100, 55, 55, 100, 51, 48, 101, 52, 48, 56, 53, 32, 99, 117, 116, 32, 97, 116, 32, 108, 111, 111, 112, 46, 101, 120, 97, 109, 112, 108, 101, 47, 112, 117, 98, 45, 103, 48, 49, 53, 50, 50, 47, 108, 97, 119, 115, 46, 70, 110, 84, 101, 120, 116, 101, 100, 32, 108, 111, 111, 112, 46, 101, 120, 97, 109, 112, 108, 101, 47, 112, 117, 98, 45, 103, 48, 49, 53, 50, 50, 47, 108, 97, 119, 115, 46, 70, 110, 87, 114, 105, 116, 116, 101, 110, 32, 108, 111, 111, 112, 46, 101, 120, 97, 109, 112, 108, 101, 47, 112, 117, 98, 45, 103, 48, 49, 53, 50, 50, 47, 108, 97, 119, 115, 46, 70, 110, 87, 114, 105, 116, 116, 101, 110, 84, 119, 105, 99, 101, 32, 108, 111, 111, 112, 46, 101, 120, 97, 109, 112, 108, 101, 47, 112, 117, 98, 45, 103, 48, 49, 53, 50, 50, 47, 108, 97, 119, 115, 46, 70, 110, 65, 100, 100, 101, 100, 32, 108, 111, 111, 112, 46, 101, 120, 97, 109, 112, 108, 101, 47, 112, 117, 98, 45, 103, 48, 49, 53, 50, 50, 47, 108, 97, 119, 115, 46, 70, 110, 70, 111, 117, 110, 100, 32, 108, 111, 111, 112, 46, 101, 120, 97, 109, 112, 108, 101, 47, 112, 117, 98, 45, 103, 48, 49, 53, 50, 50, 47, 108, 97, 119, 115, 46, 70, 110, 80, 111, 105, 110, 116, 101, 100, 32, 108, 111, 111, 112, 46, 101, 120, 97, 109, 112, 108, 101, 47, 112, 117, 98, 45, 103, 48, 49, 53, 50, 50, 47, 108, 97, 119, 115, 46, 70, 110, 67, 111, 112, 105, 101, 100, 32, 108, 111, 111, 112, 46, 101, 120, 97, 109, 112, 108, 101, 47, 112, 117, 98, 45, 103, 48, 49, 53, 50, 50, 47, 108, 97, 119, 115, 46, 70, 110, 67, 111, 112, 105, 101, 100, 65, 99, 99, 101, 112, 116, 115, 32, 108, 111, 111, 112, 46, 101, 120, 97, 109, 112, 108, 101, 47, 112, 117, 98, 45, 103, 48, 49, 53, 50, 50, 47, 108, 97, 119, 115, 46, 70, 110, 65, 108, 108, 83, 116, 101, 112, 115, 32, 108, 111, 111, 112, 46, 101, 120, 97, 109, 112, 108, 101, 47, 112, 117, 98, 45, 103, 48, 49, 53, 50, 50, 47, 108, 97, 119, 115, 46, 70, 110, 67, 104, 111, 115, 101, 110, 32, 108, 111, 111, 112, 46, 101, 120, 97, 109, 112, 108, 101, 47, 112, 117, 98, 45, 103, 48, 49, 53, 50, 50, 47, 108, 97, 119, 115, 46, 70, 110, 67, 104, 111, 115, 101, 110, 78, 97, 114, 114, 111, 119, 115, 32, 108, 111, 111, 112, 46, 101, 120, 97, 109, 112, 108, 101, 47, 112, 117, 98, 45, 103, 48, 49, 53, 50, 50, 47, 108, 97, 119, 115, 46, 70, 110, 77, 101, 114, 103, 101, 100, 32, 108, 111, 111, 112, 46, 101, 120, 97, 109, 112, 108, 101, 47, 112, 117, 98, 45, 103, 48, 49, 53, 50, 50, 47, 108, 97, 119, 115, 46, 70, 110, 77, 101, 114, 103, 101, 100, 65, 99, 99, 101, 112, 116, 115, 32, 108, 111, 111, 112, 46, 101, 120, 97, 109, 112, 108, 101, 47, 112, 117, 98, 45, 103, 48, 49, 53, 50, 50, 47, 108, 97, 119, 115, 46, 70, 110, 82, 101, 115, 111, 108, 118, 101, 100, 32, 108, 111, 111, 112, 46, 101, 120, 97, 109, 112, 108, 101, 47, 112, 117, 98, 45, 103, 48, 49, 53, 50, 50, 47, 108, 97, 119, 115, 46, 70, 110, 82, 101, 115, 111, 108, 118, 101, 100, 65, 99, 99, 101, 112, 116, 115, 32, 108, 111, 111, 112, 46, 101, 120, 97, 109, 112, 108, 101, 47, 112, 117, 98, 45, 103, 48, 49, 53, 50, 50, 47, 108, 97, 119, 115, 46, 70, 110, 82, 101, 115, 111, 108, 118, 101, 100, 84, 119, 105, 99, 101] : List Nat).map Char.ofNat
def jW : List (List Char) := ([[104, 97, 114, 110, 101, 115, 115], [51, 52, 54, 53, 50, 48, 98, 97, 101, 52, 98, 52, 51, 99, 98, 99, 55, 56, 100, 101, 53, 53, 51, 57, 50, 50, 101, 54, 99, 51, 55, 50, 100, 97, 98, 97, 102, 48, 98, 100, 48, 48, 53, 100, 102, 57, 97, 97, 102, 99, 54, 50, 57, 100, 55, 55, 100, 51, 48, 101, 52, 48, 56, 53], [99, 117, 116], [97, 116], [108, 111, 111, 112, 46, 101, 120, 97, 109, 112, 108, 101, 47, 112, 117, 98, 45, 103, 48, 49, 53, 50, 50, 47, 108, 97, 119, 115, 46, 70, 110, 84, 101, 120, 116, 101, 100], [108, 111, 111, 112, 46, 101, 120, 97, 109, 112, 108, 101, 47, 112, 117, 98, 45, 103, 48, 49, 53, 50, 50, 47, 108, 97, 119, 115, 46, 70, 110, 87, 114, 105, 116, 116, 101, 110], [108, 111, 111, 112, 46, 101, 120, 97, 109, 112, 108, 101, 47, 112, 117, 98, 45, 103, 48, 49, 53, 50, 50, 47, 108, 97, 119, 115, 46, 70, 110, 87, 114, 105, 116, 116, 101, 110, 84, 119, 105, 99, 101], [108, 111, 111, 112, 46, 101, 120, 97, 109, 112, 108, 101, 47, 112, 117, 98, 45, 103, 48, 49, 53, 50, 50, 47, 108, 97, 119, 115, 46, 70, 110, 65, 100, 100, 101, 100], [108, 111, 111, 112, 46, 101, 120, 97, 109, 112, 108, 101, 47, 112, 117, 98, 45, 103, 48, 49, 53, 50, 50, 47, 108, 97, 119, 115, 46, 70, 110, 70, 111, 117, 110, 100], [108, 111, 111, 112, 46, 101, 120, 97, 109, 112, 108, 101, 47, 112, 117, 98, 45, 103, 48, 49, 53, 50, 50, 47, 108, 97, 119, 115, 46, 70, 110, 80, 111, 105, 110, 116, 101, 100], [108, 111, 111, 112, 46, 101, 120, 97, 109, 112, 108, 101, 47, 112, 117, 98, 45, 103, 48, 49, 53, 50, 50, 47, 108, 97, 119, 115, 46, 70, 110, 67, 111, 112, 105, 101, 100], [108, 111, 111, 112, 46, 101, 120, 97, 109, 112, 108, 101, 47, 112, 117, 98, 45, 103, 48, 49, 53, 50, 50, 47, 108, 97, 119, 115, 46, 70, 110, 67, 111, 112, 105, 101, 100, 65, 99, 99, 101, 112, 116, 115], [108, 111, 111, 112, 46, 101, 120, 97, 109, 112, 108, 101, 47, 112, 117, 98, 45, 103, 48, 49, 53, 50, 50, 47, 108, 97, 119, 115, 46, 70, 110, 65, 108, 108, 83, 116, 101, 112, 115], [108, 111, 111, 112, 46, 101, 120, 97, 109, 112, 108, 101, 47, 112, 117, 98, 45, 103, 48, 49, 53, 50, 50, 47, 108, 97, 119, 115, 46, 70, 110, 67, 104, 111, 115, 101, 110], [108, 111, 111, 112, 46, 101, 120, 97, 109, 112, 108, 101, 47, 112, 117, 98, 45, 103, 48, 49, 53, 50, 50, 47, 108, 97, 119, 115, 46, 70, 110, 67, 104, 111, 115, 101, 110, 78, 97, 114, 114, 111, 119, 115], [108, 111, 111, 112, 46, 101, 120, 97, 109, 112, 108, 101, 47, 112, 117, 98, 45, 103, 48, 49, 53, 50, 50, 47, 108, 97, 119, 115, 46, 70, 110, 77, 101, 114, 103, 101, 100], [108, 111, 111, 112, 46, 101, 120, 97, 109, 112, 108, 101, 47, 112, 117, 98, 45, 103, 48, 49, 53, 50, 50, 47, 108, 97, 119, 115, 46, 70, 110, 77, 101, 114, 103, 101, 100, 65, 99, 99, 101, 112, 116, 115], [108, 111, 111, 112, 46, 101, 120, 97, 109, 112, 108, 101, 47, 112, 117, 98, 45, 103, 48, 49, 53, 50, 50, 47, 108, 97, 119, 115, 46, 70, 110, 82, 101, 115, 111, 108, 118, 101, 100], [108, 111, 111, 112, 46, 101, 120, 97, 109, 112, 108, 101, 47, 112, 117, 98, 45, 103, 48, 49, 53, 50, 50, 47, 108, 97, 119, 115, 46, 70, 110, 82, 101, 115, 111, 108, 118, 101, 100, 65, 99, 99, 101, 112, 116, 115], [108, 111, 111, 112, 46, 101, 120, 97, 109, 112, 108, 101, 47, 112, 117, 98, 45, 103, 48, 49, 53, 50, 50, 47, 108, 97, 119, 115, 46, 70, 110, 82, 101, 115, 111, 108, 118, 101, 100, 84, 119, 105, 99, 101]] : List (List Nat)).map fun l => l.map Char.ofNat
theorem hI : jP.initOrder = String.ofList jL := by kernel_rfl
theorem hW0 : wordsSigns jL = jW := by kernel_rfl
theorem hW : wordsSigns jP.initOrder.toList = jW := by rw [hI, String.toList_ofList, hW0]
theorem jh : behindMainWord (wordsSigns jP.initOrder.toList) = "cut".toList :: jW.drop 3 := by rw [hW]; kernel_rfl
theorem make_of {P : Program} {rest : List (List Char)} (h : behindMainWord (wordsSigns P.initOrder.toList) = "cut".toList :: rest) : P.make = some .cut := by unfold Program.make; rw [h]; rfl
theorem lifts_of {P : Program} {rest : List (List Char)} (h : behindMainWord (wordsSigns P.initOrder.toList) = "cut".toList :: rest) : P.liftsFinal = false := by unfold Program.liftsFinal Program.headLifts; rw [h]; rfl
theorem enter_of {P : Program} {rest : List (List Char)} (h : behindMainWord (wordsSigns P.initOrder.toList) = "cut".toList :: rest) (l1 : P.laysLater = false) (l2 : P.bearsReflect = false) (l3 : P.doorFits [] = true) : P.mayEnter = true := by
 have h1 : (stripLifts liftWords ("cut".toList :: rest)).1 = [] := rfl
 have h2 : (stripLifts liftWords ("cut".toList :: rest)).2 = "cut".toList :: rest := rfl
 unfold Program.mayEnter
 rw [h]
 simp only [h1, h2, l1, l2, l3, List.head?_cons]
 simp
theorem jl1 : jP.laysLater = false := by kernel_rfl
theorem jl2 : jP.bearsReflect = false := by kernel_rfl
theorem jl3 : jP.doorFits [] = true := by kernel_rfl
theorem j1 : (laidOutB jP) = true := by kernel_rfl
theorem j2 : (mapsRowed jP) = true := by kernel_rfl
theorem j6 : ((jP.stops == [])) = true := by kernel_rfl
theorem j8 : ((jP.stopKnobs == [])) = true := by kernel_rfl
theorem j24 : (jP.stopsHeard) = true := by kernel_rfl
theorem j25 : (jP.mayEnter) = true := enter_of jh jl1 jl2 jl3
def wArg : Value := .agg #[.int .i64 0, .int .i64 0, .string ⟨#[]⟩, .slice none 0 0, .slice none 0 0]
theorem main_of {P : Program} {h s : List Char} {r : List (List Char)} (hw : wordsSigns P.initOrder.toList = h :: s :: r) (h1 : h = "harness".toList) (h2 : isSumSigns s = true) : P.mainIs = some (true, s) := by
 unfold Program.mainIs
 rw [hw, h1]
 simp only [h2]
 rfl
theorem jhd : wordsSigns jP.initOrder.toList = "harness".toList :: "346520bae4b43cbc78de553922e6c372dabaf0bd005df9aafc629d77d30e4085".toList :: jW.drop 2 := by rw [hW]; kernel_rfl
theorem jsum : isSumSigns "346520bae4b43cbc78de553922e6c372dabaf0bd005df9aafc629d77d30e4085".toList = true := by kernel_rfl
theorem jmain : jP.mainIs = some (true, "346520bae4b43cbc78de553922e6c372dabaf0bd005df9aafc629d77d30e4085".toList) := main_of jhd rfl jsum
theorem contract14 (H : Type) (enc : TypeId × Value → H) (W : World) (base : Nat) (args : Array Value) (ds gs : List (DataW H)) (before : List MemPlace)
  (hval : ∀ (j : Nat) t v, Tryz.f14.params[j]? = some t → args[j]? = some v → Value.okWide Tryz.prog W .any base t v)
  (hW : DataW.Whole enc Tryz.prog Tryz.f14.params.toList Rows.fnMergedSpec.vars false W args.toList ds gs before) (hL : laidMetH Tryz.prog Rows.fnMergedRow.laid W) :
  Calls Tryz.prog 14 args W fun e W' => ∃ v, e = .returned v ∧ Rows.fnMergedSpec.post enc Tryz.prog Tryz.f14 false true false false W args v W' := by
 have hW' := hW
 obtain ⟨p, q, hA0, hV, rfl, hfz, hnd⟩ := hW
 have hA : DataW.TrodAll enc Tryz.prog W 0 (fun _ => true) true Tryz.f14.params.toList args.toList ds p := hA0
 rw [Tryz.params14] at hA hval
 obtain ⟨v0, d0, rfl, rfl, h0⟩ := trodAll_one hA
 have hvo0 := hval 0 25 v0 rfl rfl
 unfold Value.okWide at hvo0
 rw [Tryz.underlying25] at hvo0
 obtain ⟨cs0, rfl, _⟩ := hvo0
 obtain ⟨fuel0, hf0⟩ := id h0
 obtain ⟨t0, hv0, _⟩ := val_of_trod fuel0 _ _ hf0
 have hv0' : ValP W (· < W.heap.size) t0 (.agg cs0) := by simpa [Value.cells] using hv0
 obtain ⟨rfl, rfl⟩ := trodVars_none hV
 clear hA0
 simp only [List.append_nil] at hW'
 have hL' : laidMet Tryz.prog Rows.fnTextedUptoRow.laid W := by rw [← met_eq]; exact hL
 have htab := tab_of hL' (.tail _ (.tail _ (.tail _ (.tail _ (.tail _ (.tail _ (.tail _ (.tail _ (.head _)))))))))
 obtain ⟨fb, hft⟩ := ft_of hL' (.tail _ (.tail _ (.tail _ (.tail _ (.tail _ (.tail _ (.tail _ (.tail _ (.head _))))))))) (.tail _ (.tail _ (.tail _ (.tail _ (.head _))))) (.tail _ (.tail _ (.tail _ (.head _)))) (.tail _ (.tail _ (.tail _ (.tail _ (.tail _ (.tail _ (.head _)))))))
  (.tail _ (.tail _ (.tail _ (.tail _ (.tail _ (.tail _ (.tail _ (.tail _ (.tail _ (.tail _ (.tail _ (.tail _ (.head _)))))))))))))
 have hc := calls_of (W := W) (l14 fb t0 (.agg cs0)) (by
  intro d hd
  rcases List.mem_cons.1 hd with rfl | hd
  ·exact hv0'
  rcases List.mem_cons.1 hd with rfl | hd
  ·exact htab
  rcases List.mem_cons.1 hd with rfl | hd
  ·exact hft
  ·cases hd)
 refine hc.mono fun e W' ⟨he, hb⟩ => ?_
 subst he
 have hlt := hW'.lt
 exact ⟨_, rfl, post_of_below (pa := p) (pv := []) hW' (fun _ _ _ => trodAll_cons_mk (shut_bool Tryz.underlying4 _) trodAll_mk0)
  (fun sp hs => trodAll_mk1 (Go.WideElems.Trod_stays laidOut rd25 lt25 h0 (fun x hx => hb.same (hlt x (by simp [hx]))) (fun x hx => hs x (by simp [hx])))) (fun _ _ => rfl) (by simp) hb (ok_one (by kernel_rfl) rfl (okWide_bool_mk Tryz.underlying4 _))⟩
noncomputable abbrev jC14 : OpenClaim := Rows.fnMergedRow
noncomputable abbrev jS14 : ChangeSpec := (OpenSpec.ofChange Rows.fnMergedSpec).bare
noncomputable abbrev jF14 : Func := Tryz.f14
theorem j0_14 : (jC14.wf (OpenSpec.ofChange jS14)) = true := by kernel_rfl
theorem j3_14 : (jF14.params.all (jP.readableRec ·)) = true := by kernel_rfl
theorem j4_14 : (namedTie jP jC14.named jS14.vars) = true := by kernel_rfl
theorem j5_14 : ((jC14.stops == [])) = true := by kernel_rfl
theorem j7_14 : ((jC14.knobs == [])) = true := by kernel_rfl
theorem j9_14 : ((jC14.inPlace == jP.inPlace 14)) = true := by kernel_rfl
theorem j10_14 : ((jC14.unfollowed == jP.unfollowed 14)) = true := by kernel_rfl
theorem j11_14 : ((jC14.recurses == jP.recurses 14)) = true := by kernel_rfl
theorem j12_14 : ((jC14.named == jP.varsNamed 14)) = true := by kernel_rfl
theorem j13_14 : ((jC14.maps == (jF14.params.toList ++ jS14.plain.varTypes jP).any (jP.mapsRec ·))) = true := by kernel_rfl
theorem j14_14 : ((jC14.ifaces == (jF14.params.toList ++ jS14.plain.varTypes jP).any (jP.ifacesRec ·))) = true := by kernel_rfl
theorem j15_14 : ((jC14.mapsOut == jP.mapsAmong jF14.resultTypes.toList)) = true := by kernel_rfl
theorem j16_14 : ((jC14.loops == (jF14.params.toList ++ jS14.plain.varTypes jP).any (jP.loopsFrom ·))) = true := by kernel_rfl
theorem j17_14 : ((jC14.wideKeys == (jF14.params.toList ++ jS14.plain.varTypes jP ++ jF14.resultTypes.toList).any (jP.wideKeysFrom ·))) = true := by kernel_rfl
theorem j18_14 : (jS14.vars.all (jP.varReadable ·)) = true := by kernel_rfl
theorem j19_14 : (jF14.resultTypes.all (fun t => jP.readableRec t && decide (t < jP.types.size))) = true := by kernel_rfl
theorem j20_14 : ((jC14.ifacesOut == jF14.resultTypes.toList.any (jP.ifacesRec ·))) = true := by kernel_rfl
theorem j21_14 : ((jC14.loopsOut == jF14.resultTypes.toList.any (jP.loopsFrom ·))) = true := by kernel_rfl
theorem j22_14 : ((jC14.plainKeys == jP.plainKeys)) = true := by kernel_rfl
theorem j23_14 : (jC14.shortTexts.isNone) = true := by kernel_rfl
theorem j26_14 : ((jC14.lifted == jP.liftsFinal)) = true := by rw [lifts_of jh]; kernel_rfl
theorem j27_14 : ((jP.make == some jC14.make)) = true := by rw [make_of jh]; kernel_rfl
theorem j28_14 : ((jC14.kinds == (if jC14.domain.isEmpty then [] else jF14.params.toList.map fun t => match jP.underlying t with | some (.int k) => some k | _ => none))) = true := by kernel_rfl
theorem j29_14 : ((jC14.pinned == jC14.pinnedBy)) = true := by kernel_rfl
theorem j30_14 : ((jC14.veiled == (jF14.params.toList ++ jS14.plain.varTypes jP ++ jF14.resultTypes.toList).any (jP.veiledRec ·))) = true := by kernel_rfl
theorem j31_14 : (jC14.veiledFits jP jF14.params.toList (jF14.params.toList ++ jS14.plain.varTypes jP ++ jF14.resultTypes.toList)) = true := by kernel_rfl
theorem jAll14 : joinedFacts jP 14 jF14 jS14 jC14 = true := by
 unfold joinedFacts
 simp only [Bool.and_eq_true]
 exact ⟨⟨⟨⟨⟨⟨⟨⟨⟨⟨⟨⟨⟨⟨⟨⟨⟨⟨⟨⟨⟨⟨⟨⟨⟨⟨⟨⟨⟨⟨⟨j0_14, j1⟩, j2⟩, j3_14⟩, j4_14⟩, j5_14⟩, j6⟩, j7_14⟩, j8⟩, j9_14⟩, j10_14⟩, j11_14⟩, j12_14⟩, j13_14⟩, j14_14⟩, j15_14⟩, j16_14⟩, j17_14⟩, j18_14⟩, j19_14⟩, j20_14⟩, j21_14⟩, j22_14⟩, j23_14⟩, j24⟩, j25⟩, j26_14⟩, j27_14⟩, j28_14⟩, j29_14⟩, j30_14⟩, j31_14⟩
theorem jgoes14 : false = jC14.goesBy jP := by kernel_rfl
theorem jtext14 : jC14.wfByText (OpenSpec.ofChange Rows.fnMergedSpec) = true := by kernel_rfl
theorem reads14 (os : Os) {H : Type} (enc : TypeId × Value → H) : ∃ places, DataW.whole enc Tryz.prog ((laidWorld os).forCall (fun _ _ => 0) ⟨#[], #[wArg], []⟩).memory Tryz.f14.params.toList Rows.fnMergedSpec.vars false #[wArg].toList 8 = some ([.agg [.lit (.int .i64 0), .lit (.int .i64 0), .lit (.string []), .nil, .nil]], [], places) :=
 ⟨[], by kernel_rfl⟩
theorem lifted14 (os : Os) (started : os.Started) (H : Type) (enc : TypeId × Value → H) (F : Stop.Interp) :
    ReturnsInHanded {} Tryz.checked os 14 .any ((OpenSpec.ofChange Rows.fnMergedSpec).preRow enc Tryz.prog Tryz.f14 Rows.fnMergedRow.domain false Rows.fnMergedRow.laid) (((OpenSpec.ofChange Rows.fnMergedSpec).at F).post enc Tryz.prog Tryz.f14 false true false false) := by
  obtain ⟨places, hx⟩ := reads14 os enc
  refine returnsInHanded_of_row (C := Tryz.checked) (s := (OpenSpec.ofChange Rows.fnMergedSpec)) own started (by kernel_rfl) Tryz.func14
    (witness_row_atRef (enc := enc) (C := Tryz.checked) false (laidWorld os) #[wArg] rfl (vars_ref os _) (by kernel_rfl) (by kernel_rfl)
      (OpenSpec.preRow_of_cond 8 hx (by kernel_rfl) (fun k hk => by cases hk) (by kernel_rfl) (laid_met os _))) ?_
  intro W base args ds gs before hval hW _ _ _ hL _ _
  exact contract14 H enc W base args ds gs before hval hW hL
theorem said14 : Rows.FnMergedSaid :=
  OpenClaim.holds_of_cond 14 Tryz.f14 rfl rfl rfl rfl rfl rfl rfl ⟨rfl, rfl, rfl, rfl, rfl⟩ rfl rfl rfl rfl rfl (by kernel_rfl) Tryz.func14 jAll14
    (of_decide_eq_true (by kernel_rfl)) (by unfold Func.isWrapper; first | (rw [if_pos (by decide +kernel)]; kernel_rfl) | (rw [if_neg (by decide +kernel)]; exact ⟨rfl, rfl⟩))
    (fun os started H enc _ F => by rw [OpenClaim.pre_eq_preRow]; exact lifted14 os started H enc F)
theorem plain14 (f : FuncId) (fn : Func) (hf : Tryz.pinned.checked.prog.funcNamed "loop.example/pub-g01522/laws.FnMerged" = some f) (hfn : Tryz.pinned.checked.prog.funcs[f]? = some fn) :
  true = Tryz.pinned.checked.prog.looks [] ∧ ∀ (j : Nat) t, fn.params[j]? = some t → Tryz.pinned.checked.prog.wantsStandIn t = false := by
 obtain rfl : f = 14 := Option.some.inj ((show Tryz.prog.funcNamed "loop.example/pub-g01522/laws.FnMerged" = some 14 by kernel_rfl).symm.trans hf) |>.symm
 obtain rfl : fn = Tryz.f14 := (Option.some.inj (Tryz.func14.symm.trans hfn)).symm
 refine ⟨by kernel_rfl, fun j t ht => ?_⟩
 rw [Tryz.params14] at ht
 have hm : t ∈ #[25] := Array.mem_of_getElem? ht
 simp only [List.mem_toArray, List.mem_cons, List.not_mem_nil, or_false] at hm
 subst hm
 exact (show Tryz.prog.wantsStandIn 25 = false by kernel_rfl)
theorem card14 : Rows.FnMergedCardSaid :=
 Claim7.holds_tied_plain_at .later [] _ _ _ _ said14 (fun _ h => by cases h) jtext14 (fun _ h => by cases h) (ty_row _ rfl rfl) rfl ⟨rfl, rfl⟩ jmain rfl plain14 jgoes14
end Go.Jw
namespace Go.Proofs.YtlcfillobkdnmaaGreatDoor
/-- Whatever the input: the law FnMerged returns true, and what it reads, reads ags it did. -/
theorem fnMerged_holds : Rows.FnMergedCardSaid := Go.Jw.card14
end Go.Proofs.YtlcfillobkdnmaaGreatDoor

