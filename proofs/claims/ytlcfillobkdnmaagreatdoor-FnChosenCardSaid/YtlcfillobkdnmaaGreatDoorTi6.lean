/- FnChosenCardSaid, for every input: anyOf is told as oneOf wherever oneOf is not given: part 6, the proof's texts, made small by a program. -/
import Derived.Test.YtlcfillobkdnmaaGreatDoorTi5
import Derived.Test.YtlcfillobkdnmaaGreatDoorRows
import Derived.ProofKit
import Derived.Deep.Slices
import Derived.SliceStrings
import Derived.Lib.LaidTab
import Derived.LaidByTextLater
import Derived.SevenTiedAt
import Derived.LaidSub
import Derived.LaidOnce
import Derived.Test.YtlcfillobkdnmaaGreatDoorCards
import Derived.OpenShut
import Derived.Deep.DeepHandedRow
import Derived.Deep.DeepWitnessRowRef
import Derived.RowKit
import Derived.DataWitness
import Derived.LaidLaws
import Derived.ChangeMaps5
set_option linter.unusedVariables false
set_option linter.unusedSimpArgs false
set_option maxHeartbeats 4000000
namespace Go.Jw
open Go Go.RowKit Go.Proofs
set_option maxRecDepth 8000
section rules
variable {P : Program} {n : Nat} {F : List Nat} {c : Ctx F} {ops : Array Oper} {d : Nat} {T : TypeId} {l : List Oper} {k : List KI} {Q : Post} {e : Env} {M : List HA} {D : List DA}
theorem ops_frGrC (i : Nat) {G : Gr} (mb : Nat) (hi : M[i]? = some (.many 124 (Gr.blks G))) (hG : ∀ (w : World) (ok : Nat → Prop), (∀ d ∈ D, d.p w ok) → ∀ g ∈ G, ∃ m, CellsP w ok m g.2.1 g.2.2) (hF : F = []) (next : RunOps P n c ops l k Q e (M.eraseIdx i) (.gr mb G :: D)) : RunOps P n c ops l k Q e M D :=
  ops_freeze (h := .many 124 (Gr.blks G)) [.gr mb G] (fun x _ h => by rw [hF] at h; cases h) (wV hi) (fun w ok h hok hD d hd => by
    rcases List.mem_singleton.1 hd with rfl
    intro g hg
    have hm : (g.1, g.2.1) ∈ Gr.blks G := List.mem_map.2 ⟨g, hg, rfl⟩
    refine ⟨⟨hok _ ?_, h _ hm⟩, hG w ok hD g hg⟩
    simp only [HA.foot, List.mem_map]
    exact ⟨_, hm, rfl⟩) next
end rules
theorem graph_upd {w : World} {ok : Nat → Prop} {mb : Nat} {G R : Gr} {b : Nat} {cs cs' : List Value} {f f' : Flds} (hp : G.Perm ((b, cs, f) :: R)) (hg : (DA.graph mb G).p w ok) (hc : CellsP w ok mb cs' f') : (DA.graph mb ((b, cs', f') :: R)).p w ok := fun g hg' => by
 rcases List.mem_cons.1 hg' with e | e
 ·rw [e]; exact hc
 ·exact hg g (hp.mem_iff.2 (List.mem_cons_of_mem _ e))
def ChoOk (v : V) : Prop := IsSchemaV v ∧ DeepV NoBoth v
theorem cho_facts {v : V} (hp : Pl v) (hs : IsShape v) : IsShape (chosenV (normalV v)) ∧ Pl (chosenV (normalV v)) ∧ normalV (chosenV (normalV v)) = chosenV (normalV v) := by
 have hpn := pl_norm hs hp
 have hsn := shape_norm v hs hp
 have hk := deep_norm (p := fun _ => True) (q := Kw1) (fun v _ _ _ => kw1_norm v) v hp hs (deep_true (fun _ => trivial) v)
 exact ⟨rL _ hsn hpn, rT hsn hpn, normal_fix _ (rT hsn hpn) (rL _ hsn hpn) (deep_chosen _ hpn hsn hk)⟩

theorem c125 (mb : Nat) (σ : Sig) (b : Nat) (f : Flds) (ctx : ByteArray) (G : Gr) (hf : σ b = some f) (hG : GOk G σ) :
  Ct Tryz.prog 125 #[ptr b, .string ctx] [.many 124 (Gr.blks G)] [.graph mb G] (fun u M' D' => u = .tuple #[] ∧ ∃ G', GOk G' (upd σ b (some (choF f))) ∧ M' = [.many 124 (Gr.blks G')] ∧ D' = [.graph mb G']) := by
 refine Ct.of_run (args := [ptr b, .string ctx]) Tryz.func125 (by kernel_rfl) rfl Tryz.ntmps125 rfl (fun c => ?_)
 obtain ⟨cs, R, hp, hR⟩ := hG.split hf
 refine run_he (he_split hp) (yK (.flds mb cs f) (fun w ok h => (dget h 0 rfl : (DA.graph mb G).p w ok) _ (hp.mem_iff.2 List.mem_cons_self)) ?_)
 refine uX (p := cs.length = 37) (fun w ok h => (dget h 0 rfl : (DA.flds mb cs f).p w ok).1) (fun hcl => ?_)
 refine uX (p := ∃ p : Option Addr, cs[29]? = some (.pointer p) ∧ p.isSome = (f 29).isSome) (fun w ok h => ?_) (fun ⟨p, hc29, hps⟩ => ?_)
 ·obtain ⟨p, a1, a2, _⟩ := pV (dget h 0 rfl : (DA.flds mb cs f).p w ok) (i := 29) (by decide) (by decide)
  exact ⟨p, a1, a2⟩
 have hcl2 : (cs.set (0 + 30) (.pointer p)).length = 37 := by rw [List.length_set]; exact hcl
 refine rO 7 rfl (zB sZ rfl rfl ?_)
 refine zA (tD 0 sc122 rfl rfl rfl (by rw [Nat.zero_add]; exact hc29) ?_)
 refine zA (yG pn122 rfl rfl ?_)
 refine zZ (yA rfl (fun h8 => ?_) (fun h8 => ?_))
 ·refine rO 9 rfl (zB sZ rfl rfl ?_)
  refine zA (tD 0 sc122 rfl rfl rfl (by rw [Nat.zero_add]; exact hc29) ?_)
  refine oO 3 rfl (zB qR rfl rfl ?_)
  refine zA (qY 0 rfl rfl rfl rfl rfl si122 (by omega) ?_)
  refine oK 1 [0] rfl rfl (rO 6 rfl ?_)
  refine zB sZ rfl rfl (zA ?_)
  refine qY 0 rfl rfl rfl rfl rfl si122 (by omega) (zZ ?_)
  obtain ⟨a, ha⟩ : ∃ a, f 29 = some a := Option.isSome_iff_exists.1 (hps.symm.trans h8)
  refine run_he (he_split (G := (b, (cs.set 30 (.pointer p)).set 29 (.pointer none), choF f) :: R) (List.Perm.refl _)).symm (uK (D' := [.graph mb ((b, (cs.set 30 (.pointer p)).set 29 (.pointer none), choF f) :: R)]) (fun w ok h x hx => ?_) ?_)
  ·rw [List.mem_singleton.1 hx]
   refine graph_upd hp (dget h 1 rfl) ?_
   have hf1 : CellsP w ok mb cs f := dget h 0 rfl
   obtain ⟨p', a1, a2, a3⟩ := pV hf1 (i := 29) (by decide) (by decide)
   rw [hc29] at a1
   injection a1 with a1
   injection a1 with a1
   subst a1
   rw [rQ ha]
   exact cellsP_put (cellsP_put hf1 (by decide) (by rw [a2, ha]) (fun fv h => a3 fv (ha.trans h))) (by decide) rfl (fun fv h => by cases h)
  exact rD Tryz.results125 ⟨rfl, _, hR.join _ _, rfl, rfl⟩ (List.Sublist.refl _) (fun d hd => hd)
 refine xY ?_
 have hn : f 29 = none := by
  cases e : f 29 with
  | none => rfl
  | some a => rw [e] at hps; rw [hps] at h8; cases h8
 refine run_he (he_split hp).symm ?_
 exact rD Tryz.results125 ⟨rfl, G, by rw [sL hn, upd_same hf]; exact hG, rfl, rfl⟩ (List.Sublist.refl _) (fun d hd => by rw [List.mem_singleton.1 hd]; simp)
theorem c84 (mb b : Nat) (G : Gr) (v : V) (hp : Pl v) (hs : IsShape v) (hd : DeepV NoBoth v) (hU : Unf G v b) :
  Ct Tryz.prog 84 #[ptr b] [.many 124 (Gr.blks G)] [.graph mb G] (fun u M' D' => u = .tuple #[] ∧ ∃ G', Unf G' (chosenV (normalV v)) b ∧ M' = [.many 124 (Gr.blks G')] ∧ D' = [.graph mb G']) := by
 refine Ct.of_run (args := [ptr b]) Tryz.func84 (by kernel_rfl) rfl Tryz.ntmps84 rfl (fun c => ?_)
 refine run_nd (fun hnd => ?_)
 obtain ⟨σ, hσ⟩ := GOk.ex (graph_nodup hnd)
 obtain ⟨mu, hmu⟩ := tree_mu cho_good σ
 have hok := any_ok (P := Tryz.prog) (fo := 125) (mb := mb) hmu (fun σ b f ctx G hf hG => c125 mb σ b f ctx G hf hG)
 refine rO 4 rfl (op_callW rfl rfl rfl (c121 (anyT mb Cho σ mu) 125 #[] hok b ⟨v, ⟨hp, hs, hd⟩, (unf_usig hσ v b).1 hU⟩ ((), σ) G _ (fun d _ => .inl rfl) hσ) (fun d hd => hd) (fun u3 M3 D3 hv3 => ?_))
 obtain ⟨rfl, y3, G3, _, hG3, rfl, rfl, _, hdn, _⟩ := hv3
 obtain ⟨_, rfl, hU3, _⟩ := chosen_all hσ hG3 hp hs hd hdn hU
 exact zZ (rD Tryz.results84 ⟨rfl, G3, hU3, rfl, rfl⟩ (List.Sublist.refl _) (sub1 0 rfl))
theorem c44 (v : V) (x : Value) : CtR Tryz.prog 44 #[x] [.val x v] (fun u D' => ∃ y z, u = .tuple #[y, .bool (tb (ChoOk v))] ∧ RV z y D' ∧ (ChoOk v → z = chosenV (normalV v))) := by
 refine Ct.of_run (args := [x]) Tryz.func44 (by kernel_rfl) rfl Tryz.ntmps44 rfl (fun c => ?_)
 refine yX 0 rfl (fun A1 c1 A2 c2 hx hsz1 hk1 hk2 hi1 hi2 => ?_)
 subst hx
 refine rO 3 rfl (yM rfl rfl rfl (fun b1 => ?_))
 refine zA (zR ze25 rfl (fun b2 => ?_))
 change RunOps _ _ _ _ _ _ _ _ (HA.blk _ [_, _, _, _, _] _ :: _) _
 refine oO 7 rfl (zQ 1 rfl ag25 rfl rfl ?_)
 refine zA (zK rfl rfl rfl (c20 v _) (by first | exact sub1 0 rfl | exact sub1 1 rfl | exact sub1 2 rfl | exact sub1 3 rfl | exact sub1 4 rfl | exact sub1 5 rfl | exact sub1 6 rfl | exact sub1 7 rfl) ?_)
 refine oS 4 rfl (yQ (s := 7) rfl (fun h7 => ?_) (fun h7 => ?_))
 ·refine oO 9 rfl (yT rfl rfl (bu25 ..) ?_)
  refine zA (zF 0 (M' := [HA.blk _ [_, _, _, _, _] _, _]) rfl rfl rfl rfl si25 rfl rfl rfl ?_)
  refine oK 3 [3, 2] rfl rfl ?_
  have hno : ¬ ChoOk v := fun hc => by rw [tb_t hc.1] at h7; cases h7
  refine vX (M' := [HA.blk b2 [_, _, _, _, _] 25]) (by repeat (first | exact yL _ | refine zE 0 rfl ?_ | refine zE 1 rfl ?_ | refine zE 2 rfl ?_ | refine zE 3 rfl ?_ | refine zE 4 rfl ?_)) ?_
  refine yK (.val (.agg #[.int .i64 0, .int .i64 0, .string ⟨#[]⟩, .slice none 0 0, .slice none 0 0]) zV) (fun w ok _ => val_zero w ok) ?_
  exact wP 0 Tryz.results44 rfl rfl rfl ag25 ⟨rfl, .agg #[.int .i64 0, .int .i64 0, .string ⟨#[]⟩, .slice none 0 0, .slice none 0 0], zV, by rw [tb_f hno], ⟨none, 0, none, 0, rfl, rfl⟩, fun h => absurd h hno⟩ nS (sub1 0 rfl)
 have hsv0 := yP.1 (by simpa using h7)
 have hp : Pl v := ⟨12, hsv0.1.1⟩
 have hs := hsv0.2
 refine zI rfl rfl (zQ 1 rfl ag25 rfl rfl ?_)
 refine zI rfl rfl (zK rfl rfl rfl (c70 80 (fun z => (getV z k29).isSome = true ∧ (getV z k30).isSome = true) (fun z hz y => c80 z hz y) v hp _) (by first | exact sub1 0 rfl | exact sub1 1 rfl | exact sub1 2 rfl | exact sub1 3 rfl | exact sub1 4 rfl | exact sub1 5 rfl | exact sub1 6 rfl | exact sub1 7 rfl) ?_)
 refine oR 3 rfl (yA rfl (fun h10 => ?_) (fun h10 => ?_))
 ·refine rO 3 rfl (yT rfl rfl (bu25 ..) ?_)
  refine zA (zF 0 (M' := [HA.blk _ [_, _, _, _, _] _, _]) rfl rfl rfl rfl si25 rfl rfl rfl ?_)
  refine oK 3 [3, 2] rfl rfl ?_
  have hno : ¬ ChoOk v := fun hc => (yP.1 h10) hc.2
  refine vX (M' := [HA.blk b2 [_, _, _, _, _] 25]) (by repeat (first | exact yL _ | refine zE 0 rfl ?_ | refine zE 1 rfl ?_ | refine zE 2 rfl ?_ | refine zE 3 rfl ?_ | refine zE 4 rfl ?_)) ?_
  refine yK (.val (.agg #[.int .i64 0, .int .i64 0, .string ⟨#[]⟩, .slice none 0 0, .slice none 0 0]) zV) (fun w ok _ => val_zero w ok) ?_
  exact wP 0 Tryz.results44 rfl rfl rfl ag25 ⟨rfl, .agg #[.int .i64 0, .int .i64 0, .string ⟨#[]⟩, .slice none 0 0, .slice none 0 0], zV, by rw [tb_f hno], ⟨none, 0, none, 0, rfl, rfl⟩, fun h => absurd h hno⟩ nS (sub1 0 rfl)
 refine rO 4 rfl (zQ 1 rfl ag25 rfl rfl ?_)
 refine zA ?_
 refine zS rfl rfl rfl (c22 v hp.wf _) (by first | exact sub1 0 rfl | exact sub1 1 rfl | exact sub1 2 rfl | exact sub1 3 rfl | exact sub1 4 rfl | exact sub1 5 rfl | exact sub1 6 rfl | exact sub1 7 rfl) (fun u13 D13 hv13 => ?_)
 obtain ⟨A13, m13, B13, d13, rfl, rfl⟩ := hv13
 refine zA ?_
 refine zS rfl rfl rfl (c81 (normalV v) (pl_norm hs hp).wf _) (by first | exact sub1 0 rfl | exact sub1 1 rfl | exact sub1 2 rfl | exact sub1 3 rfl | exact sub1 4 rfl | exact sub1 5 rfl | exact sub1 6 rfl | exact sub1 7 rfl) (fun u14 D14 hv14 => ?_)
 obtain ⟨A14, m14, B14, d14, rfl, rfl⟩ := hv14
 refine zA (zF 0 (M' := [HA.blk _ [_, _, _, _, _] _, _]) rfl rfl rfl rfl si25 rfl rfl rfl ?_)
 refine oK 3 [3, 2] rfl rfl ?_
 have hyes : ChoOk v := ⟨hsv0, Classical.byContradiction fun hc => by rw [tb_t (p := ¬ DeepV (fun z => ¬ ((getV z k29).isSome = true ∧ (getV z k30).isSome = true)) v) hc] at h10; cases h10⟩
 refine vX (M' := [HA.blk b2 [_, _, _, _, _] 25]) (by repeat (first | exact yL _ | refine zE 0 rfl ?_ | refine zE 1 rfl ?_ | refine zE 2 rfl ?_ | refine zE 3 rfl ?_ | refine zE 4 rfl ?_)) ?_
 exact wP 0 Tryz.results44 rfl rfl rfl ag25 ⟨rfl, .agg #[.int .i64 (chosenV (normalV v)).kind, .int .i64 (chosenV (normalV v)).num, .string (chosenV (normalV v)).text, .slice A14 (chosenV (normalV v)).keys.length m14, .slice B14 (chosenV (normalV v)).items.length d14], _, by rw [tb_t hyes], ⟨_, _, _, _, rfl, rfl⟩, fun _ => rfl⟩ nS (sub1 0 rfl)
theorem c45 (fb : Addr) (sb : Nat) (v : V) (x : Value) (hp : Pl v) (hs : IsShape v) (hd : DeepV NoBoth v) : CtR Tryz.prog 45 #[x, .slice (some ⟨sb, 0, none⟩) 1 1] [.val x v, .dblk sb [.int .i64 3] 2, .tab, ftA fb] (RTV (wr (chosenV (normalV v)))) := by
 refine Ct.of_run (args := [x, .slice (some ⟨sb, 0, none⟩) 1 1]) Tryz.func45 (by kernel_rfl) rfl Tryz.ntmps45 rfl (fun c => ?_)
 refine yX 0 rfl (fun A1 c1 A2 c2 hx hsz1 hk1 hk2 hi1 hi2 => ?_)
 subst hx
 obtain ⟨hsc, hpc, _⟩ := cho_facts hp hs
 refine rO 3 rfl (yM rfl rfl rfl (fun b2 => ?_))
 refine zA (zR ze34 rfl (fun b4 => ?_))
 change RunOps _ _ _ _ _ _ _ _ (HA.blk _ [_, _, _, _, _, _] _ :: _) _
 refine oO 4 rfl (zQ 1 rfl ag25 rfl rfl ?_)
 refine zA ?_
 refine uF (M1 := []) rfl rfl rfl (c57 (ftA fb) false v _ (.inl (numC fb)) hp hs) rfl (by intro d hd; simp only [List.mem_cons, List.not_mem_nil, or_false] at hd ⊢; rcases hd with rfl | rfl | rfl <;> simp) (fun u9 M9 D9 hv9 => ?_)
 obtain ⟨b9, G9, mb9, es9, ck9, rfl, rfl, rfl, hU9, hO9, hN9⟩ := hv9
 refine oO 9 rfl (pA pn63 rfl rfl ?_)
 refine oO 9 rfl (zW sl54 rfl rfl ?_)
 refine oK 4 [15, 14, 13, 5, 4] rfl rfl ?_
 refine yI 1 (fun (⟨i, G⟩ : Nat × Gr) => i ≤ 1 ∧ (i = 0 → Unf G v b9) ∧ (i = 1 → Unf G (chosenV (normalV v)) b9)) (fun (⟨i, G⟩ : Nat × Gr) => [(15, .int .i64 ((i : Nat) : Int))]) (fun (⟨i, G⟩ : Nat × Gr) => .many 124 (Gr.blks G) :: HA.obj mb9 (.map es9 ck9) :: HA.blk b4 [.int .i64 0, .int .i64 0, .int .i64 0, .string ⟨#[]⟩, .slice none 0 0, .slice none 0 0] 34 :: HA.blk b2 [.int .i64 v.kind, .int .i64 v.num, .string v.text, .slice A1 v.keys.length c1, .slice A2 v.items.length c2] 25 :: []) (fun (⟨i, G⟩ : Nat × Gr) => .graph mb9 G :: .strs (.slice A1 v.keys.length c1) v.keys :: .vals (.slice A2 v.items.length c2) v.items :: .val (.agg #[.int .i64 v.kind, .int .i64 v.num, .string v.text, .slice A1 v.keys.length c1, .slice A2 v.items.length c2]) v :: .dblk sb [.int .i64 3] 2 :: .tab :: ftA fb :: []) (fun (⟨i, G⟩ : Nat × Gr) => 1 - i) (0, G9) (⟨Nat.zero_le _, fun _ => hU9, fun e => by cases e⟩) (eC rfl (eN _)) rfl rfl ?_ (eC rfl (eC rfl (eC rfl (eC rfl (eN _)))))
 intro ⟨i, G⟩ hI K hK
 replace hI : i ≤ 1 ∧ (i = 0 → Unf G v b9) ∧ (i = 1 → Unf G (chosenV (normalV v)) b9) := hI
 change Run _ _ _ _ _ [(15, _), (14, _), (13, _), (5, _), (4, _)] [_, _, _, _] [_, _, _, _, _, _, _]
 obtain ⟨hi, hI0, hI1⟩ := hI
 refine rO 3 rfl (yN rfl rfl rfl ?_)
 refine oR 2 rfl (zL rfl (fun h16 => ?_) (fun h16 => ?_))
 ·obtain rfl : i = 0 := by omega
  refine rO 6 rfl (xS sl54 rfl rfl rfl (by decide) ?_)
  refine zA (zG 4 sc2 rfl rfl rfl rfl ?_)
  refine oK 32 [28, 15, 14, 13, 5, 4] rfl rfl (rO 5 rfl ?_)
  refine uF (M1 := [_]) rfl rfl rfl (c84 mb9 b9 G v hp hs hd (hI0 rfl)) rfl (sub1 0 rfl) (fun u31 M31 D31 hv31 => ?_)
  obtain ⟨rfl, G31, hU31, rfl, rfl⟩ := hv31
  refine oO 5 rfl (yC rfl rfl (by omega) ?_)
  refine oR 3 rfl ?_
  exact kQ (hK (0 + 1, G31) (⟨by omega, (fun e => absurd e (by decide)), fun _ => hU31⟩) (by show 1 - (0 + 1) < 1 - 0; omega)) (eC rfl (eC rfl (eC rfl (eC rfl (eC rfl (eN _)))))) (hD := (subc 0 rfl sQ))
 obtain rfl : i = 1 := by omega
 have hU := hI1 rfl
 refine rS 5 rfl (ops_frGrC 0 mb9 rfl (fun w ok h g hg => ?_) rfl ?_)
 ·have hg9 : (DA.graph mb9 G).p w ok := dget h 0 rfl
  exact ⟨mb9, hg9 g hg⟩
 refine zA ?_
 refine zS rfl rfl rfl (c60 fb mb9 _ (chosenV (normalV v)) b9 hU hpc hsc) (by intro d hd; simp only [List.mem_cons, List.not_mem_nil, or_false] at hd ⊢; rcases hd with rfl | rfl | rfl <;> simp) (fun u34 D34 hv34 => ?_)
 obtain ⟨A34, m34, B34, d34, rfl, rfl⟩ := hv34
 refine zA (zF 1 (M' := [_, HA.blk _ [_, _, _, _, _, _] _, _]) rfl rfl rfl rfl si34 rfl rfl rfl ?_)
 refine zZ ?_
 refine vX (M' := [HA.blk b4 [_, _, _, _, _, _] 34]) (by repeat (first | exact yL _ | refine zE 0 rfl ?_ | refine zE 1 rfl ?_ | refine zE 2 rfl ?_ | refine zE 3 rfl ?_ | refine zE 4 rfl ?_)) ?_
 exact yZ 0 Tryz.results45 rfl rfl ag34 ⟨rfl, _, _, _, _, rfl, rfl⟩ nS (sub1 0 rfl)
theorem l12 (fb : Addr) (v : V) (x : Value) : CtV Tryz.prog 12 #[x] [.val x v, .tab, ftA fb] (.bool true) := by
 refine Ct.of_run (args := [x]) Tryz.func12 (by kernel_rfl) rfl Tryz.ntmps12 rfl (fun c => ?_)
 refine yX 0 rfl (fun A1 c1 A2 c2 hx hsz1 hk1 hk2 hi1 hi2 => ?_)
 subst hx
 refine rO 3 rfl (yM rfl rfl rfl (fun b1 => ?_))
 refine oO 7 rfl (zQ 0 rfl ag25 rfl rfl ?_)
 refine zA (zK rfl rfl rfl (c19 _ v) (by first | exact sub1 0 rfl | exact sub1 1 rfl | exact sub1 2 rfl | exact sub1 3 rfl | exact sub1 4 rfl | exact sub1 5 rfl | exact sub1 6 rfl | exact sub1 7 rfl) ?_)
 refine oR 3 rfl (yA rfl (fun h7 => ?_) (fun h7 => ?_))
 ·refine rR 5 rfl ?_
  exact zC Tryz.results12 rfl ⟨rfl, rfl, rfl⟩ nS (fun _ h => by cases h)
 refine rO 4 rfl (zQ 0 rfl ag25 rfl rfl ?_)
 refine zA ?_
 refine zS rfl rfl rfl (c44 v _) (by first | exact sub1 0 rfl | exact sub1 1 rfl | exact sub1 2 rfl | exact sub1 3 rfl | exact sub1 4 rfl | exact sub1 5 rfl | exact sub1 6 rfl | exact sub1 7 rfl) (fun u10 D10 hv10 => ?_)
 obtain ⟨_, z, rfl, ⟨A10, m10, B10, d10, rfl, rfl⟩, hz⟩ := hv10
 refine oO 7 rfl (zR ze25 rfl (fun b3 => ?_))
 change RunOps _ _ _ _ _ _ _ _ (HA.blk _ [_, _, _, _, _] _ :: _) _
 refine zA (zF 0 (M' := [HA.blk _ [_, _, _, _, _] _, _]) rfl rfl rfl rfl si25 rfl rfl rfl ?_)
 refine oK 3 [4, 3, 1] rfl rfl (rR 8 rfl ?_)
 refine yA rfl (fun h14 => ?_) (fun h14 => ?_)
 ·refine rR 5 rfl ?_
  exact zC Tryz.results12 rfl ⟨rfl, rfl, rfl⟩ nS (fun _ h => by cases h)
 have hok := yP.1 (by simpa using h14)
 obtain rfl := hz hok
 have hp : Pl v := ⟨12, hok.1.1.1⟩
 obtain ⟨hsc, hpc, hnn⟩ := cho_facts hp hok.1.2
 have hpw := pl_wr hsc hpc
 refine rR 2 rfl (yW yJ ?_)
 refine tM 0 rfl wanted0 (uY 1 rfl ag25 rfl) (tM 3 rfl wanted0 (uY 0 rfl ag25 rfl) ?_)
 refine zM 1 (by decide +kernel) ?_
 refine zN (I2 := [[3, 0]]) rfl wanted0 (by decide +kernel) (fun Kd hKd => ?_)
 refine zJ sl54 rfl rfl rfl rfl rfl (fun b16 => ?_)
 refine ops_frBlk 0 rfl rfl (hKd _ _ _ (hC (zO)) ?_)
 refine zM 2 (by decide +kernel) ?_
 refine zN (I2 := [[3]]) rfl wanted0 (by decide +kernel) (fun Kd hKd => ?_)
 refine zS rfl rfl rfl (c45 fb b16 v _ hp hok.1.2 hok.2) (by intro d hd; simp only [List.mem_cons, List.not_mem_nil, or_false] at hd ⊢; rcases hd with rfl | rfl | rfl | rfl <;> simp) (fun u17 D17 hv17 => ?_)
 obtain ⟨A17, m17, B17, d17, rfl, rfl⟩ := hv17
 refine hKd _ _ _ (hC (zO)) (zM 4 (by decide +kernel) ?_)
 refine zN (I2 := [[]]) rfl wanted0 (by decide +kernel) (fun Kd hKd => ?_)
 refine zK rfl rfl rfl (c27 (wr (chosenV (normalV v))) (chosenV (normalV v)) hpw.wf hpc.wf _ _ _ _ _) (by first | exact sub2 0 1 rfl rfl | exact sub2 0 2 rfl rfl | exact sub2 0 3 rfl rfl | exact sub2 0 4 rfl rfl | exact sub2 0 5 rfl rfl | exact sub2 0 6 rfl rfl | exact sub2 0 7 rfl rfl | exact sub2 1 0 rfl rfl | exact sub2 1 2 rfl rfl | exact sub2 1 3 rfl rfl | exact sub2 1 4 rfl rfl | exact sub2 1 5 rfl rfl | exact sub2 1 6 rfl rfl | exact sub2 1 7 rfl rfl | exact sub2 2 0 rfl rfl | exact sub2 2 1 rfl rfl | exact sub2 2 3 rfl rfl | exact sub2 2 4 rfl rfl | exact sub2 2 5 rfl rfl | exact sub2 2 6 rfl rfl | exact sub2 2 7 rfl rfl | exact sub2 3 0 rfl rfl | exact sub2 3 1 rfl rfl | exact sub2 3 2 rfl rfl | exact sub2 3 4 rfl rfl | exact sub2 3 5 rfl rfl | exact sub2 3 6 rfl rfl | exact sub2 3 7 rfl rfl | exact sub2 4 0 rfl rfl | exact sub2 4 1 rfl rfl | exact sub2 4 2 rfl rfl | exact sub2 4 3 rfl rfl | exact sub2 4 5 rfl rfl | exact sub2 4 6 rfl rfl | exact sub2 4 7 rfl rfl | exact sub2 5 0 rfl rfl | exact sub2 5 1 rfl rfl | exact sub2 5 2 rfl rfl | exact sub2 5 3 rfl rfl | exact sub2 5 4 rfl rfl | exact sub2 5 6 rfl rfl | exact sub2 5 7 rfl rfl | exact sub2 6 0 rfl rfl | exact sub2 6 1 rfl rfl | exact sub2 6 2 rfl rfl | exact sub2 6 3 rfl rfl | exact sub2 6 4 rfl rfl | exact sub2 6 5 rfl rfl | exact sub2 6 7 rfl rfl | exact sub2 7 0 rfl rfl | exact sub2 7 1 rfl rfl | exact sub2 7 2 rfl rfl | exact sub2 7 3 rfl rfl | exact sub2 7 4 rfl rfl | exact sub2 7 5 rfl rfl | exact sub2 7 6 rfl rfl) (hKd _ _ _ (zD (zO)) ?_)
 refine zT (tP 5 rfl wanted0 (xH rfl) ?_)
 refine yE (by decide +kernel) (rK 0 [2] rfl rfl ?_)
 exact zC Tryz.results12 rfl ⟨congrArg Value.bool (tb_t ((bare_wr _).trans (congrArg bareV hnn))), rfl, rfl⟩ nS (fun _ h => by cases h)
end Go.Jw

namespace Go.Jw
open Go Go.RowKit Go.Proofs Go.ChangeShapes Go.WideShapes Go.Proofs.YtlcfillobkdnmaaGreatDoor
set_option maxRecDepth 8000
theorem lt_of_cell {w : World} {a : Addr} {v : Value} (h : w.cell? a = some v) : a.block < w.heap.size := by
 rcases Nat.lt_or_ge a.block w.heap.size with hlt | hge
 ·exact hlt
 ·unfold World.cell? at h
  rw [Array.getElem?_eq_none hge] at h
  simp at h
theorem ce9 : Tryz.prog.cellsOf 9 = 1 := by kernel_rfl
theorem ce25 : Tryz.prog.cellsOf 25 = 5 := by kernel_rfl
theorem ce2 : Tryz.prog.cellsOf 2 = 1 := by kernel_rfl
theorem ce22 : Tryz.prog.cellsOf 22 = 1 := by kernel_rfl
theorem ce23 : Tryz.prog.cellsOf 23 = 1 := by kernel_rfl
section
variable {H : Type} {enc : TypeId × Value → H} {W : World} {held : Bool}
theorem strs_of_trod {n : Nat} {kv : Value} {x : DataW H × List MemPlace} (h : DataW.trod enc Tryz.prog W 0 (fun _ => true) held n 22 [kv] = some x) : ∃ ks, StrsP W (· < W.heap.size) kv ks := by
 rcases open_strings Tryz.underlying22 Tryz.underlying9 ce9 h with ⟨h1, _⟩ | ⟨a, len, cap, ss, h1, _, hl, hc, hs, _, hg, hsz⟩
 ·injection h1 with h1
  exact ⟨[], none, 0, h1, Nat.le_refl _, Nat.zero_le _, (fun s hs => by cases hs), fun i s hi => by simp at hi⟩
 ·injection h1 with h1
  simp only [if_true] at hs
  have hlen : (ss.take len).length = len := by rw [List.length_take]; omega
  refine ⟨ss.take len, some a, cap, by rw [hlen]; exact h1, by omega, hc, fun s hm => hsz s (List.mem_of_mem_take hm), fun i s hi => ?_⟩
  have hil : i < len := by
   have := (List.getElem?_eq_some_iff.1 hi).1
   omega
  have hi' : ss[i]? = some s := by rw [← hi, List.getElem?_take]; simp [hil]
  have hcell := hg i (by omega)
  have hd : ss.getD i ByteArray.empty = s := by rw [List.getD_eq_getElem?_getD, hi']; rfl
  rw [hd] at hcell
  exact ⟨a, rfl, by have := lt_of_cell hcell; rwa [uQ] at this, by rw [Nat.mul_one]; exact hcell⟩
theorem bulk_sum : ∀ (l : List V) (l' : List (DataW H)), l.length = l'.length → (∀ (i : Nat) t d, l[i]? = some t → l'[i]? = some d → 2 * nodes t ≤ Rows.uptoBulk d) → 2 * (l.map nodes).sum ≤ Rows.uptoBulkAll l'
  | [], _, _, _ => Nat.zero_le _
  | t :: l, [], h, _ => by simp at h
  | t :: l, d :: l', h, hi => by
    have h1 := hi 0 t d rfl rfl
    have h2 := bulk_sum l l' (by simpa using h) (fun i t d a b => hi (i + 1) t d (by simpa using a) (by simpa using b))
    simp only [List.map_cons, List.sum_cons, Rows.uptoBulkAll]
    omega
theorem val_of_trod (n : Nat) : ∀ (cs : List Value) (x : DataW H × List MemPlace), DataW.trod enc Tryz.prog W 0 (fun _ => true) held n 25 cs = some x → ∃ t, ValP W (· < W.heap.size) t (.agg cs.toArray) ∧ 2 * nodes t ≤ Rows.uptoBulk x.1 := by
  induction n using Nat.strongRecOn with
  | _ n IH =>
    intro cs x h
    obtain ⟨xs, m, hm, rfl, hl, hlen, hf⟩ := DataW.trod_struct Tryz.underlying25 h
    rw [ce25] at hl
    match cs, hl with
    | [c0, c1, c2, c3, c4], _ =>
    match xs, hlen with
    | [y0, y1, y2, y3, y4], _ =>
    have h0 : DataW.trod enc Tryz.prog W 0 (fun _ => true) held m 2 [c0] = some y0 := by simpa [ce2] using hf 0 _ rfl
    have h1 : DataW.trod enc Tryz.prog W 0 (fun _ => true) held m 2 [c1] = some y1 := by simpa [ce2] using hf 1 _ rfl
    have h2 : DataW.trod enc Tryz.prog W 0 (fun _ => true) held m 9 [c2] = some y2 := by simpa [ce9] using hf 2 _ rfl
    have h3 : DataW.trod enc Tryz.prog W 0 (fun _ => true) held m 22 [c3] = some y3 := by simpa [ce22] using hf 3 _ rfl
    have h4 : DataW.trod enc Tryz.prog W 0 (fun _ => true) held m 23 [c4] = some y4 := by simpa [ce23] using hf 4 _ rfl
    obtain ⟨k, e0, g0⟩ := DataW.trod_int Tryz.underlying2 h0
    obtain ⟨q, e1, _⟩ := DataW.trod_int Tryz.underlying2 h1
    obtain ⟨s, e2, _, hs⟩ := DataW.trod_string Tryz.underlying9 h2
    obtain ⟨ks, hks⟩ := strs_of_trod h3
    injection e0 with e0; injection e1 with e1; injection e2 with e2
    subst e0; subst e1; subst e2
    have hy0 : Rows.uptoBulk y0.1 = 1 := by rw [g0.1]; simp [Rows.uptoBulk]
    have hbulk : Rows.uptoBulk y4.1 + 2 ≤ Rows.uptoBulk (DataW.agg [y0.1, y1.1, y2.1, y3.1, y4.1]) := by
      simp only [Rows.uptoBulk, Rows.uptoBulkAll]
      omega
    show ∃ t, _ ∧ 2 * nodes t ≤ Rows.uptoBulk (DataW.agg [y0.1, y1.1, y2.1, y3.1, y4.1])
    rcases DataW.trod_slice Tryz.underlying23 h4 with ⟨h5, _⟩ | ⟨a, len, cap, elems, rest, m', hm', h5, h6, hb, hle, hc, hln, hel, hsp, _⟩
    · injection h5 with h5
      refine ⟨.mk k q s ks [], ?_, ?_⟩
      · simp only [ValP]
        exact ⟨_, _, rfl, hs, hks, none, 0, h5, Nat.le_refl _, Nat.zero_le _, by simp [ItemsP]⟩
      · rw [nodes_eq]; simp only [imk, List.map_nil, List.sum_nil]; omega
    · injection h5 with h5
      have hall : ∀ i, ∃ t, i < len → ∃ csi, ∃ y, elems[i]? = some y ∧ W.cells? 0 (a.add (i * 5)) 5 = some csi ∧ ValP W (· < W.heap.size) t (.agg csi.toArray) ∧ 2 * nodes t ≤ Rows.uptoBulk y.1 := by
        intro i
        by_cases hi : i < len
        · have he := hel i hi
          rw [ce25, List.getElem?_eq_getElem (by omega)] at he
          obtain ⟨csi, hcs, htr⟩ := Option.bind_eq_some_iff.1 he
          obtain ⟨t, ht, hnt⟩ := IH m' (by omega) csi _ htr
          exact ⟨t, fun _ => ⟨csi, _, List.getElem?_eq_getElem (by omega), hcs, ht, hnt⟩⟩
        · exact ⟨zV0, fun h => absurd h hi⟩
      obtain ⟨f, hfa⟩ := Classical.axiomOfChoice hall
      have hget : ∀ j t, ((List.range len).map f)[j]? = some t → j < len ∧ t = f j := by
        intro j t hj
        rw [List.getElem?_map] at hj
        obtain ⟨z, hz, rfl⟩ := Option.map_eq_some_iff.1 hj
        obtain ⟨h1, h2⟩ := List.getElem?_eq_some_iff.1 hz
        rw [List.getElem_range] at h2
        rw [List.length_range] at h1
        exact ⟨h1, by rw [h2]⟩
      refine ⟨.mk k q s ks ((List.range len).map f), ?_, ?_⟩
      · simp only [ValP]
        refine ⟨_, _, rfl, hs, hks, some a, cap, by rw [List.length_map, List.length_range]; exact h5, by rw [List.length_map, List.length_range]; exact hle, hc, ItemsP.of_get fun j t hj => ?_⟩
        obtain ⟨hjl, rfl⟩ := hget j t hj
        obtain ⟨csi, y, _, hcs, hv, _⟩ := hfa j hjl
        obtain ⟨_, hcl, hcc⟩ := World.cells?_some hcs
        have hadd : ∀ q, (a.add (j * 5)).add q = a.add ((0 + j) * 5 + q) := fun q => by rw [Nat.zero_add]; exact add_add' a _ _
        refine ⟨a, .agg csi.toArray, rfl, ?_, fun q u hq => ?_, hv⟩
        · have := hcc 0 (by omega)
          rw [List.getElem?_eq_getElem (by omega)] at this
          have := lt_of_cell this
          rwa [uQ, uQ] at this
        · have hq' : csi[q]? = some u := by simpa [Value.cells] using hq
          have hql := (List.getElem?_eq_some_iff.1 hq').1
          rw [← hadd, hcc q (by omega)]
          exact hq'
      · have hsum := bulk_sum ((List.range len).map f) (elems.map (·.1)) (by simp; omega) (fun i t d ht hd => by
          obtain ⟨hil, rfl⟩ := hget i t ht
          obtain ⟨csi, y, hy, _, _, hn⟩ := hfa i hil
          rw [List.getElem?_map, hy] at hd
          injection hd with hd
          rw [← hd]; exact hn)
        rw [nodes_eq]
        simp only [imk]
        have : Rows.uptoBulkAll (elems.map (·.1)) ≤ Rows.uptoBulk y4.1 := by
          rw [h6]
          simp only [Rows.uptoBulk]
          omega
        omega
end
theorem pX {P : Program} {w : World} {n : String} {d : DataW Unit} : ∀ {l : List (String × DataW Unit)} {ps : List MemPlace}, DataW.LaidVars P w l ps → (n, d) ∈ l →
    ∃ g t cs fuel p, P.globalNamed n = some g ∧ (P.globals[g]?).map (·.type) = some t ∧ w.var? P n = some cs ∧ DataW.trod (fun _ => ()) P w 0 (fun _ => true) false fuel t cs.toList = some (d, p)
  | [], _, _, h => by cases h
  | (n', d') :: l, ps, ⟨g, t, cs, fuel, p, q, h1, h2, h3, h4, h5, _⟩, h => by
    rcases List.mem_cons.1 h with h | h
    · injection h with h h'
      subst h; subst h'
      exact ⟨g, t, cs, fuel, p, h1, h2, h3, h4⟩
    · exact pX h5 h
theorem gU : Tryz.prog.globalNamed "internal/strconv.uint64pow10" = some 0 := by kernel_rfl
theorem gUt : (Tryz.prog.globals[0]?).map (·.type) = some 270 := by kernel_rfl
theorem ce235 : Tryz.prog.cellsOf 235 = 1 := by kernel_rfl
theorem ce270 : Tryz.prog.cellsOf 270 = 20 := by kernel_rfl
theorem tab_of {W : World} {l : List (String × DataW Unit)} (h : laidMet Tryz.prog l W) (hm : ("internal/strconv.uint64pow10", Rows.laid_internal_strconv_uint64pow10) ∈ l) : DA.tab.p W (· < W.heap.size) := by
  obtain ⟨ps, hv, _⟩ := h
  obtain ⟨g, t, cs, fuel, p, h1, h2, h3, h4⟩ := pX hv hm
  obtain rfl := Option.some.inj (gU.symm.trans h1)
  obtain rfl := Option.some.inj (gUt.symm.trans h2)
  have hc := Lib.cells_of_tab (zs := Lib.pow10Tab) Tryz.underlying270 Tryz.underlying235 ce235 ce270 h4
  unfold World.var? at h3
  rw [h1] at h3
  simp only [Option.bind_some] at h3
  cases hh : W.heap[0]? with
  | none => rw [hh] at h3; cases h3
  | some o =>
    rw [hh] at h3
    cases o with
    | cells c T fz =>
      simp at h3
      subst h3
      refine ⟨0, T, fz, gU, (Array.getElem?_eq_some_iff.1 hh).1, ?_⟩
      rw [hh, ← hc]
    | _ => simp at h3
def DA.any : DA := ⟨fun _ _ => True, fun _ _ _ => trivial⟩
theorem calls_of {f : FuncId} {args : Array Value} {D : List DA} {v : Value} {W : World} (h : CtV Tryz.prog f args D v) (hD : ∀ d ∈ D, d.p W (· < W.heap.size)) : Calls Tryz.prog f args W fun e W' => e = .returned v ∧ Below W.heap.size W W' :=
 (h.2 W (· < W.heap.size) (fun k hk => ⟨hk, by simp [foots]⟩) (by simp) (by simp [foots]) hD).mono fun e W' ⟨u, M', D', he, ⟨hu, hM, hd⟩, hc, _⟩ => ⟨by rw [he, hu], hc.below⟩
theorem laidOut : laidOutB Tryz.prog = true := by kernel_rfl
end Go.Jw

namespace Go.Jw
open Go Go.RowKit Go.Proofs Go.ChangeShapes Go.WideShapes Go.Proofs.YtlcfillobkdnmaaGreatDoor
set_option maxRecDepth 20000
section
variable {W : World}
noncomputable abbrev trodU (W : World) (fuel : Nat) (t : TypeId) (cs : List Value) := DataW.trod (fun _ => ()) Tryz.prog W 0 (fun _ => true) false fuel t cs
theorem var_of {l : List (String × DataW Unit)} (h : laidMet Tryz.prog l W) {n : String} {d : DataW Unit} (hm : (n, d) ∈ l) {g t : Nat} (hg : Tryz.prog.globalNamed n = some g) (ht : (Tryz.prog.globals[g]?).map (·.type) = some t) :
    ∃ (c : Array Value) (fuel : Nat) (p : List MemPlace), (∀ (i : Nat) v, c.toList[i]? = some v → W.cell? ⟨g, i, none⟩ = some v) ∧ trodU W fuel t c.toList = some (d, p) := by
  obtain ⟨ps, hv, _⟩ := h
  obtain ⟨g', t', cs, fuel, p, h1, h2, h3, h4⟩ := pX hv hm
  obtain rfl := Option.some.inj (hg.symm.trans h1)
  obtain rfl := Option.some.inj (ht.symm.trans h2)
  refine ⟨cs, fuel, p, fun i v hi => ?_, h4⟩
  unfold World.var? at h3
  rw [h1] at h3
  simp only [Option.bind_some] at h3
  unfold World.cell?
  cases hh : W.heap[g]? with
  | none => rw [hh] at h3; cases h3
  | some o =>
    rw [hh] at h3
    cases o with
    | cells c T fz =>
      simp at h3
      subst h3
      simpa using hi
    | _ => simp at h3
theorem trod_fl {fuel : Nat} {t : TypeId} {cs : List Value} {x : DataW Unit × List MemPlace} (ht : Tryz.prog.underlying t = some (.float .f64)) (h : trodU W fuel t cs = some x) : ∃ b, cs = [.float .f64 b] ∧ x = (.lit (.float .f64 b), []) := by
  cases fuel with
  | zero => simp [trodU, DataW.trod] at h
  | succ n =>
    unfold trodU DataW.trod at h
    rw [ht] at h
    split at h <;> simp_all
theorem ce359 : Tryz.prog.cellsOf 359 = 2 := by kernel_rfl
theorem ce360 : Tryz.prog.cellsOf 360 = 1392 := by kernel_rfl
theorem ce214 : Tryz.prog.cellsOf 214 = 1 := by kernel_rfl
theorem get1 {cs : List Value} {o : Nat} {v : Value} (h : (cs.drop o).take 1 = [v]) : cs[o]? = some v := by
 have := congrArg (·[0]?) h
 simpa [List.getElem?_take, List.getElem?_drop] using this
theorem pair_of {fuel : Nat} {cs : List Value} {x : DataW Unit × List MemPlace} {a b : Int} (h : trodU W fuel 359 cs = some x) (hx : x.1 = .agg [.lit (.int .u64 a), .lit (.int .u64 b)]) : cs[0]? = some (.int .u64 a) ∧ cs[1]? = some (.int .u64 b) := by
  obtain ⟨xs, n, _, rfl, _, hl, hf⟩ := DataW.trod_struct Tryz.underlying359 h
  have h0 := hf 0 _ rfl
  have h1 := hf 1 _ rfl
  have hxs : xs.map (·.1) = [.lit (.int .u64 a), .lit (.int .u64 b)] := by
    have := hx
    simpa using this
  match xs, hxs with
  | [y0, y1], hxs =>
    simp only [List.map_cons, List.map_nil, List.cons.injEq, and_true] at hxs
    obtain ⟨m0, e0, f0, _⟩ := DataW.trod_int Tryz.underlying235 h0
    obtain ⟨m1, e1, f1, _⟩ := DataW.trod_int Tryz.underlying235 h1
    subst f0; subst f1
    simp only [DataW.lit.injEq, Lit.int.injEq, true_and] at hxs
    obtain ⟨rfl, rfl⟩ := hxs
    exact ⟨get1 (o := 0) e0, get1 (o := 1) e1⟩
theorem row_of {fuel : Nat} {cs : List Value} {p : List MemPlace} (h : trodU W fuel 360 cs = some (Go.Pinned.pow10Tab, p)) (i : Nat) (hi : i < 696) {a b : Nat} (hr : Go.Pinned.pow10Rows[i]? = some (a, b)) : cs[2 * i]? = some (.int .u64 a) ∧ cs[2 * i + 1]? = some (.int .u64 b) := by
  cases fuel with
  | zero => simp [trodU, DataW.trod] at h
  | succ fuel =>
    simp only [trodU, DataW.trod, Tryz.underlying360, ce359, ce360] at h
    split at h
    · obtain ⟨xs, hm, hx⟩ := Option.map_eq_some_iff.1 h
      obtain ⟨y, hy, hf⟩ := Lib.mapM_at hm i i (by simp [hi])
      have hxs : xs.map (·.1) = Go.Pinned.pow10Rows.map fun x => .agg [.lit (.int .u64 x.1), .lit (.int .u64 x.2)] := by
        have := congrArg Prod.fst hx
        simpa [Go.Pinned.pow10Tab] using this
      have hy1 : y.1 = .agg [.lit (.int .u64 (a : Int)), .lit (.int .u64 (b : Int))] := by
        have := congrArg (·[i]?) hxs
        simp only [List.getElem?_map, hy, hr, Option.map_some, Option.some.injEq] at this
        exact this
      obtain ⟨h0, h1⟩ := pair_of hf hy1
      rw [List.getElem?_take, if_pos (by omega), List.getElem?_drop] at h0 h1
      rw [Nat.mul_comm 2 i]
      exact ⟨h0, h1⟩
    · cases h
theorem p10Tab (i : Nat) (h : i < 20) : Lib.pow10Tab[i]? = some ((10 ^ i : Nat) : Int) := (show ∀ i, i < 20 → Lib.pow10Tab[i]? = some ((10 ^ i : Nat) : Int) by decide) i h
theorem g4 : Tryz.prog.globalNamed "internal/strconv.optimize" = some 4 := by kernel_rfl
theorem g4t : (Tryz.prog.globals[4]?).map (·.type) = some 4 := by kernel_rfl
theorem g5 : Tryz.prog.globalNamed "internal/strconv.float64info" = some 5 := by kernel_rfl
theorem g5t : (Tryz.prog.globals[5]?).map (·.type) = some 305 := by kernel_rfl
theorem g10 : Tryz.prog.globalNamed "internal/strconv.float64pow10" = some 10 := by kernel_rfl
theorem g10t : (Tryz.prog.globals[10]?).map (·.type) = some 349 := by kernel_rfl
theorem g11 : Tryz.prog.globalNamed "internal/strconv.pow10Tab" = some 11 := by kernel_rfl
theorem g11t : (Tryz.prog.globals[11]?).map (·.type) = some 360 := by kernel_rfl
theorem r354 : Go.Pinned.pow10Rows[354]? = some (17592186044416000000, 0) := by kernel_rfl
theorem r355 : Go.Pinned.pow10Rows[355]? = some (10995116277760000000, 0) := by kernel_rfl
theorem ft_of {l : List (String × DataW Unit)} (h : laidMet Tryz.prog l W) (m0 : ("internal/strconv.uint64pow10", Rows.laid_internal_strconv_uint64pow10) ∈ l) (m4 : ("internal/strconv.optimize", Rows.laid_internal_strconv_optimize) ∈ l)
  (m5 : ("internal/strconv.float64info", Rows.laid_internal_strconv_float64info) ∈ l) (m10 : ("internal/strconv.float64pow10", Rows.laid_internal_strconv_float64pow10) ∈ l) (m11 : ("internal/strconv.pow10Tab", Rows.laid_internal_strconv_pow10Tab) ∈ l) :
  ∃ fb, (ftA fb).p W (· < W.heap.size) := by
 obtain ⟨c0, fu0, p0, k0, t0⟩ := var_of h m0 gU gUt
 obtain ⟨c4, fu4, p4, k4, t4⟩ := var_of h m4 g4 g4t
 obtain ⟨c5, fu5, p5, k5, t5⟩ := var_of h m5 g5 g5t
 obtain ⟨c10, fu10, p10, k10, t10⟩ := var_of h m10 g10 g10t
 obtain ⟨c11, fu11, p11, k11, t11⟩ := var_of h m11 g11 g11t
 have e0 := Lib.cells_of_tab (zs := Lib.pow10Tab) Tryz.underlying270 Tryz.underlying235 ce235 ce270 t0
 obtain ⟨b4, e4, f4⟩ := DataW.trod_bool Tryz.underlying4 t4
 have hb4 : b4 = true := by
  have := congrArg Prod.fst f4
  simp only [Rows.laid_internal_strconv_optimize, DataW.lit.injEq, Lit.bool.injEq] at this
  exact this.symm
 obtain ⟨xs5, n5, _, f5, _, _, hf5⟩ := DataW.trod_struct Tryz.underlying305 t5
 have h50 := hf5 0 _ rfl
 have hx5 : (xs5.map (·.1))[0]? = some (.lit (.int .u64 52)) := by
  have := congrArg Prod.fst f5
  simp only [Rows.laid_internal_strconv_float64info, DataW.agg.injEq] at this
  rw [← this]; rfl
 rw [List.getElem?_map] at hx5
 obtain ⟨y5, hy5, hy51⟩ := Option.map_eq_some_iff.1 hx5
 rw [hy5] at h50
 obtain ⟨m5v, e5, fy5, _⟩ := DataW.trod_int Tryz.underlying206 h50
 have hm5 : m5v = 52 := by
  rw [fy5] at hy51
  simp only [DataW.lit.injEq, Lit.int.injEq, true_and] at hy51
  exact hy51
 obtain ⟨h708, h709⟩ := row_of t11 354 (by decide) r354
 obtain ⟨h710, h711⟩ := row_of t11 355 (by decide) r355
 rcases DataW.trod_slice Tryz.underlying349 t10 with ⟨_, hx⟩ | ⟨a, len, cap, elems, rest, n10, _, e10, f10, _, hlc, _, hel, hell, hrest, _⟩
 ·have := congrArg Prod.fst hx
  simp [Rows.laid_internal_strconv_float64pow10] at this
 have hd := congrArg Prod.fst f10
 simp only [Rows.laid_internal_strconv_float64pow10, DataW.slice.injEq] at hd
 obtain ⟨hd1, hd2⟩ := hd
 have hlen : len = 23 := by
  rw [← hel]
  have := congrArg List.length hd1
  simpa using this.symm
 have hcap : cap = 23 := by
  have h1 := (hrest rfl).1
  have h2 : rest = [] := List.map_eq_nil_iff.1 hd2.symm
  rw [h2] at h1
  simp only [List.length_nil] at h1
  omega
 have hfl : ∀ i m, i < 23 → (elems.map (·.1))[i]? = some (.lit (.float .f64 m)) → W.cell? (a.add i) = some (.float .f64 m) := fun i m hi hm => by
  rw [List.getElem?_map] at hm
  obtain ⟨y, hy, hy1⟩ := Option.map_eq_some_iff.1 hm
  have h1 := hell i (by omega)
  rw [hy, ce214, Nat.mul_one] at h1
  obtain ⟨cs, hcs, ht⟩ := Option.bind_eq_some_iff.1 h1
  obtain ⟨q, rfl, fq⟩ := trod_fl Tryz.underlying214 ht
  rw [fq] at hy1
  simp only [DataW.lit.injEq, Lit.float.injEq, true_and] at hy1
  subst hy1
  unfold World.cells? at hcs
  split at hcs
  ·obtain ⟨v, hv, hv2⟩ := Lib.mapM_at hcs 0 0 rfl
   simp only [List.getElem?_cons_zero, Option.some.injEq] at hv
   rw [hv]
   simpa [Addr.add] using hv2
  ·cases hcs
 rw [← hd1] at hfl
 refine ⟨a, tab_of h m0, fun q hq => ?_⟩
 suffices hc : W.cell? q.1 = some q.2 from ⟨lt_of_cell hc, hc⟩
 simp only [ftL, List.cons_append, List.nil_append, List.mem_cons, List.mem_map, List.mem_range] at hq
 rcases hq with rfl | rfl | rfl | rfl | rfl | rfl | rfl | rfl | rfl | rfl | ⟨i, hi, rfl⟩
 ·exact k4 0 _ (by rw [e4, hb4]; rfl)
 ·exact k5 0 _ (by rw [← hm5]; exact get1 (o := 0) e5)
 ·exact k10 0 _ (by rw [e10, hlen, hcap]; rfl)
 ·exact hfl 1 _ (by decide) rfl
 ·exact hfl 2 _ (by decide) rfl
 ·exact hfl 6 _ (by decide) rfl
 ·exact k11 708 _ h708
 ·exact k11 709 _ h709
 ·exact k11 710 _ h710
 ·exact k11 711 _ h711
 ·exact k0 i _ (by rw [e0, List.getElem?_map, p10Tab i hi]; rfl)
end
end Go.Jw

namespace Go.Jw
open Go Go.Proofs Go.Proofs.YtlcfillobkdnmaaGreatDoor
set_option maxRecDepth 100000
theorem ty_later : Tryz.prog.laidByTextLater (Rows.fnTextedRow.laid.take 11) [.data, .data, .widerDeep, .widerDeep, .data, .data, .data, .data, .data, .sentinel, .sentinel] true :=
 Program.laidByTextLater_by_one 91 8 65 (by kernel_rfl) (by kernel_rfl) (by kernel_rfl) (by kernel_rfl) (by kernel_rfl) (by kernel_rfl) (fun _ _ => by kernel_rfl)
theorem ty_pin1 : Tryz.pinned.checked.prog.pinnedFits "internal/strconv.leftcheats" = true := by kernel_rfl
theorem ty_pin2 : Tryz.pinned.checked.prog.pinnedFits "internal/strconv.pow10Tab" = true := by kernel_rfl
theorem ty_own : Tryz.pinned.checked.prog.headLifts.contains "ownunsafe" = false := by kernel_rfl
theorem ty_fits : Tryz.pinned.checked.prog.listedFits Rows.fnTextedRow.laid = true := by
 unfold Program.listedFits
 rw [ty_own]
 kernel_rfl
theorem ty_row (c : OpenClaim) (hl : c.laid = Rows.fnTextedRow.laid) (hs : c.start = .entering) :
    c.laidByTextAt .later Tryz.pinned [.data, .data, .widerDeep, .widerDeep, .data, .data, .data, .data, .data, .sentinel, .sentinel, .pinned, .pinned] true :=
  OpenClaim.laidByTextAt_pinned (by rw [hl]; rfl) hs ty_later rfl (by rw [hl]; rfl) (by rw [hl]; rfl) rfl (fun y hy _e => by
    rw [hl] at hy
    simp only [Rows.fnTextedRow, List.zip_cons_cons, List.zip_nil_right, List.mem_cons, List.mem_nil_iff, or_false] at hy
    rcases hy with rfl | rfl | rfl | rfl | rfl | rfl | rfl | rfl | rfl | rfl | rfl | rfl | rfl
    iterate 11 exact nomatch _e
    exact ⟨ty_pin1, by kernel_rfl⟩
    exact ⟨ty_pin2, by kernel_rfl⟩) (by rw [hl]; exact ty_fits)
end Go.Jw

namespace Go.Jw
open Go Go.RowKit Go.Proofs Go.ChangeShapes Go.WideShapes Go.ChangeAt Go.Proofs.YtlcfillobkdnmaaGreatDoor
set_option maxRecDepth 8000
theorem post_of_below {H : Type} {enc : TypeId × Value → H} {P : Program} {f : Func} {s : ChangeSpec} {apart fresh handsOn again : Bool} {W W' : World} {args : Array Value} {v : Value} {ds gs : List (DataW H)} {before pa pv : List MemPlace}
  (hW : DataW.Whole enc P f.params.toList s.vars apart W args.toList ds gs before)
  (hres : ∀ (b : Nat) (sp : Nat → Bool) (hd : Bool), DataW.TrodAll enc P W' b sp hd f.resultTypes.toList (v.resultList f.resultTypes.size) (s.fn H (ds ++ gs)).results [])
  (hargs : ∀ sp : Nat → Bool, (∀ p ∈ before, sp p.block = true) → DataW.TrodAll enc P W' 0 sp true f.params.toList args.toList (s.fn H (ds ++ gs)).args pa)
  (hvars : ∀ sp : Nat → Bool, (∀ p ∈ before, sp p.block = true) → DataW.TrodVars enc P W' sp s.vars (s.fn H (ds ++ gs)).vars pv)
  (hps : before = pa ++ pv) (hb : Below W.heap.size W W')
  (hok : ∀ (j : Nat) (t : TypeId) (r : Value), f.resultTypes[j]? = some t → (v.resultList f.resultTypes.size)[j]? = some r → Value.okWide P W' .any 0 t r) :
  s.post enc P f apart fresh handsOn again W args v W' := by
 have hlt := hW.lt
 have hold : ∀ p ∈ before, (fun b => decide (b < W.heap.size)) p.block = true := fun p hp => by simpa using hlt p hp
 refine ⟨ds, gs, before, [], pa, pv, hW, hres _ _ _, hargs _ hold, hvars _ hold, hb.frame _, fun _ => ?_⟩
 obtain ⟨_, _, _, _, _, hz, hn⟩ := hW
 refine ⟨hok, _, _, ([] ++ pa) ++ pv, ⟨[] ++ pa, pv, trodAll_append (hargs _ (fun _ _ => rfl)) (hres _ _ _), hvars _ (fun _ _ => rfl), rfl, ?_, ?_⟩, ?_⟩
 ·intro b off hp
  have hp' : MemPlace.cell b off ∈ before := by rw [hps]; simpa using hp
  rw [hb.frozen (p := ⟨b, off, none⟩) (hlt _ hp')]
  exact hz b off hp'
 ·intro ha
  have := hn ha
  rw [hps] at this
  simpa using this
 ·intro p hp _
  rw [hps]
  simpa using hp
theorem own : ownKnob Tryz.prog.godebug = none := by kernel_rfl
theorem rd25 : Tryz.prog.readableRec 25 = true := by kernel_rfl
theorem lt25 : 25 < Tryz.prog.types.size := of_decide_eq_true (by kernel_rfl)
theorem met_eq (W : World) : laidMetH Tryz.prog Rows.fnTextedUptoRow.laid W = laidMet Tryz.prog Rows.fnTextedUptoRow.laid W := by kernel_rfl
end Go.Jw

namespace Go.Jw
open Go Go.RowKit Go.Proofs Go.ChangeShapes Go.WideShapes Go.Proofs.YtlcfillobkdnmaaGreatDoor
set_option maxRecDepth 100000
def setG (h : Array Obj) (g : Nat) (cs : List Value) : Array Obj := h.modify g fun
  | .cells _ t fr => .cells cs.toArray t fr
  | o => o
def wBlocks : Array Obj := #[.cells #[.string ⟨#[105, 110, 118, 97, 108, 105, 100, 32, 115, 121, 110, 116, 97, 120]⟩] 228 (0, 0), .cells #[.string ⟨#[118, 97, 108, 117, 101, 32, 111, 117, 116, 32, 111, 102, 32, 114, 97, 110, 103, 101]⟩] 228 (0, 0),
 .cells ([.float .f32 1065353216, .float .f32 1092616192, .float .f32 1120403456, .float .f32 1148846080, .float .f32 1176256512, .float .f32 1203982336, .float .f32 1232348160, .float .f32 1259902592, .float .f32 1287568416, .float .f32 1315859240, .float .f32 1343554297] : List Value).toArray 288 (0, 0), .cells ([.int .i64 1, .int .i64 3, .int .i64 6, .int .i64 9, .int .i64 13, .int .i64 16, .int .i64 19, .int .i64 23, .int .i64 26] : List Value).toArray 3 (0, 0), .cells ([.float .f64 4607182418800017408, .float .f64 4621819117588971520, .float .f64 4636737291354636288, .float .f64 4652007308841189376, .float .f64 4666723172467343360, .float .f64 4681608360884174848, .float .f64 4696837146684686336, .float .f64 4711630319722168320, .float .f64 4726483295884279808, .float .f64 4741671816366391296, .float .f64 4756540486875873280, .float .f64 4771362005757984768, .float .f64 4786511204640096256, .float .f64 4801453603149578240, .float .f64 4816244402031689728, .float .f64 4831355200913801216, .float .f64 4846369599423283200, .float .f64 4861130398305394688, .float .f64 4876203697187506176, .float .f64 4891288408196988160, .float .f64 4906019910204099648, .float .f64 4921056587992461136, .float .f64 4936209963552724370] : List Value).toArray 214 (0, 0),
 .cells (Pinned.cheatRows.flatMap fun x => [Value.int .i64 x.1, Value.string ⟨x.2.toArray⟩]).toArray 365 (0, 0)]
noncomputable def laidWorld (os : Os) : World := { World.holding Tryz.prog os ⟨wBlocks, #[], []⟩ with heap := (setG (setG (setG (setG (setG (setG (setG (setG (setG (setG (setG (setG (setG (World.holding Tryz.prog os ⟨wBlocks, #[], []⟩).heap 0 [.int .u64 1, .int .u64 10, .int .u64 100, .int .u64 1000, .int .u64 10000, .int .u64 100000, .int .u64 1000000, .int .u64 10000000, .int .u64 100000000, .int .u64 1000000000, .int .u64 10000000000, .int .u64 100000000000, .int .u64 1000000000000, .int .u64 10000000000000, .int .u64 100000000000000, .int .u64 1000000000000000, .int .u64 10000000000000000, .int .u64 100000000000000000, .int .u64 1000000000000000000, .int .u64 10000000000000000000]) 1 [.iface 226 (.pointer (some ⟨18, 0, none⟩))]) 2 [.iface 226 (.pointer (some ⟨19, 0, none⟩))]) 3 [.int .u64 23, .int .u64 8, .int .i64 (-127)]) 4 [.bool true]) 5 [.int .u64 52, .int .u64 11, .int .i64 (-1023)]) 6 [.int .u8 0, .int .u8 1, .int .u8 28, .int .u8 2, .int .u8 29, .int .u8 14, .int .u8 24, .int .u8 3, .int .u8 30, .int .u8 22, .int .u8 20, .int .u8 15, .int .u8 25, .int .u8 17, .int .u8 4, .int .u8 8, .int .u8 31, .int .u8 27, .int .u8 13, .int .u8 23, .int .u8 21, .int .u8 19, .int .u8 16, .int .u8 7, .int .u8 26, .int .u8 12, .int .u8 18, .int .u8 6, .int .u8 11, .int .u8 5, .int .u8 10, .int .u8 9]) 7 [.int .u8 0, .int .u8 1, .int .u8 56, .int .u8 2, .int .u8 57, .int .u8 49, .int .u8 28, .int .u8 3, .int .u8 61, .int .u8 58, .int .u8 42, .int .u8 50, .int .u8 38, .int .u8 29, .int .u8 17, .int .u8 4, .int .u8 62, .int .u8 47, .int .u8 59, .int .u8 36, .int .u8 45, .int .u8 43, .int .u8 51, .int .u8 22, .int .u8 53, .int .u8 39, .int .u8 33, .int .u8 30, .int .u8 24, .int .u8 18, .int .u8 12, .int .u8 5, .int .u8 63, .int .u8 55, .int .u8 48, .int .u8 27, .int .u8 60, .int .u8 41, .int .u8 37, .int .u8 16, .int .u8 46, .int .u8 35, .int .u8 44, .int .u8 21, .int .u8 52, .int .u8 32, .int .u8 23, .int .u8 11, .int .u8 54, .int .u8 26, .int .u8 40, .int .u8 15, .int .u8 34, .int .u8 20, .int .u8 31, .int .u8 10, .int .u8 25, .int .u8 14, .int .u8 19, .int .u8 9, .int .u8 13, .int .u8 8, .int .u8 7, .int .u8 6]) 8 [.slice (some ⟨20, 0, none⟩) 11 11]) 9 [.slice (some ⟨21, 0, none⟩) 9 9]) 10 [.slice (some ⟨22, 0, none⟩) 23 23]) 11 (Pinned.pow10Rows.flatMap fun x => [Value.int .u64 x.1, Value.int .u64 x.2])) 12 [.slice (some ⟨23, 0, none⟩) Pinned.cheatRows.length Pinned.cheatRows.length]) }
def inB (bs : List Nat) (ps : List MemPlace) : Bool := ps.all fun
  | .cell b _ => bs.contains b
  | .map _ => true
end Go.Jw

namespace Go.Jw
open Go Go.RowKit Go.Proofs Go.Proofs.YtlcfillobkdnmaaGreatDoor
set_option maxRecDepth 100000
theorem okRow_of {P : Program} {w : World} {t u : TypeId} {cs : List Value} {n : Nat} (ht : P.cellTypes P.depth t = some (List.replicate n u)) (hn : cs.length = n) (h0 : 0 < n) (h : cs.all (Cell.okRefB P w u) = true) : Row.okRefB P w t cs.toArray = true := by
 unfold Row.okRefB
 rw [ht]
 simp only [List.length_replicate, List.size_toArray, Bool.and_eq_true, List.all_eq_true, List.mem_range]
 refine ⟨by rw [hn]; simp, fun i hi => ?_⟩
 have hm : i % n < n := Nat.mod_lt _ h0
 rw [List.getElem?_toArray, List.getElem?_eq_getElem hi, List.getElem?_replicate, if_pos hm]
 exact List.all_eq_true.1 h _ (List.getElem_mem hi)
def oneB (P : Program) (w₀ w : World) (g : Nat) : Bool := match (w₀.heap[g]?).bind Obj.row? with
  | none => true
  | some (zero, t) => match w.heap[g]? with
    | some (.cells cs t' frozen) => decide (t' = t) && decide (frozen = (0, 0)) && cs.size == zero.size && (!P.buildable t || Row.okRefB P w t cs)
    | _ => false
theorem vars_of {P : Program} {w : World} (h : ∀ g, g < P.globals.size → oneB P (begin P (fun _ _ => 0) default).world w g = true) : w.variablesRefB P = true := by
 unfold World.variablesRefB
 exact List.all_eq_true.2 fun g hg => h g (List.mem_range.1 hg)
theorem oneB_of {P : Program} {w₀ w : World} {g : Nat} {zero : Array Value} {t : TypeId} {cs : List Value} (h0 : (w₀.heap[g]?).bind Obj.row? = some (zero, t)) (h1 : w.heap[g]? = some (.cells cs.toArray t (0, 0))) (hz : cs.length = zero.size) (h2 : Row.okRefB P w t cs.toArray = true) : oneB P w₀ w g = true := by
 unfold oneB
 rw [h0, h1]
 simp [hz, h2]
theorem vg0 (os : Os) (args : Array Value) : oneB Tryz.prog (begin Tryz.prog (fun _ _ => 0) default).world ((laidWorld os).forCall (fun _ _ => 0) ⟨#[], args, []⟩) 0 = true := by kernel_rfl
theorem vg1 (os : Os) (args : Array Value) : oneB Tryz.prog (begin Tryz.prog (fun _ _ => 0) default).world ((laidWorld os).forCall (fun _ _ => 0) ⟨#[], args, []⟩) 1 = true := by kernel_rfl
theorem vg2 (os : Os) (args : Array Value) : oneB Tryz.prog (begin Tryz.prog (fun _ _ => 0) default).world ((laidWorld os).forCall (fun _ _ => 0) ⟨#[], args, []⟩) 2 = true := by kernel_rfl
theorem vg3 (os : Os) (args : Array Value) : oneB Tryz.prog (begin Tryz.prog (fun _ _ => 0) default).world ((laidWorld os).forCall (fun _ _ => 0) ⟨#[], args, []⟩) 3 = true := by kernel_rfl
theorem vg4 (os : Os) (args : Array Value) : oneB Tryz.prog (begin Tryz.prog (fun _ _ => 0) default).world ((laidWorld os).forCall (fun _ _ => 0) ⟨#[], args, []⟩) 4 = true := by kernel_rfl
theorem vg5 (os : Os) (args : Array Value) : oneB Tryz.prog (begin Tryz.prog (fun _ _ => 0) default).world ((laidWorld os).forCall (fun _ _ => 0) ⟨#[], args, []⟩) 5 = true := by kernel_rfl
theorem vg6 (os : Os) (args : Array Value) : oneB Tryz.prog (begin Tryz.prog (fun _ _ => 0) default).world ((laidWorld os).forCall (fun _ _ => 0) ⟨#[], args, []⟩) 6 = true := by kernel_rfl
theorem vg7 (os : Os) (args : Array Value) : oneB Tryz.prog (begin Tryz.prog (fun _ _ => 0) default).world ((laidWorld os).forCall (fun _ _ => 0) ⟨#[], args, []⟩) 7 = true := by kernel_rfl
theorem vg8 (os : Os) (args : Array Value) : oneB Tryz.prog (begin Tryz.prog (fun _ _ => 0) default).world ((laidWorld os).forCall (fun _ _ => 0) ⟨#[], args, []⟩) 8 = true := by kernel_rfl
theorem vg9 (os : Os) (args : Array Value) : oneB Tryz.prog (begin Tryz.prog (fun _ _ => 0) default).world ((laidWorld os).forCall (fun _ _ => 0) ⟨#[], args, []⟩) 9 = true := by kernel_rfl
theorem vg10 (os : Os) (args : Array Value) : oneB Tryz.prog (begin Tryz.prog (fun _ _ => 0) default).world ((laidWorld os).forCall (fun _ _ => 0) ⟨#[], args, []⟩) 10 = true := by kernel_rfl
theorem vg12 (os : Os) (args : Array Value) : oneB Tryz.prog (begin Tryz.prog (fun _ _ => 0) default).world ((laidWorld os).forCall (fun _ _ => 0) ⟨#[], args, []⟩) 12 = true := by kernel_rfl
def pw : List Value := Pinned.pow10Rows.flatMap fun x => [Value.int .u64 x.1, Value.int .u64 x.2]
theorem v11z : ∃ zero, ((begin Tryz.prog (fun _ _ => 0) default).world.heap[11]?).bind Obj.row? = some (zero, 360) ∧ zero.size = 1392 := ⟨(Array.replicate 1392 (.int .u64 0)), by kernel_rfl, by kernel_rfl⟩
theorem v11h (os : Os) (args : Array Value) : ((laidWorld os).forCall (fun _ _ => 0) ⟨#[], args, []⟩).heap[11]? = some (.cells pw.toArray 360 (0, 0)) := by kernel_rfl
theorem v11t : Tryz.prog.cellTypes Tryz.prog.depth 360 = some (List.replicate 1392 235) := by kernel_rfl
theorem v11l : pw.length = 1392 := by kernel_rfl
theorem v11a (w : World) : pw.all (Cell.okRefB Tryz.prog w 235) = true := by kernel_rfl
theorem vg11 (os : Os) (args : Array Value) : oneB Tryz.prog (begin Tryz.prog (fun _ _ => 0) default).world ((laidWorld os).forCall (fun _ _ => 0) ⟨#[], args, []⟩) 11 = true := by
 obtain ⟨z, h0, hz⟩ := v11z
 exact oneB_of h0 (v11h os args) (by rw [hz]; exact v11l) (okRow_of v11t v11l (by decide) (v11a _))
theorem vars_ref (os : Os) (args : Array Value) : World.variablesRefB Tryz.prog ((laidWorld os).forCall (fun _ _ => 0) ⟨#[], args, []⟩) = true := vars_of fun g hg => by
  have h13 : Tryz.prog.globals.size = 13 := by kernel_rfl
  rw [h13] at hg
  match g, hg with
  | 0, _ => exact vg0 os args
  | 1, _ => exact vg1 os args
  | 2, _ => exact vg2 os args
  | 3, _ => exact vg3 os args
  | 4, _ => exact vg4 os args
  | 5, _ => exact vg5 os args
  | 6, _ => exact vg6 os args
  | 7, _ => exact vg7 os args
  | 8, _ => exact vg8 os args
  | 9, _ => exact vg9 os args
  | 10, _ => exact vg10 os args
  | 11, _ => exact vg11 os args
  | 12, _ => exact vg12 os args
end Go.Jw

namespace Go.Jw
open Go Go.RowKit Go.Proofs Go.ChangeShapes Go.WideShapes Go.Proofs.YtlcfillobkdnmaaGreatDoor
set_option maxRecDepth 100000
section
variable {P : Program} {w : World}
theorem wmapM_some {α β : Type} {f : α → Option β} {h : α → β} : ∀ (l : List α), (∀ x ∈ l, f x = some (h x)) → l.mapM f = some (l.map h)
  | [], _ => rfl
  | a :: l, H => by
    rw [List.mapM_cons, H a List.mem_cons_self, wmapM_some l (fun x hx => H x (List.mem_cons_of_mem _ hx))]
    rfl
theorem wcell_lit {b off : Nat} {T : TypeId} {cs : List Value} (h : w.heap[b]? = some (.cells cs.toArray T (0, 0))) : w.cell? ⟨b, off, none⟩ = cs[off]? := by
 unfold World.cell?
 simp [h]
theorem wcells_lit {b off n : Nat} {T : TypeId} {cs : List Value} (h : w.heap[b]? = some (.cells cs.toArray T (0, 0))) (hn : off + n ≤ cs.length) : w.cells? 0 ⟨b, off, none⟩ n = some ((cs.drop off).take n) := by
  unfold World.cells?
  rw [if_pos (Nat.zero_le _), wmapM_some (h := fun i => cs.getD (off + i) (.bool false)) (List.range n) (fun i hi => ?_)]
  · congr 1
    apply List.ext_getElem?
    intro j
    rw [List.getElem?_map, List.getElem?_take, List.getElem?_drop]
    by_cases hj : j < n
    · rw [if_pos hj, List.getElem?_range hj]
      simp [List.getD_eq_getElem?_getD, List.getElem?_eq_getElem (show off + j < cs.length by omega)]
    · rw [if_neg hj, List.getElem?_eq_none (by simpa using hj)]
      rfl
  · have hi' := List.mem_range.1 hi
    have : (⟨b, off, none⟩ : Addr).add i = ⟨b, off + i, none⟩ := by
      unfold Addr.add
      by_cases h0 : i = 0
      · subst h0; rfl
      · rw [if_neg h0]
    rw [this, wcell_lit h, List.getD_eq_getElem?_getD, List.getElem?_eq_getElem (show off + i < cs.length by omega)]
    rfl
variable {H : Type} {enc : TypeId × Value → H} {sp : Nat → Bool} {held : Bool}
theorem trod_sliceL {fuel : Nat} {t e : TypeId} {b n k : Nat} {T : TypeId} {cs : List Value} {g : Nat → DataW H} (ht : P.underlying t = some (.slice e)) (hk : P.cellsOf e = k) (hb : w.heap[b]? = some (.cells cs.toArray T (0, 0))) (hl : cs.length = n * k) (hn : n ≤ maxLen)
  (he : ∀ i, i < n → DataW.trod enc P w 0 sp held fuel e ((cs.drop (i * k)).take k) = some (g i, [])) : DataW.trod enc P w 0 sp held (fuel + 1) t [.slice (some ⟨b, 0, none⟩) n n] = some (.slice ((List.range n).map g) [], MemPlace.row ⟨b, 0, none⟩ (n * k)) := by
 subst hk
 have hel : ∀ i ∈ List.range n, (w.cells? 0 ((⟨b, 0, none⟩ : Addr).add (i * P.cellsOf e)) (P.cellsOf e)).bind (DataW.trod enc P w 0 sp held fuel e) = some ((g i, []) : DataW H × List MemPlace) := by
  intro i hi
  have hi' := List.mem_range.1 hi
  have : (⟨b, 0, none⟩ : Addr).add (i * P.cellsOf e) = ⟨b, i * P.cellsOf e, none⟩ := by
   unfold Addr.add
   by_cases h0 : i * P.cellsOf e = 0
   ·rw [if_pos h0, h0]
   ·rw [if_neg h0, Nat.zero_add]
  have hle : i * P.cellsOf e + P.cellsOf e ≤ cs.length := by
   rw [hl]
   have := Nat.mul_le_mul_right (P.cellsOf e) (show i + 1 ≤ n by omega)
   rw [Nat.succ_mul] at this
   exact this
  rw [this, wcells_lit hb hle, Option.bind_some, he i hi']
 unfold DataW.trod
 simp only [ht]
 rw [if_pos ⟨Nat.zero_le _, Nat.le_refl _, hn⟩, wmapM_some _ hel]
 simp [Nat.sub_self]
theorem trod_arrayL {fuel : Nat} {t e : TypeId} {n k : Nat} {cs : List Value} {g : Nat → DataW H} (ht : P.underlying t = some (.array n e)) (hk : P.cellsOf e = k) (hl : cs.length = P.cellsOf t)
  (he : ∀ i, i < n → DataW.trod enc P w 0 sp held fuel e ((cs.drop (i * k)).take k) = some (g i, [])) : DataW.trod enc P w 0 sp held (fuel + 1) t cs = some (.agg ((List.range n).map g), []) := by
 subst hk
 have hel : ∀ i ∈ List.range n, DataW.trod enc P w 0 sp held fuel e ((cs.drop (i * P.cellsOf e)).take (P.cellsOf e)) = some ((g i, []) : DataW H × List MemPlace) := fun i hi => he i (List.mem_range.1 hi)
 unfold DataW.trod
 simp only [ht]
 rw [if_pos hl, wmapM_some _ hel]
 simp
theorem vR {n : String} {d : DataW Unit} {r : List (String × DataW Unit)} {p q : List MemPlace} {g t T : Nat} {cs : List Value} (fuel : Nat) (hg : P.globalNamed n = some g) (ht : (P.globals[g]?).map (·.type) = some t) (hh : w.heap[g]? = some (.cells cs.toArray T (0, 0)))
  (hd : DataW.trod (fun _ => ()) P w 0 (fun _ => true) false fuel t cs = some (d, p)) (hr : DataW.LaidVars P w r q) : DataW.LaidVars P w ((n, d) :: r) (MemPlace.row ⟨g, 0, none⟩ cs.length ++ p ++ q) :=
 ⟨g, t, cs.toArray, fuel, p, q, hg, ht, by unfold World.var?; rw [hg]; simp [hh], by simpa using hd, hr, by simp⟩
def wplainB : Value → Bool
  | .iface .. => false
  | _ => true
theorem wE {b off : Nat} {T : TypeId} {cs : List Value} (h : w.heap[b]? = some (.cells cs.toArray T (0, 0))) (hn : cs.all wplainB = true) :
  (∃ c t, w.heap[b]? = some (.cells c t (0, 0))) ∧ ∀ u v, w.cell? ⟨b, off, none⟩ = some (.iface u v) → Value.okWide P w .any 0 u v := by
 refine ⟨⟨_, _, h⟩, fun u v hc => ?_⟩
 rw [wcell_lit h] at hc
 have := List.all_eq_true.1 hn _ (List.mem_of_getElem? hc)
 cases this
theorem wgood_one {b off : Nat} {T u : TypeId} {v : Value} (h : w.heap[b]? = some (.cells [.iface u v].toArray T (0, 0))) (hn : Value.okWideB P w u v = true) :
  (∃ c t, w.heap[b]? = some (.cells c t (0, 0))) ∧ ∀ u' v', w.cell? ⟨b, off, none⟩ = some (.iface u' v') → Value.okWide P w .any 0 u' v' := by
 refine ⟨⟨_, _, h⟩, fun u' v' hc => ?_⟩
 rw [wcell_lit h] at hc
 have := List.mem_of_getElem? hc
 simp only [List.mem_singleton, Value.iface.injEq] at this
 obtain ⟨rfl, rfl⟩ := this
 exact Value.okWide_of_okWideB hn
end
theorem wflat_at {α : Type} (f : α → List Value) (k : Nat) (hf : ∀ x, (f x).length = k) : ∀ (l : List α) (i : Nat) (h : i < l.length), ((l.flatMap f).drop (i * k)).take k = f l[i]
  | [], i, h => by simp at h
  | x :: l, 0, _ => by simp [List.flatMap_cons, ← hf x]
  | x :: l, i + 1, h => by
    rw [List.flatMap_cons, Nat.succ_mul, Nat.add_comm, ← List.drop_drop, List.drop_append_of_le_length (by rw [hf x]; exact Nat.le_refl _), ← hf x, List.drop_length, List.nil_append, hf x]
    exact wflat_at f k hf l i (by simpa using h)
theorem wflat_len {α : Type} (f : α → List Value) (k : Nat) (hf : ∀ x, (f x).length = k) (l : List α) : (l.flatMap f).length = l.length * k := by
  induction l with
  | nil => simp
  | cons x l ih => rw [List.flatMap_cons, List.length_append, hf, ih, List.length_cons, Nat.succ_mul, Nat.add_comm]
theorem wrange_get {α β : Type} [Inhabited α] (f : α → β) (l : List α) : (List.range l.length).map (fun i => f (l.getD i default)) = l.map f := by
  apply List.ext_getElem?
  intro j
  rw [List.getElem?_map, List.getElem?_map]
  by_cases h : j < l.length
  · rw [List.getElem?_range h, List.getElem?_eq_getElem h]
    simp [List.getD_eq_getElem?_getD, h]
  · rw [List.getElem?_eq_none (by simpa using h), List.getElem?_eq_none (by simpa using h)]
    rfl
def wlitOf : Value → DataW Unit
  | .int k n => .lit (.int k n)
  | .float k b => .lit (.float k b)
  | _ => .nil
def wlitB (d : TypeDesc) : Value → Bool
  | .int k n => (match d with | .int k' => decide (k = k') | _ => false) && (Lit.int k n).wf
  | .float k n => (match d with | .float k' => decide (k = k') | _ => false) && (Lit.float k n).wf
  | _ => false
theorem wtrod_lit {P : Program} {w : World} {sp : Nat → Bool} {held : Bool} {fuel : Nat} {e : TypeId} {d : TypeDesc} {v : Value} (he : P.underlying e = some d) (h : wlitB d v = true) : DataW.trod (fun _ => ()) P w 0 sp held (fuel + 1) e [v] = some (wlitOf v, []) := by
 unfold DataW.trod
 cases v <;> simp [wlitB] at h <;> cases d <;> simp at h <;> (obtain ⟨rfl, h2⟩ := h; simp [he, wlitOf, h2])
theorem trod_slitsL {P : Program} {w : World} {fuel : Nat} {t e : TypeId} {d : TypeDesc} {b n : Nat} {T : TypeId} {cs : List Value} (ht : P.underlying t = some (.slice e)) (he : P.underlying e = some d) (hk : P.cellsOf e = 1) (hb : w.heap[b]? = some (.cells cs.toArray T (0, 0))) (hl : cs.length = n) (hn : n ≤ maxLen) (hs : cs.all (wlitB d) = true) :
    DataW.trod (fun _ => ()) P w 0 (fun _ => true) false (fuel + 2) t [.slice (some ⟨b, 0, none⟩) n n] = some (.slice (cs.map wlitOf) [], MemPlace.row ⟨b, 0, none⟩ n) := by
  subst hl
  have := trod_sliceL (P := P) (w := w) (enc := fun _ => ()) (sp := fun _ => true) (held := false) (fuel := fuel + 1) (k := 1) (n := cs.length) (g := fun i => wlitOf (cs.getD i (.bool false))) ht hk hb (by omega) hn (fun i hi => by
    have h1 : (cs.drop (i * 1)).take 1 = [cs[i]] := by rw [Nat.mul_one, List.drop_eq_getElem_cons hi]; rfl
    rw [h1, wtrod_lit he (List.all_eq_true.1 hs _ (List.getElem_mem hi)), List.getD_eq_getElem?_getD, List.getElem?_eq_getElem hi]
    rfl)
  rw [this, Nat.mul_one]
  congr 2
  have h2 : (List.range cs.length).map (fun i => wlitOf (cs.getD i (.bool false))) = cs.map wlitOf := @wrange_get _ _ ⟨.bool false⟩ wlitOf cs
  rw [h2]
def pwF (x : Nat × Nat) : List Value := [Value.int .u64 x.1, Value.int .u64 x.2]
def chF (x : Nat × List UInt8) : List Value := [Value.int .i64 x.1, Value.string ⟨x.2.toArray⟩]
def wc0 : List Value := [.int .u64 1, .int .u64 10, .int .u64 100, .int .u64 1000, .int .u64 10000, .int .u64 100000, .int .u64 1000000, .int .u64 10000000, .int .u64 100000000, .int .u64 1000000000, .int .u64 10000000000, .int .u64 100000000000, .int .u64 1000000000000, .int .u64 10000000000000, .int .u64 100000000000000, .int .u64 1000000000000000, .int .u64 10000000000000000, .int .u64 100000000000000000, .int .u64 1000000000000000000, .int .u64 10000000000000000000]
def wc1 : List Value := [.iface 226 (.pointer (some ⟨18, 0, none⟩))]
def wc2 : List Value := [.iface 226 (.pointer (some ⟨19, 0, none⟩))]
def wc3 : List Value := [.int .u64 23, .int .u64 8, .int .i64 (-127)]
def wc4 : List Value := [.bool true]
def wc5 : List Value := [.int .u64 52, .int .u64 11, .int .i64 (-1023)]
def wc6 : List Value := [.int .u8 0, .int .u8 1, .int .u8 28, .int .u8 2, .int .u8 29, .int .u8 14, .int .u8 24, .int .u8 3, .int .u8 30, .int .u8 22, .int .u8 20, .int .u8 15, .int .u8 25, .int .u8 17, .int .u8 4, .int .u8 8, .int .u8 31, .int .u8 27, .int .u8 13, .int .u8 23, .int .u8 21, .int .u8 19, .int .u8 16, .int .u8 7, .int .u8 26, .int .u8 12, .int .u8 18, .int .u8 6, .int .u8 11, .int .u8 5, .int .u8 10, .int .u8 9]
def wc7 : List Value := [.int .u8 0, .int .u8 1, .int .u8 56, .int .u8 2, .int .u8 57, .int .u8 49, .int .u8 28, .int .u8 3, .int .u8 61, .int .u8 58, .int .u8 42, .int .u8 50, .int .u8 38, .int .u8 29, .int .u8 17, .int .u8 4, .int .u8 62, .int .u8 47, .int .u8 59, .int .u8 36, .int .u8 45, .int .u8 43, .int .u8 51, .int .u8 22, .int .u8 53, .int .u8 39, .int .u8 33, .int .u8 30, .int .u8 24, .int .u8 18, .int .u8 12, .int .u8 5, .int .u8 63, .int .u8 55, .int .u8 48, .int .u8 27, .int .u8 60, .int .u8 41, .int .u8 37, .int .u8 16, .int .u8 46, .int .u8 35, .int .u8 44, .int .u8 21, .int .u8 52, .int .u8 32, .int .u8 23, .int .u8 11, .int .u8 54, .int .u8 26, .int .u8 40, .int .u8 15, .int .u8 34, .int .u8 20, .int .u8 31, .int .u8 10, .int .u8 25, .int .u8 14, .int .u8 19, .int .u8 9, .int .u8 13, .int .u8 8, .int .u8 7, .int .u8 6]
def wc8 : List Value := [.slice (some ⟨20, 0, none⟩) 11 11]
def wc9 : List Value := [.slice (some ⟨21, 0, none⟩) 9 9]
def wc10 : List Value := [.slice (some ⟨22, 0, none⟩) 23 23]
def wc11 : List Value := Pinned.pow10Rows.flatMap pwF
def wc12 : List Value := [.slice (some ⟨23, 0, none⟩) Pinned.cheatRows.length Pinned.cheatRows.length]
def wc18 : List Value := [.string ⟨#[105, 110, 118, 97, 108, 105, 100, 32, 115, 121, 110, 116, 97, 120]⟩]
def wc19 : List Value := [.string ⟨#[118, 97, 108, 117, 101, 32, 111, 117, 116, 32, 111, 102, 32, 114, 97, 110, 103, 101]⟩]
def wc20 : List Value := [.float .f32 1065353216, .float .f32 1092616192, .float .f32 1120403456, .float .f32 1148846080, .float .f32 1176256512, .float .f32 1203982336, .float .f32 1232348160, .float .f32 1259902592, .float .f32 1287568416, .float .f32 1315859240, .float .f32 1343554297]
def wc21 : List Value := [.int .i64 1, .int .i64 3, .int .i64 6, .int .i64 9, .int .i64 13, .int .i64 16, .int .i64 19, .int .i64 23, .int .i64 26]
def wc22 : List Value := [.float .f64 4607182418800017408, .float .f64 4621819117588971520, .float .f64 4636737291354636288, .float .f64 4652007308841189376, .float .f64 4666723172467343360, .float .f64 4681608360884174848, .float .f64 4696837146684686336, .float .f64 4711630319722168320, .float .f64 4726483295884279808, .float .f64 4741671816366391296, .float .f64 4756540486875873280, .float .f64 4771362005757984768, .float .f64 4786511204640096256, .float .f64 4801453603149578240, .float .f64 4816244402031689728, .float .f64 4831355200913801216, .float .f64 4846369599423283200, .float .f64 4861130398305394688, .float .f64 4876203697187506176, .float .f64 4891288408196988160, .float .f64 4906019910204099648, .float .f64 4921056587992461136, .float .f64 4936209963552724370]
def wc23 : List Value := Pinned.cheatRows.flatMap chF
noncomputable def wW (os : Os) (args : Array Value) : World := ((laidWorld os).forCall (fun _ _ => 0) ⟨#[], args, []⟩).memory
theorem wh0 (os : Os) (args : Array Value) : (wW os args).heap[0]? = some (.cells wc0.toArray 270 (0, 0)) := by kernel_rfl
theorem wh1 (os : Os) (args : Array Value) : (wW os args).heap[1]? = some (.cells wc1.toArray 77 (0, 0)) := by kernel_rfl
theorem wh2 (os : Os) (args : Array Value) : (wW os args).heap[2]? = some (.cells wc2.toArray 77 (0, 0)) := by kernel_rfl
theorem wh3 (os : Os) (args : Array Value) : (wW os args).heap[3]? = some (.cells wc3.toArray 305 (0, 0)) := by kernel_rfl
theorem wh4 (os : Os) (args : Array Value) : (wW os args).heap[4]? = some (.cells wc4.toArray 4 (0, 0)) := by kernel_rfl
theorem wh5 (os : Os) (args : Array Value) : (wW os args).heap[5]? = some (.cells wc5.toArray 305 (0, 0)) := by kernel_rfl
theorem wh6 (os : Os) (args : Array Value) : (wW os args).heap[6]? = some (.cells wc6.toArray 323 (0, 0)) := by kernel_rfl
theorem wh7 (os : Os) (args : Array Value) : (wW os args).heap[7]? = some (.cells wc7.toArray 324 (0, 0)) := by kernel_rfl
theorem wh8 (os : Os) (args : Array Value) : (wW os args).heap[8]? = some (.cells wc8.toArray 340 (0, 0)) := by kernel_rfl
theorem wh9 (os : Os) (args : Array Value) : (wW os args).heap[9]? = some (.cells wc9.toArray 139 (0, 0)) := by kernel_rfl
theorem wh10 (os : Os) (args : Array Value) : (wW os args).heap[10]? = some (.cells wc10.toArray 349 (0, 0)) := by kernel_rfl
theorem wh11 (os : Os) (args : Array Value) : (wW os args).heap[11]? = some (.cells wc11.toArray 360 (0, 0)) := by kernel_rfl
theorem wh12 (os : Os) (args : Array Value) : (wW os args).heap[12]? = some (.cells wc12.toArray 366 (0, 0)) := by kernel_rfl
theorem wh18 (os : Os) (args : Array Value) : (wW os args).heap[18]? = some (.cells wc18.toArray 228 (0, 0)) := by kernel_rfl
theorem wh19 (os : Os) (args : Array Value) : (wW os args).heap[19]? = some (.cells wc19.toArray 228 (0, 0)) := by kernel_rfl
theorem wh20 (os : Os) (args : Array Value) : (wW os args).heap[20]? = some (.cells wc20.toArray 288 (0, 0)) := by kernel_rfl
theorem wh21 (os : Os) (args : Array Value) : (wW os args).heap[21]? = some (.cells wc21.toArray 3 (0, 0)) := by kernel_rfl
theorem wh22 (os : Os) (args : Array Value) : (wW os args).heap[22]? = some (.cells wc22.toArray 214 (0, 0)) := by kernel_rfl
theorem wh23 (os : Os) (args : Array Value) : (wW os args).heap[23]? = some (.cells wc23.toArray 365 (0, 0)) := by kernel_rfl
theorem wt0 (w : World) : DataW.trod (fun _ => ()) Tryz.prog w 0 (fun _ => true) false 8 270 wc0 = some (Rows.laid_internal_strconv_uint64pow10, []) := by kernel_rfl
theorem wt3 (w : World) : DataW.trod (fun _ => ()) Tryz.prog w 0 (fun _ => true) false 8 305 wc3 = some (Rows.laid_internal_strconv_float32info, []) := by kernel_rfl
theorem wt4 (w : World) : DataW.trod (fun _ => ()) Tryz.prog w 0 (fun _ => true) false 8 4 wc4 = some (Rows.laid_internal_strconv_optimize, []) := by kernel_rfl
theorem wt5 (w : World) : DataW.trod (fun _ => ()) Tryz.prog w 0 (fun _ => true) false 8 305 wc5 = some (Rows.laid_internal_strconv_float64info, []) := by kernel_rfl
theorem wt6 (w : World) : DataW.trod (fun _ => ()) Tryz.prog w 0 (fun _ => true) false 8 323 wc6 = some (Rows.laid_math_bits_deBruijn32tab, []) := by kernel_rfl
theorem wt7 (w : World) : DataW.trod (fun _ => ()) Tryz.prog w 0 (fun _ => true) false 8 324 wc7 = some (Rows.laid_math_bits_deBruijn64tab, []) := by kernel_rfl
theorem wt8 (os : Os) (args : Array Value) : DataW.trod (fun _ => ()) Tryz.prog (wW os args) 0 (fun _ => true) false 8 340 wc8 = some (Rows.laid_internal_strconv_float32pow10, MemPlace.row ⟨20, 0, none⟩ 11) :=
 (trod_slitsL (fuel := 6) (e := 288) (d := .float .f32) (cs := wc20) (n := 11) (by kernel_rfl) (by kernel_rfl) (by kernel_rfl) (wh20 os args) rfl (by unfold maxLen; omega) (by kernel_rfl)).trans (by kernel_rfl)
theorem wt9 (os : Os) (args : Array Value) : DataW.trod (fun _ => ()) Tryz.prog (wW os args) 0 (fun _ => true) false 8 139 wc9 = some (Rows.laid_internal_strconv_powtab, MemPlace.row ⟨21, 0, none⟩ 9) :=
 (trod_slitsL (fuel := 6) (e := 3) (d := .int .i64) (cs := wc21) (n := 9) (by kernel_rfl) (by kernel_rfl) (by kernel_rfl) (wh21 os args) rfl (by unfold maxLen; omega) (by kernel_rfl)).trans (by kernel_rfl)
theorem wt10 (os : Os) (args : Array Value) : DataW.trod (fun _ => ()) Tryz.prog (wW os args) 0 (fun _ => true) false 8 349 wc10 = some (Rows.laid_internal_strconv_float64pow10, MemPlace.row ⟨22, 0, none⟩ 23) :=
 (trod_slitsL (fuel := 6) (e := 214) (d := .float .f64) (cs := wc22) (n := 23) (by kernel_rfl) (by kernel_rfl) (by kernel_rfl) (wh22 os args) rfl (by unfold maxLen; omega) (by kernel_rfl)).trans (by kernel_rfl)
theorem wt1 (os : Os) (args : Array Value) : DataW.trod (fun _ => ()) Tryz.prog (wW os args) 0 (fun _ => true) false 8 77 wc1 = some (Rows.laid_strconv_ErrSyntax, MemPlace.row ⟨18, 0, none⟩ 1) := by kernel_rfl
theorem wo1 (os : Os) (args : Array Value) : Value.okWideB Tryz.prog (wW os args) 226 (.pointer (some ⟨18, 0, none⟩)) = true := by kernel_rfl
theorem wt2 (os : Os) (args : Array Value) : DataW.trod (fun _ => ()) Tryz.prog (wW os args) 0 (fun _ => true) false 8 77 wc2 = some (Rows.laid_strconv_ErrRange, MemPlace.row ⟨19, 0, none⟩ 1) := by kernel_rfl
theorem wo2 (os : Os) (args : Array Value) : Value.okWideB Tryz.prog (wW os args) 226 (.pointer (some ⟨19, 0, none⟩)) = true := by kernel_rfl
theorem wpw_one (w : World) (x : Nat × Nat) (h1 : (Lit.int .u64 (x.1 : Int)).wf = true) (h2 : (Lit.int .u64 (x.2 : Int)).wf = true) : DataW.trod (fun _ => ()) Tryz.prog w 0 (fun _ => true) false 7 359 (pwF x) = some (.agg [.lit (.int .u64 x.1), .lit (.int .u64 x.2)], []) := by
 have e1 : Tryz.prog.underlying 359 = some (.struct #[⟨ "hi", 235, 0, false, "", "internal/strconv", 0⟩, ⟨ "lo", 235, 1, false, "", "internal/strconv", 8⟩]) := by kernel_rfl
 have e2 : Tryz.prog.cellsOf 359 = 2 := by kernel_rfl
 have e3 : Tryz.prog.cellsOf 235 = 1 := by kernel_rfl
 have e4 : Tryz.prog.underlying 235 = some (.int .u64) := by kernel_rfl
 unfold DataW.trod
 simp only [e1, pwF, e2]
 rw [if_pos (show ([Value.int .u64 (x.1 : Int), Value.int .u64 (x.2 : Int)] : List Value).length = 2 from rfl)]
 simp only [List.mapM_cons, List.mapM_nil, e3]
 have t1 : DataW.trod (fun _ => ()) Tryz.prog w 0 (fun _ => true) false 6 235 [Value.int .u64 x.1] = some (.lit (.int .u64 x.1), []) := wtrod_lit (fuel := 5) e4 (by simp [wlitB, h1])
 have t2 : DataW.trod (fun _ => ()) Tryz.prog w 0 (fun _ => true) false 6 235 [Value.int .u64 x.2] = some (.lit (.int .u64 x.2), []) := wtrod_lit (fuel := 5) e4 (by simp [wlitB, h2])
 simp [t1, t2]
theorem wt11 (w : World) : DataW.trod (fun _ => ()) Tryz.prog w 0 (fun _ => true) false 8 360 wc11 = some (Rows.laid_internal_strconv_pow10Tab, []) := by
  have hl : wc11.length = Pinned.pow10Rows.length * 2 := wflat_len pwF 2 (fun _ => rfl) _
  have hr : Pinned.pow10Rows.length = 696 := by kernel_rfl
  have hwf : Pinned.pow10Rows.all (fun x => (Lit.int .u64 x.1).wf && (Lit.int .u64 x.2).wf) = true := by kernel_rfl
  have := trod_arrayL (P := Tryz.prog) (w := w) (enc := fun _ => ()) (sp := fun _ => true) (held := false) (fuel := 7) (t := 360) (e := 359) (n := 696) (k := 2) (cs := wc11) (g := fun i => (fun x : Nat × Nat => (.agg [.lit (.int .u64 x.1), .lit (.int .u64 x.2)] : DataW Unit)) (Pinned.pow10Rows.getD i default)) (by kernel_rfl) (by kernel_rfl) (by rw [hl, hr]; kernel_rfl) (fun i hi => by
    have hi' : i < Pinned.pow10Rows.length := by rw [hr]; exact hi
    have h1 : (wc11.drop (i * 2)).take 2 = pwF Pinned.pow10Rows[i] := wflat_at pwF 2 (fun _ => rfl) _ i hi'
    have h2 := List.all_eq_true.1 hwf _ (List.getElem_mem hi')
    simp only [Bool.and_eq_true] at h2
    rw [h1, List.getD_eq_getElem?_getD, List.getElem?_eq_getElem hi', Option.getD_some]
    exact wpw_one w _ h2.1 h2.2)
  rw [this]
  have h3 := wrange_get (fun x : Nat × Nat => (.agg [.lit (.int .u64 x.1), .lit (.int .u64 x.2)] : DataW Unit)) Pinned.pow10Rows
  rw [hr] at h3
  rw [h3]
  rfl
theorem wch_one (w : World) (x : Nat × List UInt8) (h1 : (Lit.int .i64 (x.1 : Int)).wf = true) (h2 : x.2.length ≤ maxLen) : DataW.trod (fun _ => ()) Tryz.prog w 0 (fun _ => true) false 7 365 (chF x) = some (.agg [.lit (.int .i64 x.1), .lit (.string x.2)], []) := by
 have e1 : Tryz.prog.underlying 365 = some (.struct #[⟨ "delta", 3, 0, false, "", "internal/strconv", 0⟩, ⟨ "cutoff", 9, 1, false, "", "internal/strconv", 8⟩]) := by kernel_rfl
 have e2 : Tryz.prog.cellsOf 365 = 2 := by kernel_rfl
 have e3 : Tryz.prog.cellsOf 3 = 1 := by kernel_rfl
 have e4 : Tryz.prog.cellsOf 9 = 1 := by kernel_rfl
 have e5 : Tryz.prog.underlying 3 = some (.int .i64) := by kernel_rfl
 have e6 : Tryz.prog.underlying 9 = some .string := by kernel_rfl
 have t1 : DataW.trod (fun _ => ()) Tryz.prog w 0 (fun _ => true) false 6 3 [Value.int .i64 x.1] = some (.lit (.int .i64 x.1), []) := wtrod_lit (fuel := 5) e5 (by simp [wlitB, h1])
 have t2 : DataW.trod (fun _ => ()) Tryz.prog w 0 (fun _ => true) false 6 9 [Value.string ⟨x.2.toArray⟩] = some (.lit (.string x.2), []) := by
  unfold DataW.trod
  have : (ByteArray.mk x.2.toArray).size ≤ maxLen := by simpa [ByteArray.size] using h2
  simp [e6, this]
 unfold DataW.trod
 simp only [e1, chF, e2]
 rw [if_pos (show ([Value.int .i64 (x.1 : Int), Value.string ⟨x.2.toArray⟩] : List Value).length = 2 from rfl)]
 simp only [List.mapM_cons, List.mapM_nil, e3, e4]
 simp [t1, t2]
theorem wt12 (os : Os) (args : Array Value) : DataW.trod (fun _ => ()) Tryz.prog (wW os args) 0 (fun _ => true) false 8 366 wc12 = some (Rows.laid_internal_strconv_leftcheats, MemPlace.row ⟨23, 0, none⟩ 122) := by
  have hl : wc23.length = Pinned.cheatRows.length * 2 := wflat_len chF 2 (fun _ => rfl) _
  have hr : Pinned.cheatRows.length = 61 := by kernel_rfl
  have hwf : Pinned.cheatRows.all (fun x => (Lit.int .i64 x.1).wf && decide (x.2.length ≤ maxLen)) = true := by kernel_rfl
  have := trod_sliceL (P := Tryz.prog) (w := wW os args) (enc := fun _ => ()) (sp := fun _ => true) (held := false) (fuel := 7) (t := 366) (e := 365) (b := 23) (n := 61) (k := 2) (T := 365) (cs := wc23) (g := fun i => (fun x : Nat × List UInt8 => (.agg [.lit (.int .i64 x.1), .lit (.string x.2)] : DataW Unit)) (Pinned.cheatRows.getD i default)) (by kernel_rfl) (by kernel_rfl) (wh23 os args) (by rw [hl, hr]) (by unfold maxLen; omega) (fun i hi => by
    have hi' : i < Pinned.cheatRows.length := by rw [hr]; exact hi
    have h1 : (wc23.drop (i * 2)).take 2 = chF Pinned.cheatRows[i] := wflat_at chF 2 (fun _ => rfl) _ i hi'
    have h2 := List.all_eq_true.1 hwf _ (List.getElem_mem hi')
    simp only [Bool.and_eq_true, decide_eq_true_eq] at h2
    rw [h1, List.getD_eq_getElem?_getD, List.getElem?_eq_getElem hi', Option.getD_some]
    exact wch_one _ _ h2.1 h2.2)
  have h3 := wrange_get (fun x : Nat × List UInt8 => (.agg [.lit (.int .i64 x.1), .lit (.string x.2)] : DataW Unit)) Pinned.cheatRows
  rw [hr] at h3
  rw [h3] at this
  exact this
def wPs : List MemPlace := MemPlace.row ⟨6, 0, none⟩ wc6.length ++ [] ++ (MemPlace.row ⟨7, 0, none⟩ wc7.length ++ [] ++ (MemPlace.row ⟨3, 0, none⟩ wc3.length ++ [] ++ (MemPlace.row ⟨5, 0, none⟩ wc5.length ++ [] ++ (MemPlace.row ⟨4, 0, none⟩ wc4.length ++ [] ++ (MemPlace.row ⟨9, 0, none⟩ wc9.length ++ MemPlace.row ⟨21, 0, none⟩ 9 ++ (MemPlace.row ⟨10, 0, none⟩ wc10.length ++ MemPlace.row ⟨22, 0, none⟩ 23 ++ (MemPlace.row ⟨8, 0, none⟩ wc8.length ++ MemPlace.row ⟨20, 0, none⟩ 11 ++ (MemPlace.row ⟨0, 0, none⟩ wc0.length ++ [] ++ (MemPlace.row ⟨2, 0, none⟩ wc2.length ++ MemPlace.row ⟨19, 0, none⟩ 1 ++ (MemPlace.row ⟨1, 0, none⟩ wc1.length ++ MemPlace.row ⟨18, 0, none⟩ 1 ++ (MemPlace.row ⟨12, 0, none⟩ wc12.length ++ MemPlace.row ⟨23, 0, none⟩ 122 ++ (MemPlace.row ⟨11, 0, none⟩ wc11.length ++ [] ++ ([])))))))))))))
theorem wLv (os : Os) (args : Array Value) : DataW.LaidVars Tryz.prog (wW os args) Rows.fnTextedRow.laid wPs :=
 vR 8 (by kernel_rfl) (by kernel_rfl) (wh6 os args) (wt6 _) (vR 8 (by kernel_rfl) (by kernel_rfl) (wh7 os args) (wt7 _) (vR 8 (by kernel_rfl) (by kernel_rfl) (wh3 os args) (wt3 _) (vR 8 (by kernel_rfl) (by kernel_rfl) (wh5 os args) (wt5 _) (vR 8 (by kernel_rfl) (by kernel_rfl) (wh4 os args) (wt4 _) (vR 8 (by kernel_rfl) (by kernel_rfl) (wh9 os args) (wt9 os args) (vR 8 (by kernel_rfl) (by kernel_rfl) (wh10 os args) (wt10 os args) (vR 8 (by kernel_rfl) (by kernel_rfl) (wh8 os args) (wt8 os args) (vR 8 (by kernel_rfl) (by kernel_rfl) (wh0 os args) (wt0 _) (vR 8 (by kernel_rfl) (by kernel_rfl) (wh2 os args) (wt2 os args) (vR 8 (by kernel_rfl) (by kernel_rfl) (wh1 os args) (wt1 os args) (vR 8 (by kernel_rfl) (by kernel_rfl) (wh12 os args) (wt12 os args) (vR 8 (by kernel_rfl) (by kernel_rfl) (wh11 os args) (wt11 _) (rfl)))))))))))))
def wBs : List Nat := [0, 1, 2, 3, 4, 5, 6, 7, 8, 9, 10, 11, 12, 18, 19, 20, 21, 22, 23]
theorem wNd : nodupBits 1400 wPs 0 = true := by kernel_rfl
theorem wIn : inB wBs wPs = true := by kernel_rfl
theorem laid_met (os : Os) (args : Array Value) : laidMet Tryz.prog Rows.fnTextedRow.laid (wW os args) := by
 refine ⟨wPs, wLv os args, (nodupBits_sound wNd).1, fun b off hp => ?_⟩
 have h1 := List.all_eq_true.1 wIn _ hp
 have hb : b ∈ wBs := by simpa using h1
 simp only [wBs, List.mem_cons, List.not_mem_nil, or_false] at hb
 rcases hb with rfl | rfl | rfl | rfl | rfl | rfl | rfl | rfl | rfl | rfl | rfl | rfl | rfl | rfl | rfl | rfl | rfl | rfl | rfl
 ·exact wE (wh0 os args) (by kernel_rfl)
 ·exact wgood_one (wh1 os args) (wo1 os args)
 ·exact wgood_one (wh2 os args) (wo2 os args)
 ·exact wE (wh3 os args) (by kernel_rfl)
 ·exact wE (wh4 os args) (by kernel_rfl)
 ·exact wE (wh5 os args) (by kernel_rfl)
 ·exact wE (wh6 os args) (by kernel_rfl)
 ·exact wE (wh7 os args) (by kernel_rfl)
 ·exact wE (wh8 os args) (by kernel_rfl)
 ·exact wE (wh9 os args) (by kernel_rfl)
 ·exact wE (wh10 os args) (by kernel_rfl)
 ·exact wE (wh11 os args) (by kernel_rfl)
 ·exact wE (wh12 os args) (by kernel_rfl)
 ·exact wE (wh18 os args) (by kernel_rfl)
 ·exact wE (wh19 os args) (by kernel_rfl)
 ·exact wE (wh20 os args) (by kernel_rfl)
 ·exact wE (wh21 os args) (by kernel_rfl)
 ·exact wE (wh22 os args) (by kernel_rfl)
 ·exact wE (wh23 os args) (by kernel_rfl)
end Go.Jw

namespace Go.Jw
open Go Go.RowKit Go.Proofs Go.ChangeShapes Go.WideShapes Go.ChangeAt Go.Proofs.YtlcfillobkdnmaaGreatDoor
set_option maxRecDepth 100000
noncomputable abbrev jP : Program := Tryz.pinned.checked.prog
def jL : List Char := ([104, 97, 114, 110, 101, 115, 115, 32, 51, 52, 54, 53, 50, 48, 98, 97, 101, 52, 98, 52, 51, 99, 98, 99, 55, 56, 100, 101, 53, 53, 51, 57, 50, 50, 101, 54, 99, 51, 55, 50, 100, 97, 98, 97, 102, 48, 98, 100, 48, 48, 53, 100, 102, 57, 97, 97, 102, 99, 54, 50, 57, 100, 55, 55, 100, 51, 48, 101, 52, 48, 56, 53, 32, 99, 117, 116, 32, 97, 116, 32, 108, 111, 111, 112, 46, 101, 120, 97, 109, 112, 108, 101, 47, 112, 117, 98, 45, 103, 48, 49, 53, 50, 50, 47, 108, 97, 119, 115, 46, 70, 110, 84, 101, 120, 116, 101, 100, 32, 108, 111, 111, 112, 46, 101, 120, 97, 109, 112, 108, 101, 47, 112, 117, 98, 45, 103, 48, 49, 53, 50, 50, 47, 108, 97, 119, 115, 46, 70, 110, 87, 114, 105, 116, 116, 101, 110, 32, 108, 111, 111, 112, 46, 101, 120, 97, 109, 112, 108, 101, 47, 112, 117, 98, 45, 103, 48, 49, 53, 50, 50, 47, 108, 97, 119, 115, 46, 70, 110, 87, 114, 105, 116, 116, 101, 110, 84, 119, 105, 99, 101, 32, 108, 111, 111, 112, 46, 101, 120, 97, 109, 112, 108, 101, 47, 112, 117, 98, 45, 103, 48, 49, 53, 50, 50, 47, 108, 97, 119, 115, 46, 70, 110, 65, 100, 100, 101, 100, 32, 108, 111, 111, 112, 46, 101, 120, 97, 109, 112, 108, 101, 47, 112, 117, 98, 45, 103, 48, 49, 53, 50, 50, 47, 108, 97, 119, 115, 46, 70, 110, 70, 111, 117, 110, 100, 32, 108, 111, 111, 112, 46, 101, 120, 97, 109, 112, 108, 101, 47, 112, 117, 98, 45, 103, 48, 49, 53, 50, 50, 47, 108, 97, 119, 115, 46, 70, 110, 80, 111, 105, 110, 116, 101, 100, 32, 108, 111, 111, 112, 46, 101, 120, 97, 109, 112, 108, 101, 47, 112, 117, 98, 45, 103, 48, 49, 53, 50, 50, 47, 108, 97, 119, 115, 46, 70, 110, 67, 111, 112, 105, 101, 100, 32, 108, 111, 111, 112, 46, 101, 120, 97, 109, 112, 108, 101, 47, 112, 117, 98, 45, 103, 48, 49, 53, 50, 50, 47, 108, 97, 119, 115, 46, 70, 110, 67, 111, 112, 105, 101, 100, 65, 99, 99, 101, 112, 116, 115, 32, 108, 111, 111, 112, 46, 101, 120, 97, 109, 112, 108, 101, 47, 112, 117, 98, 45, 103, 48, 49, 53, 50, 50, 47, 108, 97, 119, 115, 46, 70, 110, 65, 108, 108, 83, 116, 101, 112, 115, 32, 108, 111, 111, 112, 46, 101, 120, 97, 109, 112, 108, 101, 47, 112, 117, 98, 45, 103, 48, 49, 53, 50, 50, 47, 108, 97, 119, 115, 46, 70, 110, 67, 104, 111, 115, 101, 110, 32, 108, 111, 111, 112, 46, 101, 120, 97, 109, 112, 108, 101, 47, 112, 117, 98, 45, 103, 48, 49, 53, 50, 50, 47, 108, 97, 119, 115, 46, 70, 110, 67, 104, 111, 115, 101, 110, 78, 97, 114, 114, 111, 119, 115, 32, 108, 111, 111, 112, 46, 101, 120, 97, 109, 112, 108, 101, 47, 112, 117, 98, 45, 103, 48, 49, 53, 50, 50, 47, 108, 97, 119, 115, 46, 70, 110, 77, 101, 114, 103, 101, 100, 32, 108, 111, 111, 112, 46, 101, 120, 97, 109, 112, 108, 101, 47, 112, 117, 98, 45, 103, 48, 49, 53, 50, 50, 47, 108, 97, 119, 115, 46, 70, 110, 77, 101, 114, 103, 101, 100, 65, 99, 99, 101, 112, 116, 115, 32, 108, 111, 111, 112, 46, 101, 120, 97, 109, 112, 108, 101, 47, 112, 117, 98, 45, 103, 48, 49, 53, 50, 50, 47, 108, 97, 119, 115, 46, 70, 110, 82, 101, 115, 111, 108, 118, 101, 100, 32, 108, 111, 111, 112, 46, 101, 120, 97, 109, 112, 108, 101, 47, 112, 117, 98, 45, 103, 48, 49, 53, 50, 50, 47, 108, 97, 119, 115, 46, 70, 110, 82, 101, 115, 111, 108, 118, 101, 100, 65, 99, 99, 101, 112, 116, 115, 32, 108, 111, 111, 112, 46, 101, 120, 97, 109, 112, 108, 101, 47, 112, 117, 98, 45, 103, 48, 49, 53, 50, 50, 47, 108, 97, 119, 115, 46, 70, 110, 82, 101, 115, 111, 108, 118, 101, 100, 84, 119, 105, 99, 101] : List Nat).map Char.ofNat
def jW : List (List Char) := ([[104, 97, 114, 110, 101, 115, 115], [51, 52, 54, 53, 50, 48, 98, 97, 101, 52, 98, 52, 51, 99, 98, 99, 55, 56, 100, 101, 53, 53, 51, 57, 50, 50, 101, 54, 99, 51, 55, 50, 100, 97, 98, 97, 102, 48, 98, 100, 48, 48, 53, 100, 102, 57, 97, 97, 102, 99, 54, 50, 57, 100, 55, 55, 100, 51, 48, 101, 52, 48, 56, 53], [99, 117, 116], [97, 116], [108, 111, 111, 112, 46, 101, 120, 97, 109, 112, 108, 101, 47, 112, 117, 98, 45, 103, 48, 49, 53, 50, 50, 47, 108, 97, 119, 115, 46, 70, 110, 84, 101, 120, 116, 101, 100], [108, 111, 111, 112, 46, 101, 120, 97, 109, 112, 108, 101, 47, 112, 117, 98, 45, 103, 48, 49, 53, 50, 50, 47, 108, 97, 119, 115, 46, 70, 110, 87, 114, 105, 116, 116, 101, 110], [108, 111, 111, 112, 46, 101, 120, 97, 109, 112, 108, 101, 47, 112, 117, 98, 45, 103, 48, 49, 53, 50, 50, 47, 108, 97, 119, 115, 46, 70, 110, 87, 114, 105, 116, 116, 101, 110, 84, 119, 105, 99, 101], [108, 111, 111, 112, 46, 101, 120, 97, 109, 112, 108, 101, 47, 112, 117, 98, 45, 103, 48, 49, 53, 50, 50, 47, 108, 97, 119, 115, 46, 70, 110, 65, 100, 100, 101, 100], [108, 111, 111, 112, 46, 101, 120, 97, 109, 112, 108, 101, 47, 112, 117, 98, 45, 103, 48, 49, 53, 50, 50, 47, 108, 97, 119, 115, 46, 70, 110, 70, 111, 117, 110, 100], [108, 111, 111, 112, 46, 101, 120, 97, 109, 112, 108, 101, 47, 112, 117, 98, 45, 103, 48, 49, 53, 50, 50, 47, 108, 97, 119, 115, 46, 70, 110, 80, 111, 105, 110, 116, 101, 100], [108, 111, 111, 112, 46, 101, 120, 97, 109, 112, 108, 101, 47, 112, 117, 98, 45, 103, 48, 49, 53, 50, 50, 47, 108, 97, 119, 115, 46, 70, 110, 67, 111, 112, 105, 101, 100], [108, 111, 111, 112, 46, 101, 120, 97, 109, 112, 108, 101, 47, 112, 117, 98, 45, 103, 48, 49, 53, 50, 50, 47, 108, 97, 119, 115, 46, 70, 110, 67, 111, 112, 105, 101, 100, 65, 99, 99, 101, 112, 116, 115], [108, 111, 111, 112, 46, 101, 120, 97, 109, 112, 108, 101, 47, 112, 117, 98, 45, 103, 48, 49, 53, 50, 50, 47, 108, 97, 119, 115, 46, 70, 110, 65, 108, 108, 83, 116, 101, 112, 115], [108, 111, 111, 112, 46, 101, 120, 97, 109, 112, 108, 101, 47, 112, 117, 98, 45, 103, 48, 49, 53, 50, 50, 47, 108, 97, 119, 115, 46, 70, 110, 67, 104, 111, 115, 101, 110], [108, 111, 111, 112, 46, 101, 120, 97, 109, 112, 108, 101, 47, 112, 117, 98, 45, 103, 48, 49, 53, 50, 50, 47, 108, 97, 119, 115, 46, 70, 110, 67, 104, 111, 115, 101, 110, 78, 97, 114, 114, 111, 119, 115], [108, 111, 111, 112, 46, 101, 120, 97, 109, 112, 108, 101, 47, 112, 117, 98, 45, 103, 48, 49, 53, 50, 50, 47, 108, 97, 119, 115, 46, 70, 110, 77, 101, 114, 103, 101, 100], [108, 111, 111, 112, 46, 101, 120, 97, 109, 112, 108, 101, 47, 112, 117, 98, 45, 103, 48, 49, 53, 50, 50, 47, 108, 97, 119, 115, 46, 70, 110, 77, 101, 114, 103, 101, 100, 65, 99, 99, 101, 112, 116, 115], [108, 111, 111, 112, 46, 101, 120, 97, 109, 112, 108, 101, 47, 112, 117, 98, 45, 103, 48, 49, 53, 50, 50, 47, 108, 97, 119, 115, 46, 70, 110, 82, 101, 115, 111, 108, 118, 101, 100], [108, 111, 111, 112, 46, 101, 120, 97, 109, 112, 108, 101, 47, 112, 117, 98, 45, 103, 48, 49, 53, 50, 50, 47, 108, 97, 119, 115, 46, 70, 110, 82, 101, 115, 111, 108, 118, 101, 100, 65, 99, 99, 101, 112, 116, 115], [108, 111, 111, 112, 46, 101, 120, 97, 109, 112, 108, 101, 47, 112, 117, 98, 45, 103, 48, 49, 53, 50, 50, 47, 108, 97, 119, 115, 46, 70, 110, 82, 101, 115, 111, 108, 118, 101, 100, 84, 119, 105, 99, 101]] : List (List Nat)).map fun l => l.map Char.ofNat
theorem hI : jP.initOrder = String.ofList jL := by kernel_rfl
theorem hW0 : wordsSigns jL = jW := by kernel_rfl
theorem hW : wordsSigns jP.initOrder.toList = jW := by rw [hI, String.toList_ofList, hW0]
theorem jh : behindMainWord (wordsSigns jP.initOrder.toList) = "cut".toList :: jW.drop 3 := by rw [hW]; kernel_rfl
theorem make_of {P : Program} {rest : List (List Char)} (h : behindMainWord (wordsSigns P.initOrder.toList) = "cut".toList :: rest) : P.make = some .cut := by unfold Program.make; rw [h]; rfl
theorem lifts_of {P : Program} {rest : List (List Char)} (h : behindMainWord (wordsSigns P.initOrder.toList) = "cut".toList :: rest) : P.liftsFinal = false := by unfold Program.liftsFinal Program.headLifts; rw [h]; rfl
theorem enter_of {P : Program} {rest : List (List Char)} (h : behindMainWord (wordsSigns P.initOrder.toList) = "cut".toList :: rest) (l1 : P.laysLater = false) (l2 : P.bearsReflect = false) (l3 : P.doorFits [] = true) : P.mayEnter = true := by
 have h1 : (stripLifts liftWords ("cut".toList :: rest)).1 = [] := rfl
 have h2 : (stripLifts liftWords ("cut".toList :: rest)).2 = "cut".toList :: rest := rfl
 unfold Program.mayEnter
 rw [h]
 simp only [h1, h2, l1, l2, l3, List.head?_cons]
 simp
theorem jl1 : jP.laysLater = false := by kernel_rfl
theorem jl2 : jP.bearsReflect = false := by kernel_rfl
theorem jl3 : jP.doorFits [] = true := by kernel_rfl
theorem j1 : (laidOutB jP) = true := by kernel_rfl
theorem j2 : (mapsRowed jP) = true := by kernel_rfl
theorem j6 : ((jP.stops == [])) = true := by kernel_rfl
theorem j8 : ((jP.stopKnobs == [])) = true := by kernel_rfl
theorem j24 : (jP.stopsHeard) = true := by kernel_rfl
theorem j25 : (jP.mayEnter) = true := enter_of jh jl1 jl2 jl3
def wArg : Value := .agg #[.int .i64 0, .int .i64 0, .string ⟨#[]⟩, .slice none 0 0, .slice none 0 0]
theorem main_of {P : Program} {h s : List Char} {r : List (List Char)} (hw : wordsSigns P.initOrder.toList = h :: s :: r) (h1 : h = "harness".toList) (h2 : isSumSigns s = true) : P.mainIs = some (true, s) := by
 unfold Program.mainIs
 rw [hw, h1]
 simp only [h2]
 rfl
theorem jhd : wordsSigns jP.initOrder.toList = "harness".toList :: "346520bae4b43cbc78de553922e6c372dabaf0bd005df9aafc629d77d30e4085".toList :: jW.drop 2 := by rw [hW]; kernel_rfl
theorem jsum : isSumSigns "346520bae4b43cbc78de553922e6c372dabaf0bd005df9aafc629d77d30e4085".toList = true := by kernel_rfl
theorem jmain : jP.mainIs = some (true, "346520bae4b43cbc78de553922e6c372dabaf0bd005df9aafc629d77d30e4085".toList) := main_of jhd rfl jsum
theorem contract12 (H : Type) (enc : TypeId × Value → H) (W : World) (base : Nat) (args : Array Value) (ds gs : List (DataW H)) (before : List MemPlace)
  (hval : ∀ (j : Nat) t v, Tryz.f12.params[j]? = some t → args[j]? = some v → Value.okWide Tryz.prog W .any base t v)
  (hW : DataW.Whole enc Tryz.prog Tryz.f12.params.toList Rows.fnChosenSpec.vars false W args.toList ds gs before) (hL : laidMetH Tryz.prog Rows.fnChosenRow.laid W) :
  Calls Tryz.prog 12 args W fun e W' => ∃ v, e = .returned v ∧ Rows.fnChosenSpec.post enc Tryz.prog Tryz.f12 false true false false W args v W' := by
 have hW' := hW
 obtain ⟨p, q, hA0, hV, rfl, hfz, hnd⟩ := hW
 have hA : DataW.TrodAll enc Tryz.prog W 0 (fun _ => true) true Tryz.f12.params.toList args.toList ds p := hA0
 rw [Tryz.params12] at hA hval
 obtain ⟨v0, d0, rfl, rfl, h0⟩ := trodAll_one hA
 have hvo0 := hval 0 25 v0 rfl rfl
 unfold Value.okWide at hvo0
 rw [Tryz.underlying25] at hvo0
 obtain ⟨cs0, rfl, _⟩ := hvo0
 obtain ⟨fuel0, hf0⟩ := id h0
 obtain ⟨t0, hv0, _⟩ := val_of_trod fuel0 _ _ hf0
 have hv0' : ValP W (· < W.heap.size) t0 (.agg cs0) := by simpa [Value.cells] using hv0
 obtain ⟨rfl, rfl⟩ := trodVars_none hV
 clear hA0
 simp only [List.append_nil] at hW'
 have hL' : laidMet Tryz.prog Rows.fnTextedUptoRow.laid W := by rw [← met_eq]; exact hL
 have htab := tab_of hL' (.tail _ (.tail _ (.tail _ (.tail _ (.tail _ (.tail _ (.tail _ (.tail _ (.head _)))))))))
 obtain ⟨fb, hft⟩ := ft_of hL' (.tail _ (.tail _ (.tail _ (.tail _ (.tail _ (.tail _ (.tail _ (.tail _ (.head _))))))))) (.tail _ (.tail _ (.tail _ (.tail _ (.head _))))) (.tail _ (.tail _ (.tail _ (.head _)))) (.tail _ (.tail _ (.tail _ (.tail _ (.tail _ (.tail _ (.head _)))))))
  (.tail _ (.tail _ (.tail _ (.tail _ (.tail _ (.tail _ (.tail _ (.tail _ (.tail _ (.tail _ (.tail _ (.tail _ (.head _)))))))))))))
 have hc := calls_of (W := W) (l12 fb t0 (.agg cs0)) (by
  intro d hd
  rcases List.mem_cons.1 hd with rfl | hd
  ·exact hv0'
  rcases List.mem_cons.1 hd with rfl | hd
  ·exact htab
  rcases List.mem_cons.1 hd with rfl | hd
  ·exact hft
  ·cases hd)
 refine hc.mono fun e W' ⟨he, hb⟩ => ?_
 subst he
 have hlt := hW'.lt
 exact ⟨_, rfl, post_of_below (pa := p) (pv := []) hW' (fun _ _ _ => trodAll_cons_mk (shut_bool Tryz.underlying4 _) trodAll_mk0)
  (fun sp hs => trodAll_mk1 (Go.WideElems.Trod_stays laidOut rd25 lt25 h0 (fun x hx => hb.same (hlt x (by simp [hx]))) (fun x hx => hs x (by simp [hx])))) (fun _ _ => rfl) (by simp) hb (ok_one (by kernel_rfl) rfl (okWide_bool_mk Tryz.underlying4 _))⟩
noncomputable abbrev jC12 : OpenClaim := Rows.fnChosenRow
noncomputable abbrev jS12 : ChangeSpec := (OpenSpec.ofChange Rows.fnChosenSpec).bare
noncomputable abbrev jF12 : Func := Tryz.f12
theorem j0_12 : (jC12.wf (OpenSpec.ofChange jS12)) = true := by kernel_rfl
theorem j3_12 : (jF12.params.all (jP.readableRec ·)) = true := by kernel_rfl
theorem j4_12 : (namedTie jP jC12.named jS12.vars) = true := by kernel_rfl
theorem j5_12 : ((jC12.stops == [])) = true := by kernel_rfl
theorem j7_12 : ((jC12.knobs == [])) = true := by kernel_rfl
theorem j9_12 : ((jC12.inPlace == jP.inPlace 12)) = true := by kernel_rfl
theorem j10_12 : ((jC12.unfollowed == jP.unfollowed 12)) = true := by kernel_rfl
theorem j11_12 : ((jC12.recurses == jP.recurses 12)) = true := by kernel_rfl
theorem j12_12 : ((jC12.named == jP.varsNamed 12)) = true := by kernel_rfl
theorem j13_12 : ((jC12.maps == (jF12.params.toList ++ jS12.plain.varTypes jP).any (jP.mapsRec ·))) = true := by kernel_rfl
theorem j14_12 : ((jC12.ifaces == (jF12.params.toList ++ jS12.plain.varTypes jP).any (jP.ifacesRec ·))) = true := by kernel_rfl
theorem j15_12 : ((jC12.mapsOut == jP.mapsAmong jF12.resultTypes.toList)) = true := by kernel_rfl
theorem j16_12 : ((jC12.loops == (jF12.params.toList ++ jS12.plain.varTypes jP).any (jP.loopsFrom ·))) = true := by kernel_rfl
theorem j17_12 : ((jC12.wideKeys == (jF12.params.toList ++ jS12.plain.varTypes jP ++ jF12.resultTypes.toList).any (jP.wideKeysFrom ·))) = true := by kernel_rfl
theorem j18_12 : (jS12.vars.all (jP.varReadable ·)) = true := by kernel_rfl
theorem j19_12 : (jF12.resultTypes.all (fun t => jP.readableRec t && decide (t < jP.types.size))) = true := by kernel_rfl
theorem j20_12 : ((jC12.ifacesOut == jF12.resultTypes.toList.any (jP.ifacesRec ·))) = true := by kernel_rfl
theorem j21_12 : ((jC12.loopsOut == jF12.resultTypes.toList.any (jP.loopsFrom ·))) = true := by kernel_rfl
theorem j22_12 : ((jC12.plainKeys == jP.plainKeys)) = true := by kernel_rfl
theorem j23_12 : (jC12.shortTexts.isNone) = true := by kernel_rfl
theorem j26_12 : ((jC12.lifted == jP.liftsFinal)) = true := by rw [lifts_of jh]; kernel_rfl
theorem j27_12 : ((jP.make == some jC12.make)) = true := by rw [make_of jh]; kernel_rfl
theorem j28_12 : ((jC12.kinds == (if jC12.domain.isEmpty then [] else jF12.params.toList.map fun t => match jP.underlying t with | some (.int k) => some k | _ => none))) = true := by kernel_rfl
theorem j29_12 : ((jC12.pinned == jC12.pinnedBy)) = true := by kernel_rfl
theorem j30_12 : ((jC12.veiled == (jF12.params.toList ++ jS12.plain.varTypes jP ++ jF12.resultTypes.toList).any (jP.veiledRec ·))) = true := by kernel_rfl
theorem j31_12 : (jC12.veiledFits jP jF12.params.toList (jF12.params.toList ++ jS12.plain.varTypes jP ++ jF12.resultTypes.toList)) = true := by kernel_rfl
theorem jAll12 : joinedFacts jP 12 jF12 jS12 jC12 = true := by
 unfold joinedFacts
 simp only [Bool.and_eq_true]
 exact ⟨⟨⟨⟨⟨⟨⟨⟨⟨⟨⟨⟨⟨⟨⟨⟨⟨⟨⟨⟨⟨⟨⟨⟨⟨⟨⟨⟨⟨⟨⟨j0_12, j1⟩, j2⟩, j3_12⟩, j4_12⟩, j5_12⟩, j6⟩, j7_12⟩, j8⟩, j9_12⟩, j10_12⟩, j11_12⟩, j12_12⟩, j13_12⟩, j14_12⟩, j15_12⟩, j16_12⟩, j17_12⟩, j18_12⟩, j19_12⟩, j20_12⟩, j21_12⟩, j22_12⟩, j23_12⟩, j24⟩, j25⟩, j26_12⟩, j27_12⟩, j28_12⟩, j29_12⟩, j30_12⟩, j31_12⟩
theorem jgoes12 : false = jC12.goesBy jP := by kernel_rfl
theorem jtext12 : jC12.wfByText (OpenSpec.ofChange Rows.fnChosenSpec) = true := by kernel_rfl
theorem reads12 (os : Os) {H : Type} (enc : TypeId × Value → H) : ∃ places, DataW.whole enc Tryz.prog ((laidWorld os).forCall (fun _ _ => 0) ⟨#[], #[wArg], []⟩).memory Tryz.f12.params.toList Rows.fnChosenSpec.vars false #[wArg].toList 8 = some ([.agg [.lit (.int .i64 0), .lit (.int .i64 0), .lit (.string []), .nil, .nil]], [], places) :=
 ⟨[], by kernel_rfl⟩
theorem lifted12 (os : Os) (started : os.Started) (H : Type) (enc : TypeId × Value → H) (F : Stop.Interp) :
    ReturnsInHanded {} Tryz.checked os 12 .any ((OpenSpec.ofChange Rows.fnChosenSpec).preRow enc Tryz.prog Tryz.f12 Rows.fnChosenRow.domain false Rows.fnChosenRow.laid) (((OpenSpec.ofChange Rows.fnChosenSpec).at F).post enc Tryz.prog Tryz.f12 false true false false) := by
  obtain ⟨places, hx⟩ := reads12 os enc
  refine returnsInHanded_of_row (C := Tryz.checked) (s := (OpenSpec.ofChange Rows.fnChosenSpec)) own started (by kernel_rfl) Tryz.func12
    (witness_row_atRef (enc := enc) (C := Tryz.checked) false (laidWorld os) #[wArg] rfl (vars_ref os _) (by kernel_rfl) (by kernel_rfl)
      (OpenSpec.preRow_of_cond 8 hx (by kernel_rfl) (fun k hk => by cases hk) (by kernel_rfl) (laid_met os _))) ?_
  intro W base args ds gs before hval hW _ _ _ hL _ _
  exact contract12 H enc W base args ds gs before hval hW hL
theorem said12 : Rows.FnChosenSaid :=
  OpenClaim.holds_of_cond 12 Tryz.f12 rfl rfl rfl rfl rfl rfl rfl ⟨rfl, rfl, rfl, rfl, rfl⟩ rfl rfl rfl rfl rfl (by kernel_rfl) Tryz.func12 jAll12
    (of_decide_eq_true (by kernel_rfl)) (by unfold Func.isWrapper; first | (rw [if_pos (by decide +kernel)]; kernel_rfl) | (rw [if_neg (by decide +kernel)]; exact ⟨rfl, rfl⟩))
    (fun os started H enc _ F => by rw [OpenClaim.pre_eq_preRow]; exact lifted12 os started H enc F)
theorem plain12 (f : FuncId) (fn : Func) (hf : Tryz.pinned.checked.prog.funcNamed "loop.example/pub-g01522/laws.FnChosen" = some f) (hfn : Tryz.pinned.checked.prog.funcs[f]? = some fn) :
  true = Tryz.pinned.checked.prog.looks [] ∧ ∀ (j : Nat) t, fn.params[j]? = some t → Tryz.pinned.checked.prog.wantsStandIn t = false := by
 obtain rfl : f = 12 := Option.some.inj ((show Tryz.prog.funcNamed "loop.example/pub-g01522/laws.FnChosen" = some 12 by kernel_rfl).symm.trans hf) |>.symm
 obtain rfl : fn = Tryz.f12 := (Option.some.inj (Tryz.func12.symm.trans hfn)).symm
 refine ⟨by kernel_rfl, fun j t ht => ?_⟩
 rw [Tryz.params12] at ht
 have hm : t ∈ #[25] := Array.mem_of_getElem? ht
 simp only [List.mem_toArray, List.mem_cons, List.not_mem_nil, or_false] at hm
 subst hm
 exact (show Tryz.prog.wantsStandIn 25 = false by kernel_rfl)
theorem card12 : Rows.FnChosenCardSaid :=
 Claim7.holds_tied_plain_at .later [] _ _ _ _ said12 (fun _ h => by cases h) jtext12 (fun _ h => by cases h) (ty_row _ rfl rfl) rfl ⟨rfl, rfl⟩ jmain rfl plain12 jgoes12
end Go.Jw
namespace Go.Proofs.YtlcfillobkdnmaaGreatDoor
/-- Whatever the input: the law FnChosen returns true, and what it reads, reads ags it did. -/
theorem fnChosen_holds : Rows.FnChosenCardSaid := Go.Jw.card12
end Go.Proofs.YtlcfillobkdnmaaGreatDoor

