/- Part 5 of the proof's texts, made small by a program. -/
import Derived.Test.YtlcfillobkdnmaaGreatDoorTf4
import Derived.Deep.QuietTactic
import Derived.Lib.RowBridge
import Derived.Lib.SortBridge
import Derived.Sort.LotA
import Derived.WalkKit
import Derived.Laws.FloatArith
import Derived.Scope
import Derived.Laws.Externs
import Derived.Laws.Small
import Derived.Laws.MakeOwn
set_option linter.unusedVariables false
set_option linter.unusedSimpArgs false
namespace Go.Jw
open Go Go.RowKit Go.Proofs
set_option maxRecDepth 8000
theorem c152f (s : ByteArray) (hs : s.size ≤ maxLen) (hf : IsFourth s) : ∃ T : ByteArray, (T = ⟨#[104, 116, 116, 112, 58, 47, 47, 106, 115, 111, 110, 45, 115, 99, 104, 101, 109, 97, 46, 111, 114, 103, 47, 100, 114, 97, 102, 116, 45, 48, 52, 47, 115, 99, 104, 101, 109, 97]⟩ ∨ T = ⟨#[35]⟩ ∨ T = ⟨#[]⟩) ∧ CtV Tryz.prog 152 #[.string s, .string ⟨#[35]⟩] [] (.string T) := by
 refine ⟨_, ?_, c152 s hs⟩
 rcases hf with rfl | rfl | rfl | rfl | rfl
 ·exact .inl (by decide +kernel)
 ·exact .inl (by decide +kernel)
 ·exact .inr (.inr (by decide +kernel))
 ·exact .inr (.inr (by decide +kernel))
 ·exact .inr (.inl (by decide +kernel))
abbrev T5 := Nat × Option Addr × Nat × List Value × List (ByteArray × Y)
abbrev eE : T5 → Env := fun ⟨m, A, ca, xs, L⟩ => [(4, .slice A m ca)]
abbrev eM (b6 : Nat) : T5 → List HA := fun ⟨m, A, ca, xs, L⟩ => HA.row A m ca 102 1 xs :: HA.blk b6 (ycells 4 ⟨#[]⟩ ⟨#[]⟩ none 0 0) 150 :: []
abbrev eD (b : Nat) (cs : List Value) (mb : Nat) (f : Flds) (G : Gr) (ft : DA) : T5 → List DA := fun ⟨m, A, ca, xs, L⟩ => .ptrs xs (L.flatMap prY) :: .dblk b cs 124 :: .flds mb cs f :: .gr mb G :: .tab :: ft :: []
set_option maxHeartbeats 4000000 in
theorem c105w (ft : DA) (mb : Nat) (G : Gr) (v : V) (HF : ∀ key x, getV v key = some x → kwIdx key ≠ 0 → Fld ft mb G (shIdx (kwIdx key)) x) (hid : ∀ x, getV v kId = some x → ∃ u, getV v kSchema = some u ∧ IsFourth u.text) : C105 ft mb G v := by
 intro b hb
 refine Ct.of_run (args := [ptr b]) Tryz.func105 (by kernel_rfl) rfl Tryz.ntmps105 rfl (fun c => ?_)
 obtain ⟨f, ⟨cs, hg⟩, hU⟩ := (rL G v b).1 hb
 refine run_gr 0 rfl hg (fun hcl => ?_)
 refine yY 1 33 rfl (by decide) (by decide) (fun p33 hc33 hp33 => ?_)
 refine yY 1 2 rfl (by decide) (by decide) (fun p2 hc2 hp2 => ?_)
 refine yY 1 1 rfl (by decide) (by decide) (fun p1 hc1 hp1 => ?_)
 refine yY 1 4 rfl (by decide) (by decide) (fun p4 hc4 hp4 => ?_)
 have hn4 : p4.isSome = false := by rw [hp4, ro_none hU 4 (by decide) (by decide) (by decide) (by decide)]; rfl
 refine yY 1 5 rfl (by decide) (by decide) (fun p5 hc5 hp5 => ?_)
 have hn5 : p5.isSome = false := by rw [hp5, ro_none hU 5 (by decide) (by decide) (by decide) (by decide)]; rfl
 refine yY 1 27 rfl (by decide) (by decide) (fun p27 hc27 hp27 => ?_)
 refine yY 1 15 rfl (by decide) (by decide) (fun p15 hc15 hp15 => ?_)
 refine yY 1 34 rfl (by decide) (by decide) (fun p34 hc34 hp34 => ?_)
 refine yY 1 21 rfl (by decide) (by decide) (fun p21 hc21 hp21 => ?_)
 refine yY 1 22 rfl (by decide) (by decide) (fun p22 hc22 hp22 => ?_)
 refine yY 1 24 rfl (by decide) (by decide) (fun p24 hc24 hp24 => ?_)
 refine yY 1 23 rfl (by decide) (by decide) (fun p23 hc23 hp23 => ?_)
 refine yY 1 25 rfl (by decide) (by decide) (fun p25 hc25 hp25 => ?_)
 refine yY 1 3 rfl (by decide) (by decide) (fun p3 hc3 hp3 => ?_)
 refine yY 1 6 rfl (by decide) (by decide) (fun p6 hc6 hp6 => ?_)
 refine yY 1 7 rfl (by decide) (by decide) (fun p7 hc7 hp7 => ?_)
 refine yY 1 8 rfl (by decide) (by decide) (fun p8 hc8 hp8 => ?_)
 refine yY 1 9 rfl (by decide) (by decide) (fun p9 hc9 hp9 => ?_)
 refine yY 1 10 rfl (by decide) (by decide) (fun p10 hc10 hp10 => ?_)
 refine yY 1 11 rfl (by decide) (by decide) (fun p11 hc11 hp11 => ?_)
 refine yY 1 12 rfl (by decide) (by decide) (fun p12 hc12 hp12 => ?_)
 refine yY 1 13 rfl (by decide) (by decide) (fun p13 hc13 hp13 => ?_)
 refine yY 1 14 rfl (by decide) (by decide) (fun p14 hc14 hp14 => ?_)
 refine yY 1 16 rfl (by decide) (by decide) (fun p16 hc16 hp16 => ?_)
 refine yY 1 17 rfl (by decide) (by decide) (fun p17 hc17 hp17 => ?_)
 refine yY 1 18 rfl (by decide) (by decide) (fun p18 hc18 hp18 => ?_)
 refine yY 1 19 rfl (by decide) (by decide) (fun p19 hc19 hp19 => ?_)
 refine yY 1 20 rfl (by decide) (by decide) (fun p20 hc20 hp20 => ?_)
 refine yY 1 26 rfl (by decide) (by decide) (fun p26 hc26 hp26 => ?_)
 refine yY 1 28 rfl (by decide) (by decide) (fun p28 hc28 hp28 => ?_)
 refine yY 1 29 rfl (by decide) (by decide) (fun p29 hc29 hp29 => ?_)
 refine yY 1 30 rfl (by decide) (by decide) (fun p30 hc30 hp30 => ?_)
 refine yY 1 31 rfl (by decide) (by decide) (fun p31 hc31 hp31 => ?_)
 refine yY 1 32 rfl (by decide) (by decide) (fun p32 hc32 hp32 => ?_)
 refine yY 1 35 rfl (by decide) (by decide) (fun p35 hc35 hp35 => ?_)
 refine yY 1 36 rfl (by decide) (by decide) (fun p36 hc36 hp36 => ?_)
 refine xC (.ptrs [] (([] : List (ByteArray × Y)).flatMap prY)) (fun w ok h => rfl) (zD ?_)
 refine zB (zA ?_)
 refine zE rfl rfl (zC ?_)
 refine zD (zB ?_)
 refine zA (xT rfl rfl (bu150_0 ..) ?_)
 refine zA (xS rfl rfl rfl (fun b6 => ?_))
 refine zA (zE rfl rfl ?_)
 refine zC (zD ?_)
 refine zB (zA ?_)
 refine wF sl148 rfl rfl rfl (fun b7 => ?_)
 refine zA (zE rfl rfl ?_)
 refine zC (zD ?_)
 refine zD (zB ?_)
 refine zA (zF rfl rfl ?_)
 refine zA (zH rfl rfl ?_)
 refine zA (zJ fo124_33 rfl rfl ?_)
 refine zA (zN 1 sc111 rfl rfl rfl hc33 ?_)
 refine zA (yJ pn111 rfl rfl ?_)
 refine zC (zG [12, 4, 3, 0] ?_)
 change Run _ _ _ _ _ [(12, _), (4, _), (3, _), (0, _)] _ _
 refine xA [3, 0] (fun (⟨m, A, ca, xs, L⟩ : T5) => WI v f [33] L ∧ m ≤ 2) eE (eM b6) (eD b cs mb f G ft) ?_ ?_
 ·intro K hK
  refine yM rfl (fun h12 => ?_) (fun h12 => ?_)
  ·refine xW 2 33 rfl (by decide) (by decide) hc33 hp33 h12 hU (fun fv x a hpa hfv hgx hkw hr => ?_)
   subst hpa
   have hF := HF _ _ hgx (by rw [hkw]; decide)
   rw [hkw] at hF
   change Fld ft mb G 1 x at hF
   change FvRel _ 1 x fv at hr
   obtain rfl := sN hr
   refine sI 0 rfl (fun p hp hs => ?_)
   cases hp
   refine zB (zA ?_)
   refine zF rfl rfl (zA ?_)
   refine zF rfl rfl (zA ?_)
   refine zH rfl rfl (zA ?_)
   refine zJ fo124_33 rfl rfl (zA ?_)
   refine zN 3 sc111 rfl rfl rfl hc33 (zA ?_)
   refine zH rfl rfl (zA ?_)
   refine yW 0 sc9 rfl rfl rfl (zA ?_)
   refine zW rfl rfl rfl (c151 _ hs) sub0 (fun u20 D20 hv20 => ?_)
   obtain ⟨b20, rfl, rfl⟩ := hv20
   refine zA ?_
   refine yU 0 rfl rfl rfl (c150 _ _ _ _ _ _ (by decide) (by omega)) rfl sub0 (fun u21 M21 D21 hv21 => ?_)
   obtain ⟨A21, c21, b21, rfl, rfl, rfl⟩ := hv21
   refine zA (zE rfl rfl ?_)
   refine zC (zG [4, 3, 0] ?_)
   change Run _ _ _ _ _ [(4, _), (3, _), (0, _)] _ _
   refine yX (L := []) 4 0 1 rfl rfl rfl ?_
   exact kQ (hK (_, _, _, _, [] ++ [(keyOf 33, _)]) ⟨(WI.nil v f).add rfl hkw (by decide) (by decide) hgx (.inl ⟨rfl, rfl⟩), by show _ + 2 ≤ _; omega⟩) (eC rfl (eC rfl (eC rfl (eN _)))) (hD := (subc 0 rfl sQ))
  refine zL ?_
  exact kQ (hK (_, _, _, _, []) ⟨(WI.nil v f).skip (wA hp33 h12), by show _ ≤ _; omega⟩) (eC rfl (eC rfl (eC rfl (eN _))))
 intro ⟨m, A, ca, xs, L⟩ hI
 replace hI : WI v f [33] L ∧ m ≤ 2 := hI
 change Run _ _ _ _ _ [(4, .slice A m ca), (3, _), (0, _)] (HA.row A m ca 102 1 xs :: HA.blk b6 (ycells 4 ⟨#[]⟩ ⟨#[]⟩ none 0 0) 150 :: []) (.ptrs xs (L.flatMap prY) :: .dblk b cs 124 :: .flds mb cs f :: .gr mb G :: .tab :: ft :: [])
 obtain ⟨hW, hm⟩ := hI
 refine zD (zD ?_)
 refine zB (zA ?_)
 refine zF rfl rfl (zA ?_)
 refine zH rfl rfl (zA ?_)
 refine zJ qG rfl rfl (zA ?_)
 refine zN 1 sc111 rfl rfl rfl hc2 (zA ?_)
 refine yJ pn111 rfl rfl (zC ?_)
 refine zG [26, 4, 3, 0] ?_
 change Run _ _ _ _ _ [(26, _), (4, _), (3, _), (0, _)] _ _
 refine xA [3, 0] (fun (⟨m, A, ca, xs, L⟩ : T5) => WI v f [2, 33] L ∧ m ≤ 4) eE (eM b6) (eD b cs mb f G ft) ?_ ?_
 ·intro Kj2 hKj2
  refine yM rfl (fun h26 => ?_) (fun h26 => ?_)
  ·refine xW 2 2 rfl (by decide) (by decide) hc2 hp2 h26 hU (fun fv x a hpa hfv hgx hkw hr => ?_)
   subst hpa
   have hF := HF _ _ hgx (by rw [hkw]; decide)
   rw [hkw] at hF
   change Fld ft mb G 1 x at hF
   change FvRel _ 1 x fv at hr
   obtain rfl := sN hr
   refine sI 0 rfl (fun p hp hs => ?_)
   cases hp
   obtain ⟨u1, hu1, hfo⟩ := hid x hgx
   have hb1 : p1.isSome = true := by
    cases hq1 : p1.isSome with
    | true => rfl
    | false =>
     have := hU 1 (by decide) (by decide)
     rw [wA hp1 hq1] at this
     rw [show getV v kSchema = none from this kSchema (by decide +kernel)] at hu1
     cases hu1
   refine xW 4 1 rfl (by decide) (by decide) hc1 hp1 hb1 hU (fun fv1 x1 a1 hpa1 hfv1 hgx1 hkw1 hr1 => ?_)
   subst hpa1
   change FvRel _ 1 x1 fv1 at hr1
   obtain rfl := sN hr1
   refine sI 0 rfl (fun p1 hq1 hs1 => ?_)
   cases hq1
   rw [show getV v kSchema = some x1 from hgx1] at hu1
   cases hu1
   obtain ⟨T, hT, hcT⟩ := c152f _ hs1 hfo
   refine zD (zB ?_)
   refine zA (zF rfl rfl ?_)
   refine zA (zH rfl rfl ?_)
   refine zA (zJ fo124_1 rfl rfl ?_)
   refine zA (zN 5 sc111 rfl rfl rfl hc1 ?_)
   refine zA (zH rfl rfl ?_)
   refine zA (yW 0 sc9 rfl rfl rfl ?_)
   refine zA (zY rfl rfl rfl hcT sub0 ?_)
   refine zC (zO ?_)
   refine zD (zO ?_)
   refine zD (zO ?_)
   refine zO (zO ?_)
   refine zD (zD ?_)
   refine zD (zB ?_)
   refine zA (zZ rfl rfl rfl ?_)
   refine zA (zE rfl rfl ?_)
   refine zC (zT rfl (fun h34 => ?_) (fun h34 => ?_))
   ·refine yL rfl (zQ ?_)
    refine zQ (zD ?_)
    refine zB (zA ?_)
    refine zF rfl rfl (zA ?_)
    refine zF rfl rfl (zA ?_)
    refine zH rfl rfl (zA ?_)
    refine zJ qG rfl rfl (zA ?_)
    refine zN 5 sc111 rfl rfl rfl hc2 (zA ?_)
    refine zH rfl rfl (zA ?_)
    refine yW 2 sc9 rfl rfl rfl (zA ?_)
    refine zW rfl rfl rfl (c151 _ hs) sub0 (fun u47 D47 hv47 => ?_)
    obtain ⟨b47, rfl, rfl⟩ := hv47
    refine zA ?_
    refine yU 0 rfl rfl rfl (c150 _ _ _ _ _ _ (by decide) (by omega)) rfl sub0 (fun u48 M48 D48 hv48 => ?_)
    obtain ⟨A48, c48, b48, rfl, rfl, rfl⟩ := hv48
    refine zA (zE rfl rfl ?_)
    refine zC (zG [4, 3, 0] ?_)
    change Run _ _ _ _ _ [(4, _), (3, _), (0, _)] _ _
    refine yL rfl (yX (L := L) 6 0 1 rfl rfl rfl ?_)
    exact kQ (hKj2 (_, _, _, _, L ++ [(keyOf 2, _)]) ⟨hW.add rfl hkw (by decide) (by decide) hgx (.inl ⟨rfl, rfl⟩), by show _ + 2 ≤ _; omega⟩) (eC rfl (eC rfl (eC rfl (eN _)))) (hD := (subc 0 rfl sQ))
   refine zL (zD ?_)
   refine zD (zB ?_)
   refine zA (zZ rfl rfl rfl ?_)
   refine zA (zE rfl rfl ?_)
   refine zC (zG [36, 33, 4, 3, 0] ?_)
   change Run _ _ _ _ _ [(36, _), (33, _), (4, _), (3, _), (0, _)] _ _
   refine zT rfl (fun h36 => ?_) (fun h36 => ?_)
   ·refine yL rfl (zQ ?_)
    refine zD (zB ?_)
    refine zA (zF rfl rfl ?_)
    refine zA (zF rfl rfl ?_)
    refine zA (zH rfl rfl ?_)
    refine zA (zJ qG rfl rfl ?_)
    refine zA (zN 5 sc111 rfl rfl rfl hc2 ?_)
    refine zA (zH rfl rfl ?_)
    refine zA (yW 2 sc9 rfl rfl rfl ?_)
    refine zA (zW rfl rfl rfl (c151 _ hs) sub0 (fun u47 D47 hv47 => ?_))
    obtain ⟨b47, rfl, rfl⟩ := hv47
    refine zA ?_
    refine yU 0 rfl rfl rfl (c150 _ _ _ _ _ _ (by decide) (by omega)) rfl sub0 (fun u48 M48 D48 hv48 => ?_)
    obtain ⟨A48, c48, b48, rfl, rfl, rfl⟩ := hv48
    refine zA (zE rfl rfl ?_)
    refine zC (zG [4, 3, 0] ?_)
    change Run _ _ _ _ _ [(4, _), (3, _), (0, _)] _ _
    refine yL rfl (yX (L := L) 6 0 1 rfl rfl rfl ?_)
    exact kQ (hKj2 (_, _, _, _, L ++ [(keyOf 2, _)]) ⟨hW.add rfl hkw (by decide) (by decide) hgx (.inl ⟨rfl, rfl⟩), by show _ + 2 ≤ _; omega⟩) (eC rfl (eC rfl (eC rfl (eN _)))) (hD := (subc 0 rfl sQ))
   refine zL (zD ?_)
   refine zB (zA ?_)
   refine zZ rfl rfl rfl (zA ?_)
   refine zE rfl rfl (zC ?_)
   refine zT rfl (fun h38 => ?_) (fun h38 => ?_)
   ·refine yL rfl (zD ?_)
    refine zB (zA ?_)
    refine zF rfl rfl (zA ?_)
    refine zF rfl rfl (zA ?_)
    refine zH rfl rfl (zA ?_)
    refine zJ qG rfl rfl (zA ?_)
    refine zN 5 sc111 rfl rfl rfl hc2 (zA ?_)
    refine zH rfl rfl (zA ?_)
    refine yW 2 sc9 rfl rfl rfl (zA ?_)
    refine zW rfl rfl rfl (c151 _ hs) sub0 (fun u47 D47 hv47 => ?_)
    obtain ⟨b47, rfl, rfl⟩ := hv47
    refine zA ?_
    refine yU 0 rfl rfl rfl (c150 _ _ _ _ _ _ (by decide) (by omega)) rfl sub0 (fun u48 M48 D48 hv48 => ?_)
    obtain ⟨A48, c48, b48, rfl, rfl, rfl⟩ := hv48
    refine zA (zE rfl rfl ?_)
    refine zC (zG [4, 3, 0] ?_)
    change Run _ _ _ _ _ [(4, _), (3, _), (0, _)] _ _
    refine yL rfl (yX (L := L) 6 0 1 rfl rfl rfl ?_)
    exact kQ (hKj2 (_, _, _, _, L ++ [(keyOf 2, _)]) ⟨hW.add rfl hkw (by decide) (by decide) hgx (.inl ⟨rfl, rfl⟩), by show _ + 2 ≤ _; omega⟩) (eC rfl (eC rfl (eC rfl (eN _)))) (hD := (subc 0 rfl sQ))
   exact (hT.elim h34 (fun h => h.elim h36 h38)).elim
  refine zL ?_
  exact kQ (hKj2 (_, _, _, _, L) ⟨hW.skip (wA hp2 h26), by show _ ≤ _; omega⟩) (eC rfl (eC rfl (eC rfl (eN _))))
 intro ⟨m, A, ca, xs, L⟩ hI
 replace hI : WI v f [2, 33] L ∧ m ≤ 4 := hI
 change Run _ _ _ _ _ [(4, .slice A m ca), (3, _), (0, _)] (HA.row A m ca 102 1 xs :: HA.blk b6 (ycells 4 ⟨#[]⟩ ⟨#[]⟩ none 0 0) 150 :: []) (.ptrs xs (L.flatMap prY) :: .dblk b cs 124 :: .flds mb cs f :: .gr mb G :: .tab :: ft :: [])
 obtain ⟨hW, hm⟩ := hI
 refine zD (zD ?_)
 refine zB (zA ?_)
 refine zF rfl rfl (zA ?_)
 refine zH rfl rfl (zA ?_)
 refine zJ fo124_1 rfl rfl (zA ?_)
 refine zN 1 sc111 rfl rfl rfl hc1 (zA ?_)
 refine yJ pn111 rfl rfl (zC ?_)
 refine zG [62, 4, 3, 0] ?_
 change Run _ _ _ _ _ [(62, _), (4, _), (3, _), (0, _)] _ _
 refine xA [3, 0] (fun (⟨m, A, ca, xs, L⟩ : T5) => WI v f [1, 2, 33] L ∧ m ≤ 6) eE (eM b6) (eD b cs mb f G ft) ?_ ?_
 ·intro Kj3 hKj3
  refine yM rfl (fun h62 => ?_) (fun h62 => ?_)
  ·refine xW 2 1 rfl (by decide) (by decide) hc1 hp1 h62 hU (fun fv x a hpa hfv hgx hkw hr => ?_)
   subst hpa
   have hF := HF _ _ hgx (by rw [hkw]; decide)
   rw [hkw] at hF
   change Fld ft mb G 1 x at hF
   change FvRel _ 1 x fv at hr
   obtain rfl := sN hr
   refine sI 0 rfl (fun p hp hs => ?_)
   cases hp
   refine zB (zA ?_)
   refine zF rfl rfl (zA ?_)
   refine zF rfl rfl (zA ?_)
   refine zH rfl rfl (zA ?_)
   refine zJ fo124_1 rfl rfl (zA ?_)
   refine zN 3 sc111 rfl rfl rfl hc1 (zA ?_)
   refine zH rfl rfl (zA ?_)
   refine yW 0 sc9 rfl rfl rfl (zA ?_)
   refine zW rfl rfl rfl (c151 _ hs) sub0 (fun u70 D70 hv70 => ?_)
   obtain ⟨b70, rfl, rfl⟩ := hv70
   refine zA ?_
   refine yU 0 rfl rfl rfl (c150 _ _ _ _ _ _ (by decide) (by omega)) rfl sub0 (fun u71 M71 D71 hv71 => ?_)
   obtain ⟨A71, c71, b71, rfl, rfl, rfl⟩ := hv71
   refine zA (zE rfl rfl ?_)
   refine zC (zG [4, 3, 0] ?_)
   change Run _ _ _ _ _ [(4, _), (3, _), (0, _)] _ _
   refine yX (L := L) 4 0 1 rfl rfl rfl ?_
   exact kQ (hKj3 (_, _, _, _, L ++ [(keyOf 1, _)]) ⟨hW.add rfl hkw (by decide) (by decide) hgx (.inl ⟨rfl, rfl⟩), by show _ + 2 ≤ _; omega⟩) (eC rfl (eC rfl (eC rfl (eN _)))) (hD := (subc 0 rfl sQ))
  refine zL ?_
  exact kQ (hKj3 (_, _, _, _, L) ⟨hW.skip (wA hp1 h62), by show _ ≤ _; omega⟩) (eC rfl (eC rfl (eC rfl (eN _))))
 intro ⟨m, A, ca, xs, L⟩ hI
 replace hI : WI v f [1, 2, 33] L ∧ m ≤ 6 := hI
 change Run _ _ _ _ _ [(4, .slice A m ca), (3, _), (0, _)] (HA.row A m ca 102 1 xs :: HA.blk b6 (ycells 4 ⟨#[]⟩ ⟨#[]⟩ none 0 0) 150 :: []) (.ptrs xs (L.flatMap prY) :: .dblk b cs 124 :: .flds mb cs f :: .gr mb G :: .tab :: ft :: [])
 obtain ⟨hW, hm⟩ := hI
 refine zD (zD ?_)
 refine zB (zA ?_)
 refine zF rfl rfl (zA ?_)
 refine zH rfl rfl (zA ?_)
 refine zJ fo124_4 rfl rfl (zA ?_)
 refine zN 1 sc112 rfl rfl rfl hc4 (zA ?_)
 refine yJ pn112 rfl rfl (zA ?_)
 refine zF rfl rfl (vG (s := 77) rfl (hn4) ?_)
 refine zI rfl rfl rfl rfl (zI rfl rfl rfl rfl ?_)
 refine zI rfl rfl rfl rfl (zI rfl rfl rfl rfl ?_)
 refine zI rfl rfl rfl rfl (zI rfl rfl rfl rfl ?_)
 refine zA (zR rfl rfl rfl ?_)
 refine zC (zG [84, 4, 3, 0] ?_)
 change Run _ _ _ _ _ [(84, _), (4, _), (3, _), (0, _)] _ _
 refine vB rfl (zL ?_)
 refine zD (zD ?_)
 refine zB (zA ?_)
 refine zF rfl rfl (zA ?_)
 refine zH rfl rfl (zA ?_)
 refine zJ fo124_5 rfl rfl (zA ?_)
 refine zN 1 sc112 rfl rfl rfl hc5 (zA ?_)
 refine yJ pn112 rfl rfl (zA ?_)
 refine zF rfl rfl (vG (s := 99) rfl (hn5) ?_)
 refine zI rfl rfl rfl rfl (zI rfl rfl rfl rfl ?_)
 refine zI rfl rfl rfl rfl (zI rfl rfl rfl rfl ?_)
 refine zI rfl rfl rfl rfl (zI rfl rfl rfl rfl ?_)
 refine zA (zR rfl rfl rfl ?_)
 refine zC (zG [106, 4, 3, 0] ?_)
 change Run _ _ _ _ _ [(106, _), (4, _), (3, _), (0, _)] _ _
 refine vB rfl (zL ?_)
 refine zD (zD ?_)
 refine zB (zA ?_)
 refine zF rfl rfl (zA ?_)
 refine zH rfl rfl (zA ?_)
 refine zJ fo124_27 rfl rfl (zA ?_)
 refine zN 1 sc121 rfl rfl rfl hc27 (zA ?_)
 refine yJ pn121 rfl rfl (zC ?_)
 refine zG [120, 4, 3, 0] ?_
 change Run _ _ _ _ _ [(120, _), (4, _), (3, _), (0, _)] _ _
 refine xA [3, 0] (fun (⟨m, A, ca, xs, L⟩ : T5) => WI v f [27, 1, 2, 33] L ∧ m ≤ 8) eE (eM b6) (eD b cs mb f G ft) ?_ ?_
 ·intro Kj4 hKj4
  refine yM rfl (fun h120 => ?_) (fun h120 => ?_)
  ·refine xW 2 27 rfl (by decide) (by decide) hc27 hp27 h120 hU (fun fv x a hpa hfv hgx hkw hr => ?_)
   subst hpa
   have hF := HF _ _ hgx (by rw [hkw]; decide)
   rw [hkw] at hF
   change Fld ft mb G 12 x at hF
   change FvRel _ 12 x fv at hr
   refine zB (zA ?_)
   refine zF rfl rfl (zA ?_)
   refine zF rfl rfl (zA ?_)
   refine zH rfl rfl (zA ?_)
   refine zJ fo124_27 rfl rfl (zA ?_)
   refine zN 2 sc121 rfl rfl rfl hc27 (zA ?_)
   refine zW rfl rfl rfl (w12 hF hr) (subc 0 rfl (subc 4 rfl (sub2 5 6 rfl rfl))) (fun u126 D126 hv126 => ?_)
   obtain ⟨z, hz, b126, rfl, rfl⟩ := hv126
   refine zA ?_
   refine yU 0 rfl rfl rfl (c150 _ _ _ _ _ _ (by decide) (by omega)) rfl sub0 (fun u127 M127 D127 hv127 => ?_)
   obtain ⟨A127, c127, b127, rfl, rfl, rfl⟩ := hv127
   refine zA (zE rfl rfl ?_)
   refine zC (yX (L := L) 3 0 1 rfl rfl rfl ?_)
   exact kQ (hKj4 (_, _, _, _, L ++ [(keyOf 27, _)]) ⟨hW.add rfl hkw (by decide) (by decide) hgx hz, by show _ + 2 ≤ _; omega⟩) (eC rfl (eC rfl (eC rfl (eN _)))) (hD := (subc 0 rfl sQ))
  refine zL ?_
  exact kQ (hKj4 (_, _, _, _, L) ⟨hW.skip (wA hp27 h120), by show _ ≤ _; omega⟩) (eC rfl (eC rfl (eC rfl (eN _))))
 intro ⟨m, A, ca, xs, L⟩ hI
 replace hI : WI v f [27, 1, 2, 33] L ∧ m ≤ 8 := hI
 change Run _ _ _ _ _ [(4, .slice A m ca), (3, _), (0, _)] (HA.row A m ca 102 1 xs :: HA.blk b6 (ycells 4 ⟨#[]⟩ ⟨#[]⟩ none 0 0) 150 :: []) (.ptrs xs (L.flatMap prY) :: .dblk b cs 124 :: .flds mb cs f :: .gr mb G :: .tab :: ft :: [])
 obtain ⟨hW, hm⟩ := hI
 refine zD (zD ?_)
 refine zB (zA ?_)
 refine zF rfl rfl (zA ?_)
 refine zH rfl rfl (zA ?_)
 refine zJ fo124_15 rfl rfl (zA ?_)
 refine zN 1 sc116 rfl rfl rfl hc15 (zA ?_)
 refine yJ pn116 rfl rfl (zC ?_)
 refine zG [132, 4, 3, 0] ?_
 change Run _ _ _ _ _ [(132, _), (4, _), (3, _), (0, _)] _ _
 refine xA [3, 0] (fun (⟨m, A, ca, xs, L⟩ : T5) => WI v f [15, 27, 1, 2, 33] L ∧ m ≤ 10) eE (eM b6) (eD b cs mb f G ft) ?_ ?_
 ·intro Kj5 hKj5
  refine yM rfl (fun h132 => ?_) (fun h132 => ?_)
  ·refine xW 2 15 rfl (by decide) (by decide) hc15 hp15 h132 hU (fun fv x a hpa hfv hgx hkw hr => ?_)
   subst hpa
   have hF := HF _ _ hgx (by rw [hkw]; decide)
   rw [hkw] at hF
   change Fld ft mb G 7 x at hF
   change FvRel _ 7 x fv at hr
   refine zB (zA ?_)
   refine zF rfl rfl (zA ?_)
   refine zF rfl rfl (zA ?_)
   refine zH rfl rfl (zA ?_)
   refine zJ fo124_15 rfl rfl (zA ?_)
   refine zN 2 sc116 rfl rfl rfl hc15 (zA ?_)
   refine zW rfl rfl rfl (w7 hF hr) (subc 0 rfl (subc 4 rfl (sub2 5 6 rfl rfl))) (fun u138 D138 hv138 => ?_)
   obtain ⟨z, hz, b138, rfl, rfl⟩ := hv138
   refine zA ?_
   refine yU 0 rfl rfl rfl (c150 _ _ _ _ _ _ (by decide) (by omega)) rfl sub0 (fun u139 M139 D139 hv139 => ?_)
   obtain ⟨A139, c139, b139, rfl, rfl, rfl⟩ := hv139
   refine zA (zE rfl rfl ?_)
   refine zC (yX (L := L) 3 0 1 rfl rfl rfl ?_)
   exact kQ (hKj5 (_, _, _, _, L ++ [(keyOf 15, _)]) ⟨hW.add rfl hkw (by decide) (by decide) hgx hz, by show _ + 2 ≤ _; omega⟩) (eC rfl (eC rfl (eC rfl (eN _)))) (hD := (subc 0 rfl sQ))
  refine zL ?_
  exact kQ (hKj5 (_, _, _, _, L) ⟨hW.skip (wA hp15 h132), by show _ ≤ _; omega⟩) (eC rfl (eC rfl (eC rfl (eN _))))
 intro ⟨m, A, ca, xs, L⟩ hI
 replace hI : WI v f [15, 27, 1, 2, 33] L ∧ m ≤ 10 := hI
 change Run _ _ _ _ _ [(4, .slice A m ca), (3, _), (0, _)] (HA.row A m ca 102 1 xs :: HA.blk b6 (ycells 4 ⟨#[]⟩ ⟨#[]⟩ none 0 0) 150 :: []) (.ptrs xs (L.flatMap prY) :: .dblk b cs 124 :: .flds mb cs f :: .gr mb G :: .tab :: ft :: [])
 obtain ⟨hW, hm⟩ := hI
 refine zD (zD ?_)
 refine zB (zA ?_)
 refine zF rfl rfl (zA ?_)
 refine zH rfl rfl (zA ?_)
 refine zJ fo124_34 rfl rfl (zA ?_)
 refine zN 1 sc111 rfl rfl rfl hc34 (zA ?_)
 refine yJ pn111 rfl rfl (zC ?_)
 refine zG [144, 4, 3, 0] ?_
 change Run _ _ _ _ _ [(144, _), (4, _), (3, _), (0, _)] _ _
 refine xA [3, 0] (fun (⟨m, A, ca, xs, L⟩ : T5) => WI v f [34, 15, 27, 1, 2, 33] L ∧ m ≤ 12) eE (eM b6) (eD b cs mb f G ft) ?_ ?_
 ·intro Kj6 hKj6
  refine yM rfl (fun h144 => ?_) (fun h144 => ?_)
  ·refine xW 2 34 rfl (by decide) (by decide) hc34 hp34 h144 hU (fun fv x a hpa hfv hgx hkw hr => ?_)
   subst hpa
   have hF := HF _ _ hgx (by rw [hkw]; decide)
   rw [hkw] at hF
   change Fld ft mb G 1 x at hF
   change FvRel _ 1 x fv at hr
   obtain rfl := sN hr
   refine sI 0 rfl (fun p hp hs => ?_)
   cases hp
   refine zB (zA ?_)
   refine zF rfl rfl (zA ?_)
   refine zF rfl rfl (zA ?_)
   refine zH rfl rfl (zA ?_)
   refine zJ fo124_34 rfl rfl (zA ?_)
   refine zN 3 sc111 rfl rfl rfl hc34 (zA ?_)
   refine zH rfl rfl (zA ?_)
   refine yW 0 sc9 rfl rfl rfl (zA ?_)
   refine zW rfl rfl rfl (c151 _ hs) sub0 (fun u152 D152 hv152 => ?_)
   obtain ⟨b152, rfl, rfl⟩ := hv152
   refine zA ?_
   refine yU 0 rfl rfl rfl (c150 _ _ _ _ _ _ (by decide) (by omega)) rfl sub0 (fun u153 M153 D153 hv153 => ?_)
   obtain ⟨A153, c153, b153, rfl, rfl, rfl⟩ := hv153
   refine zA (zE rfl rfl ?_)
   refine zC (zG [4, 3, 0] ?_)
   change Run _ _ _ _ _ [(4, _), (3, _), (0, _)] _ _
   refine yX (L := L) 4 0 1 rfl rfl rfl ?_
   exact kQ (hKj6 (_, _, _, _, L ++ [(keyOf 34, _)]) ⟨hW.add rfl hkw (by decide) (by decide) hgx (.inl ⟨rfl, rfl⟩), by show _ + 2 ≤ _; omega⟩) (eC rfl (eC rfl (eC rfl (eN _)))) (hD := (subc 0 rfl sQ))
  refine zL ?_
  exact kQ (hKj6 (_, _, _, _, L) ⟨hW.skip (wA hp34 h144), by show _ ≤ _; omega⟩) (eC rfl (eC rfl (eC rfl (eN _))))
 intro ⟨m, A, ca, xs, L⟩ hI
 replace hI : WI v f [34, 15, 27, 1, 2, 33] L ∧ m ≤ 12 := hI
 change Run _ _ _ _ _ [(4, .slice A m ca), (3, _), (0, _)] (HA.row A m ca 102 1 xs :: HA.blk b6 (ycells 4 ⟨#[]⟩ ⟨#[]⟩ none 0 0) 150 :: []) (.ptrs xs (L.flatMap prY) :: .dblk b cs 124 :: .flds mb cs f :: .gr mb G :: .tab :: ft :: [])
 obtain ⟨hW, hm⟩ := hI
 refine zD (zD ?_)
 refine zB (zA ?_)
 refine zF rfl rfl (zA ?_)
 refine zH rfl rfl (zA ?_)
 refine zJ fo124_21 rfl rfl (zA ?_)
 refine zN 1 sc117 rfl rfl rfl hc21 (zA ?_)
 refine yJ pn117 rfl rfl (zC ?_)
 refine zG [158, 4, 3, 0] ?_
 change Run _ _ _ _ _ [(158, _), (4, _), (3, _), (0, _)] _ _
 refine xA [3, 0] (fun (⟨m, A, ca, xs, L⟩ : T5) => WI v f [21, 34, 15, 27, 1, 2, 33] L ∧ m ≤ 14) eE (eM b6) (eD b cs mb f G ft) ?_ ?_
 ·intro Kj7 hKj7
  refine yM rfl (fun h158 => ?_) (fun h158 => ?_)
  ·refine xW 2 21 rfl (by decide) (by decide) hc21 hp21 h158 hU (fun fv x a hpa hfv hgx hkw hr => ?_)
   subst hpa
   have hF := HF _ _ hgx (by rw [hkw]; decide)
   rw [hkw] at hF
   change Fld ft mb G 8 x at hF
   change FvRel _ 8 x fv at hr
   obtain rfl := texts_of hr
   refine run_texts 0 rfl (fun p sl hp => ?_)
   cases hp
   refine zB (zA ?_)
   refine zF rfl rfl (zA ?_)
   refine zF rfl rfl (zA ?_)
   refine zH rfl rfl (zA ?_)
   refine zJ fo124_21 rfl rfl (zA ?_)
   refine zN 4 sc117 rfl rfl rfl hc21 (zA ?_)
   refine zH rfl rfl (zA ?_)
   refine yW 0 sc22 rfl rfl rfl (zA ?_)
   refine zW rfl rfl rfl (w8 hF rfl) (sub1 1 rfl) (fun u166 D166 hv166 => ?_)
   obtain ⟨z, hz, b166, rfl, rfl⟩ := hv166
   refine zA ?_
   refine yU 0 rfl rfl rfl (c150 _ _ _ _ _ _ (by decide) (by omega)) rfl sub0 (fun u167 M167 D167 hv167 => ?_)
   obtain ⟨A167, c167, b167, rfl, rfl, rfl⟩ := hv167
   refine zA (zE rfl rfl ?_)
   refine zC (zG [4, 3, 0] ?_)
   change Run _ _ _ _ _ [(4, _), (3, _), (0, _)] _ _
   refine yX (L := L) 5 0 1 rfl rfl rfl ?_
   exact kQ (hKj7 (_, _, _, _, L ++ [(keyOf 21, _)]) ⟨hW.add rfl hkw (by decide) (by decide) hgx hz, by show _ + 2 ≤ _; omega⟩) (eC rfl (eC rfl (eC rfl (eN _)))) (hD := (subc 0 rfl sQ))
  refine zL ?_
  exact kQ (hKj7 (_, _, _, _, L) ⟨hW.skip (wA hp21 h158), by show _ ≤ _; omega⟩) (eC rfl (eC rfl (eC rfl (eN _))))
 intro ⟨m, A, ca, xs, L⟩ hI
 replace hI : WI v f [21, 34, 15, 27, 1, 2, 33] L ∧ m ≤ 14 := hI
 change Run _ _ _ _ _ [(4, .slice A m ca), (3, _), (0, _)] (HA.row A m ca 102 1 xs :: HA.blk b6 (ycells 4 ⟨#[]⟩ ⟨#[]⟩ none 0 0) 150 :: []) (.ptrs xs (L.flatMap prY) :: .dblk b cs 124 :: .flds mb cs f :: .gr mb G :: .tab :: ft :: [])
 obtain ⟨hW, hm⟩ := hI
 refine zD (zD ?_)
 refine zB (zA ?_)
 refine zF rfl rfl (zA ?_)
 refine zH rfl rfl (zA ?_)
 refine zJ fo124_22 rfl rfl (zA ?_)
 refine zN 1 sc115 rfl rfl rfl hc22 (zA ?_)
 refine yJ pn115 rfl rfl (zC ?_)
 refine zG [172, 4, 3, 0] ?_
 change Run _ _ _ _ _ [(172, _), (4, _), (3, _), (0, _)] _ _
 refine xA [3, 0] (fun (⟨m, A, ca, xs, L⟩ : T5) => WI v f [22, 21, 34, 15, 27, 1, 2, 33] L ∧ m ≤ 16) eE (eM b6) (eD b cs mb f G ft) ?_ ?_
 ·intro Kj8 hKj8
  refine yM rfl (fun h172 => ?_) (fun h172 => ?_)
  ·refine xW 2 22 rfl (by decide) (by decide) hc22 hp22 h172 hU (fun fv x a hpa hfv hgx hkw hr => ?_)
   subst hpa
   have hF := HF _ _ hgx (by rw [hkw]; decide)
   rw [hkw] at hF
   change Fld ft mb G 6 x at hF
   change FvRel _ 6 x fv at hr
   refine zB (zA ?_)
   refine zF rfl rfl (zA ?_)
   refine zF rfl rfl (zA ?_)
   refine zH rfl rfl (zA ?_)
   refine zJ fo124_22 rfl rfl (zA ?_)
   refine zN 2 sc115 rfl rfl rfl hc22 (zA ?_)
   refine zW rfl rfl rfl (w6 hF hr) (subc 0 rfl (subc 4 rfl (sub2 5 6 rfl rfl))) (fun u178 D178 hv178 => ?_)
   obtain ⟨z, hz, b178, rfl, rfl⟩ := hv178
   refine zA ?_
   refine yU 0 rfl rfl rfl (c150 _ _ _ _ _ _ (by decide) (by omega)) rfl sub0 (fun u179 M179 D179 hv179 => ?_)
   obtain ⟨A179, c179, b179, rfl, rfl, rfl⟩ := hv179
   refine zA (zE rfl rfl ?_)
   refine zC (yX (L := L) 3 0 1 rfl rfl rfl ?_)
   exact kQ (hKj8 (_, _, _, _, L ++ [(keyOf 22, _)]) ⟨hW.add rfl hkw (by decide) (by decide) hgx hz, by show _ + 2 ≤ _; omega⟩) (eC rfl (eC rfl (eC rfl (eN _)))) (hD := (subc 0 rfl sQ))
  refine zL ?_
  exact kQ (hKj8 (_, _, _, _, L) ⟨hW.skip (wA hp22 h172), by show _ ≤ _; omega⟩) (eC rfl (eC rfl (eC rfl (eN _))))
 intro ⟨m, A, ca, xs, L⟩ hI
 replace hI : WI v f [22, 21, 34, 15, 27, 1, 2, 33] L ∧ m ≤ 16 := hI
 change Run _ _ _ _ _ [(4, .slice A m ca), (3, _), (0, _)] (HA.row A m ca 102 1 xs :: HA.blk b6 (ycells 4 ⟨#[]⟩ ⟨#[]⟩ none 0 0) 150 :: []) (.ptrs xs (L.flatMap prY) :: .dblk b cs 124 :: .flds mb cs f :: .gr mb G :: .tab :: ft :: [])
 obtain ⟨hW, hm⟩ := hI
 refine zD (zD ?_)
 refine zB (zA ?_)
 refine zF rfl rfl (zA ?_)
 refine zH rfl rfl (zA ?_)
 refine zJ qZ rfl rfl (zA ?_)
 refine zN 1 sc118 rfl rfl rfl hc24 (zA ?_)
 refine yJ pn118 rfl rfl (zC ?_)
 refine zG [184, 4, 3, 0] ?_
 change Run _ _ _ _ _ [(184, _), (4, _), (3, _), (0, _)] _ _
 refine xA [3, 0] (fun (⟨m, A, ca, xs, L⟩ : T5) => WI v f [24, 22, 21, 34, 15, 27, 1, 2, 33] L ∧ m ≤ 18) eE (eM b6) (eD b cs mb f G ft) ?_ ?_
 ·intro Kj9 hKj9
  refine yM rfl (fun h184 => ?_) (fun h184 => ?_)
  ·refine xW 2 24 rfl (by decide) (by decide) hc24 hp24 h184 hU (fun fv x a hpa hfv hgx hkw hr => ?_)
   subst hpa
   have hF := HF _ _ hgx (by rw [hkw]; decide)
   rw [hkw] at hF
   change Fld ft mb G 9 x at hF
   change FvRel _ 9 x fv at hr
   refine zB (zA ?_)
   refine zF rfl rfl (zA ?_)
   refine zF rfl rfl (zA ?_)
   refine zH rfl rfl (zA ?_)
   refine zJ qZ rfl rfl (zA ?_)
   refine zN 2 sc118 rfl rfl rfl hc24 (zA ?_)
   refine zW rfl rfl rfl (w9 hF hr) (subc 0 rfl (subc 4 rfl (sub2 5 6 rfl rfl))) (fun u190 D190 hv190 => ?_)
   obtain ⟨z, hz, b190, rfl, rfl⟩ := hv190
   refine zA ?_
   refine yU 0 rfl rfl rfl (c150 _ _ _ _ _ _ (by decide) (by omega)) rfl sub0 (fun u191 M191 D191 hv191 => ?_)
   obtain ⟨A191, c191, b191, rfl, rfl, rfl⟩ := hv191
   refine zA (zE rfl rfl ?_)
   refine zC (yX (L := L) 3 0 1 rfl rfl rfl ?_)
   exact kQ (hKj9 (_, _, _, _, L ++ [(keyOf 24, _)]) ⟨hW.add rfl hkw (by decide) (by decide) hgx hz, by show _ + 2 ≤ _; omega⟩) (eC rfl (eC rfl (eC rfl (eN _)))) (hD := (subc 0 rfl sQ))
  refine zL ?_
  exact kQ (hKj9 (_, _, _, _, L) ⟨hW.skip (wA hp24 h184), by show _ ≤ _; omega⟩) (eC rfl (eC rfl (eC rfl (eN _))))
 intro ⟨m, A, ca, xs, L⟩ hI
 replace hI : WI v f [24, 22, 21, 34, 15, 27, 1, 2, 33] L ∧ m ≤ 18 := hI
 change Run _ _ _ _ _ [(4, .slice A m ca), (3, _), (0, _)] (HA.row A m ca 102 1 xs :: HA.blk b6 (ycells 4 ⟨#[]⟩ ⟨#[]⟩ none 0 0) 150 :: []) (.ptrs xs (L.flatMap prY) :: .dblk b cs 124 :: .flds mb cs f :: .gr mb G :: .tab :: ft :: [])
 obtain ⟨hW, hm⟩ := hI
 refine zD (zD ?_)
 refine zB (zA ?_)
 refine zF rfl rfl (zA ?_)
 refine zH rfl rfl (zA ?_)
 refine zJ qY rfl rfl (zA ?_)
 refine zN 1 sc118 rfl rfl rfl hc23 (zA ?_)
 refine yJ pn118 rfl rfl (zC ?_)
 refine zG [196, 4, 3, 0] ?_
 change Run _ _ _ _ _ [(196, _), (4, _), (3, _), (0, _)] _ _
 refine xA [3, 0] (fun (⟨m, A, ca, xs, L⟩ : T5) => WI v f [23, 24, 22, 21, 34, 15, 27, 1, 2, 33] L ∧ m ≤ 20) eE (eM b6) (eD b cs mb f G ft) ?_ ?_
 ·intro Kj10 hKj10
  refine yM rfl (fun h196 => ?_) (fun h196 => ?_)
  ·refine xW 2 23 rfl (by decide) (by decide) hc23 hp23 h196 hU (fun fv x a hpa hfv hgx hkw hr => ?_)
   subst hpa
   have hF := HF _ _ hgx (by rw [hkw]; decide)
   rw [hkw] at hF
   change Fld ft mb G 9 x at hF
   change FvRel _ 9 x fv at hr
   refine zB (zA ?_)
   refine zF rfl rfl (zA ?_)
   refine zF rfl rfl (zA ?_)
   refine zH rfl rfl (zA ?_)
   refine zJ qY rfl rfl (zA ?_)
   refine zN 2 sc118 rfl rfl rfl hc23 (zA ?_)
   refine zW rfl rfl rfl (w9 hF hr) (subc 0 rfl (subc 4 rfl (sub2 5 6 rfl rfl))) (fun u202 D202 hv202 => ?_)
   obtain ⟨z, hz, b202, rfl, rfl⟩ := hv202
   refine zA ?_
   refine yU 0 rfl rfl rfl (c150 _ _ _ _ _ _ (by decide) (by omega)) rfl sub0 (fun u203 M203 D203 hv203 => ?_)
   obtain ⟨A203, c203, b203, rfl, rfl, rfl⟩ := hv203
   refine zA (zE rfl rfl ?_)
   refine zC (yX (L := L) 3 0 1 rfl rfl rfl ?_)
   exact kQ (hKj10 (_, _, _, _, L ++ [(keyOf 23, _)]) ⟨hW.add rfl hkw (by decide) (by decide) hgx hz, by show _ + 2 ≤ _; omega⟩) (eC rfl (eC rfl (eC rfl (eN _)))) (hD := (subc 0 rfl sQ))
  refine zL ?_
  exact kQ (hKj10 (_, _, _, _, L) ⟨hW.skip (wA hp23 h196), by show _ ≤ _; omega⟩) (eC rfl (eC rfl (eC rfl (eN _))))
 intro ⟨m, A, ca, xs, L⟩ hI
 replace hI : WI v f [23, 24, 22, 21, 34, 15, 27, 1, 2, 33] L ∧ m ≤ 20 := hI
 change Run _ _ _ _ _ [(4, .slice A m ca), (3, _), (0, _)] (HA.row A m ca 102 1 xs :: HA.blk b6 (ycells 4 ⟨#[]⟩ ⟨#[]⟩ none 0 0) 150 :: []) (.ptrs xs (L.flatMap prY) :: .dblk b cs 124 :: .flds mb cs f :: .gr mb G :: .tab :: ft :: [])
 obtain ⟨hW, hm⟩ := hI
 refine zD (zD ?_)
 refine zB (zA ?_)
 refine zF rfl rfl (zA ?_)
 refine zH rfl rfl (zA ?_)
 refine zJ fo124_25 rfl rfl (zA ?_)
 refine zN 1 sc119 rfl rfl rfl hc25 (zA ?_)
 refine yJ pn119 rfl rfl (zC ?_)
 refine zG [208, 4, 3, 0] ?_
 change Run _ _ _ _ _ [(208, _), (4, _), (3, _), (0, _)] _ _
 refine xA [3, 0] (fun (⟨m, A, ca, xs, L⟩ : T5) => WI v f [25, 23, 24, 22, 21, 34, 15, 27, 1, 2, 33] L ∧ m ≤ 22) eE (eM b6) (eD b cs mb f G ft) ?_ ?_
 ·intro Kj11 hKj11
  refine yM rfl (fun h208 => ?_) (fun h208 => ?_)
  ·refine xW 2 25 rfl (by decide) (by decide) hc25 hp25 h208 hU (fun fv x a hpa hfv hgx hkw hr => ?_)
   subst hpa
   have hF := HF _ _ hgx (by rw [hkw]; decide)
   rw [hkw] at hF
   change Fld ft mb G 10 x at hF
   change FvRel _ 10 x fv at hr
   refine zB (zA ?_)
   refine zF rfl rfl (zA ?_)
   refine zF rfl rfl (zA ?_)
   refine zH rfl rfl (zA ?_)
   refine zJ fo124_25 rfl rfl (zA ?_)
   refine zN 2 sc119 rfl rfl rfl hc25 (zA ?_)
   refine zW rfl rfl rfl (w10 hF hr) (subc 0 rfl (subc 4 rfl (sub2 5 6 rfl rfl))) (fun u214 D214 hv214 => ?_)
   obtain ⟨z, hz, b214, rfl, rfl⟩ := hv214
   refine zA ?_
   refine yU 0 rfl rfl rfl (c150 _ _ _ _ _ _ (by decide) (by omega)) rfl sub0 (fun u215 M215 D215 hv215 => ?_)
   obtain ⟨A215, c215, b215, rfl, rfl, rfl⟩ := hv215
   refine zA (zE rfl rfl ?_)
   refine zC (yX (L := L) 3 0 1 rfl rfl rfl ?_)
   exact kQ (hKj11 (_, _, _, _, L ++ [(keyOf 25, _)]) ⟨hW.add rfl hkw (by decide) (by decide) hgx hz, by show _ + 2 ≤ _; omega⟩) (eC rfl (eC rfl (eC rfl (eN _)))) (hD := (subc 0 rfl sQ))
  refine zL ?_
  exact kQ (hKj11 (_, _, _, _, L) ⟨hW.skip (wA hp25 h208), by show _ ≤ _; omega⟩) (eC rfl (eC rfl (eC rfl (eN _))))
 intro ⟨m, A, ca, xs, L⟩ hI
 replace hI : WI v f [25, 23, 24, 22, 21, 34, 15, 27, 1, 2, 33] L ∧ m ≤ 22 := hI
 change Run _ _ _ _ _ [(4, .slice A m ca), (3, _), (0, _)] (HA.row A m ca 102 1 xs :: HA.blk b6 (ycells 4 ⟨#[]⟩ ⟨#[]⟩ none 0 0) 150 :: []) (.ptrs xs (L.flatMap prY) :: .dblk b cs 124 :: .flds mb cs f :: .gr mb G :: .tab :: ft :: [])
 obtain ⟨hW, hm⟩ := hI
 refine zD (zD ?_)
 refine zB (zA ?_)
 refine zF rfl rfl (zA ?_)
 refine zH rfl rfl (zA ?_)
 refine zJ fo124_3 rfl rfl (zA ?_)
 refine zN 1 sc111 rfl rfl rfl hc3 (zA ?_)
 refine yJ pn111 rfl rfl (zC ?_)
 refine zG [220, 4, 3, 0] ?_
 change Run _ _ _ _ _ [(220, _), (4, _), (3, _), (0, _)] _ _
 refine xA [3, 0] (fun (⟨m, A, ca, xs, L⟩ : T5) => WI v f [3, 25, 23, 24, 22, 21, 34, 15, 27, 1, 2, 33] L ∧ m ≤ 24) eE (eM b6) (eD b cs mb f G ft) ?_ ?_
 ·intro Kj12 hKj12
  refine yM rfl (fun h220 => ?_) (fun h220 => ?_)
  ·refine xW 2 3 rfl (by decide) (by decide) hc3 hp3 h220 hU (fun fv x a hpa hfv hgx hkw hr => ?_)
   subst hpa
   have hF := HF _ _ hgx (by rw [hkw]; decide)
   rw [hkw] at hF
   change Fld ft mb G 1 x at hF
   change FvRel _ 1 x fv at hr
   obtain rfl := sN hr
   refine sI 0 rfl (fun p hp hs => ?_)
   cases hp
   refine zB (zA ?_)
   refine zF rfl rfl (zA ?_)
   refine zF rfl rfl (zA ?_)
   refine zH rfl rfl (zA ?_)
   refine zJ fo124_3 rfl rfl (zA ?_)
   refine zN 3 sc111 rfl rfl rfl hc3 (zA ?_)
   refine zH rfl rfl (zA ?_)
   refine yW 0 sc9 rfl rfl rfl (zA ?_)
   refine zW rfl rfl rfl (c151 _ hs) sub0 (fun u228 D228 hv228 => ?_)
   obtain ⟨b228, rfl, rfl⟩ := hv228
   refine zA ?_
   refine yU 0 rfl rfl rfl (c150 _ _ _ _ _ _ (by decide) (by omega)) rfl sub0 (fun u229 M229 D229 hv229 => ?_)
   obtain ⟨A229, c229, b229, rfl, rfl, rfl⟩ := hv229
   refine zA (zE rfl rfl ?_)
   refine zC (zG [4, 3, 0] ?_)
   change Run _ _ _ _ _ [(4, _), (3, _), (0, _)] _ _
   refine yX (L := L) 4 0 1 rfl rfl rfl ?_
   exact kQ (hKj12 (_, _, _, _, L ++ [(keyOf 3, _)]) ⟨hW.add rfl hkw (by decide) (by decide) hgx (.inl ⟨rfl, rfl⟩), by show _ + 2 ≤ _; omega⟩) (eC rfl (eC rfl (eC rfl (eN _)))) (hD := (subc 0 rfl sQ))
  refine zL ?_
  exact kQ (hKj12 (_, _, _, _, L) ⟨hW.skip (wA hp3 h220), by show _ ≤ _; omega⟩) (eC rfl (eC rfl (eC rfl (eN _))))
 intro ⟨m, A, ca, xs, L⟩ hI
 replace hI : WI v f [3, 25, 23, 24, 22, 21, 34, 15, 27, 1, 2, 33] L ∧ m ≤ 24 := hI
 change Run _ _ _ _ _ [(4, .slice A m ca), (3, _), (0, _)] (HA.row A m ca 102 1 xs :: HA.blk b6 (ycells 4 ⟨#[]⟩ ⟨#[]⟩ none 0 0) 150 :: []) (.ptrs xs (L.flatMap prY) :: .dblk b cs 124 :: .flds mb cs f :: .gr mb G :: .tab :: ft :: [])
 obtain ⟨hW, hm⟩ := hI
 refine zD (zD ?_)
 refine zB (zA ?_)
 refine zF rfl rfl (zA ?_)
 refine zH rfl rfl (zA ?_)
 refine zJ fo124_6 rfl rfl (zA ?_)
 refine zN 1 sc113 rfl rfl rfl hc6 (zA ?_)
 refine yJ pn113 rfl rfl (zC ?_)
 refine zG [234, 4, 3, 0] ?_
 change Run _ _ _ _ _ [(234, _), (4, _), (3, _), (0, _)] _ _
 refine xA [3, 0] (fun (⟨m, A, ca, xs, L⟩ : T5) => WI v f [6, 3, 25, 23, 24, 22, 21, 34, 15, 27, 1, 2, 33] L ∧ m ≤ 26) eE (eM b6) (eD b cs mb f G ft) ?_ ?_
 ·intro Kj13 hKj13
  refine yM rfl (fun h234 => ?_) (fun h234 => ?_)
  ·refine xW 2 6 rfl (by decide) (by decide) hc6 hp6 h234 hU (fun fv x a hpa hfv hgx hkw hr => ?_)
   subst hpa
   have hF := HF _ _ hgx (by rw [hkw]; decide)
   rw [hkw] at hF
   change Fld ft mb G 3 x at hF
   change FvRel _ 3 x fv at hr
   refine zB (zA ?_)
   refine zF rfl rfl (zA ?_)
   refine zF rfl rfl (zA ?_)
   refine zH rfl rfl (zA ?_)
   refine zJ fo124_6 rfl rfl (zA ?_)
   refine zN 2 sc113 rfl rfl rfl hc6 (zA ?_)
   refine zW rfl rfl rfl (w3 hF hr) (subc 0 rfl (subc 4 rfl (sub2 5 6 rfl rfl))) (fun u240 D240 hv240 => ?_)
   obtain ⟨z, hz, b240, rfl, rfl⟩ := hv240
   refine zA ?_
   refine yU 0 rfl rfl rfl (c150 _ _ _ _ _ _ (by decide) (by omega)) rfl sub0 (fun u241 M241 D241 hv241 => ?_)
   obtain ⟨A241, c241, b241, rfl, rfl, rfl⟩ := hv241
   refine zA (zE rfl rfl ?_)
   refine zC (yX (L := L) 3 0 1 rfl rfl rfl ?_)
   exact kQ (hKj13 (_, _, _, _, L ++ [(keyOf 6, _)]) ⟨hW.add rfl hkw (by decide) (by decide) hgx hz, by show _ + 2 ≤ _; omega⟩) (eC rfl (eC rfl (eC rfl (eN _)))) (hD := (subc 0 rfl sQ))
  refine zL ?_
  exact kQ (hKj13 (_, _, _, _, L) ⟨hW.skip (wA hp6 h234), by show _ ≤ _; omega⟩) (eC rfl (eC rfl (eC rfl (eN _))))
 intro ⟨m, A, ca, xs, L⟩ hI
 replace hI : WI v f [6, 3, 25, 23, 24, 22, 21, 34, 15, 27, 1, 2, 33] L ∧ m ≤ 26 := hI
 change Run _ _ _ _ _ [(4, .slice A m ca), (3, _), (0, _)] (HA.row A m ca 102 1 xs :: HA.blk b6 (ycells 4 ⟨#[]⟩ ⟨#[]⟩ none 0 0) 150 :: []) (.ptrs xs (L.flatMap prY) :: .dblk b cs 124 :: .flds mb cs f :: .gr mb G :: .tab :: ft :: [])
 obtain ⟨hW, hm⟩ := hI
 refine zD (zD ?_)
 refine zB (zA ?_)
 refine zF rfl rfl (zA ?_)
 refine zH rfl rfl (zA ?_)
 refine zJ fo124_7 rfl rfl (zA ?_)
 refine zN 1 sc113 rfl rfl rfl hc7 (zA ?_)
 refine yJ pn113 rfl rfl (zC ?_)
 refine zG [246, 4, 3, 0] ?_
 change Run _ _ _ _ _ [(246, _), (4, _), (3, _), (0, _)] _ _
 refine xA [3, 0] (fun (⟨m, A, ca, xs, L⟩ : T5) => WI v f [7, 6, 3, 25, 23, 24, 22, 21, 34, 15, 27, 1, 2, 33] L ∧ m ≤ 28) eE (eM b6) (eD b cs mb f G ft) ?_ ?_
 ·intro Kj14 hKj14
  refine yM rfl (fun h246 => ?_) (fun h246 => ?_)
  ·refine xW 2 7 rfl (by decide) (by decide) hc7 hp7 h246 hU (fun fv x a hpa hfv hgx hkw hr => ?_)
   subst hpa
   have hF := HF _ _ hgx (by rw [hkw]; decide)
   rw [hkw] at hF
   change Fld ft mb G 3 x at hF
   change FvRel _ 3 x fv at hr
   refine zB (zA ?_)
   refine zF rfl rfl (zA ?_)
   refine zF rfl rfl (zA ?_)
   refine zH rfl rfl (zA ?_)
   refine zJ fo124_7 rfl rfl (zA ?_)
   refine zN 2 sc113 rfl rfl rfl hc7 (zA ?_)
   refine zW rfl rfl rfl (w3 hF hr) (subc 0 rfl (subc 4 rfl (sub2 5 6 rfl rfl))) (fun u252 D252 hv252 => ?_)
   obtain ⟨z, hz, b252, rfl, rfl⟩ := hv252
   refine zA ?_
   refine yU 0 rfl rfl rfl (c150 _ _ _ _ _ _ (by decide) (by omega)) rfl sub0 (fun u253 M253 D253 hv253 => ?_)
   obtain ⟨A253, c253, b253, rfl, rfl, rfl⟩ := hv253
   refine zA (zE rfl rfl ?_)
   refine zC (yX (L := L) 3 0 1 rfl rfl rfl ?_)
   exact kQ (hKj14 (_, _, _, _, L ++ [(keyOf 7, _)]) ⟨hW.add rfl hkw (by decide) (by decide) hgx hz, by show _ + 2 ≤ _; omega⟩) (eC rfl (eC rfl (eC rfl (eN _)))) (hD := (subc 0 rfl sQ))
  refine zL ?_
  exact kQ (hKj14 (_, _, _, _, L) ⟨hW.skip (wA hp7 h246), by show _ ≤ _; omega⟩) (eC rfl (eC rfl (eC rfl (eN _))))
 intro ⟨m, A, ca, xs, L⟩ hI
 replace hI : WI v f [7, 6, 3, 25, 23, 24, 22, 21, 34, 15, 27, 1, 2, 33] L ∧ m ≤ 28 := hI
 change Run _ _ _ _ _ [(4, .slice A m ca), (3, _), (0, _)] (HA.row A m ca 102 1 xs :: HA.blk b6 (ycells 4 ⟨#[]⟩ ⟨#[]⟩ none 0 0) 150 :: []) (.ptrs xs (L.flatMap prY) :: .dblk b cs 124 :: .flds mb cs f :: .gr mb G :: .tab :: ft :: [])
 obtain ⟨hW, hm⟩ := hI
 refine zD (zD ?_)
 refine zB (zA ?_)
 refine zF rfl rfl (zA ?_)
 refine zH rfl rfl (zA ?_)
 refine zJ fo124_8 rfl rfl (zA ?_)
 refine zN 1 sc112 rfl rfl rfl hc8 (zA ?_)
 refine yJ pn112 rfl rfl (zC ?_)
 refine zG [258, 4, 3, 0] ?_
 change Run _ _ _ _ _ [(258, _), (4, _), (3, _), (0, _)] _ _
 refine xA [3, 0] (fun (⟨m, A, ca, xs, L⟩ : T5) => WI v f [8, 7, 6, 3, 25, 23, 24, 22, 21, 34, 15, 27, 1, 2, 33] L ∧ m ≤ 30) eE (eM b6) (eD b cs mb f G ft) ?_ ?_
 ·intro Kj15 hKj15
  refine yM rfl (fun h258 => ?_) (fun h258 => ?_)
  ·refine xW 2 8 rfl (by decide) (by decide) hc8 hp8 h258 hU (fun fv x a hpa hfv hgx hkw hr => ?_)
   subst hpa
   have hF := HF _ _ hgx (by rw [hkw]; decide)
   rw [hkw] at hF
   change Fld ft mb G 2 x at hF
   change FvRel _ 2 x fv at hr
   obtain rfl := bool_of hr
   refine run_bool 0 rfl (fun p hp => ?_)
   cases hp
   refine zB (zA ?_)
   refine zF rfl rfl (zA ?_)
   refine zF rfl rfl (zA ?_)
   refine zH rfl rfl (zA ?_)
   refine zJ fo124_8 rfl rfl (zA ?_)
   refine zN 3 sc112 rfl rfl rfl hc8 (zA ?_)
   refine zH rfl rfl (zA ?_)
   refine yW 0 sc4 rfl rfl rfl (zA ?_)
   refine zW rfl rfl rfl (c153 _) sub0 (fun u266 D266 hv266 => ?_)
   obtain ⟨b266, rfl, rfl⟩ := hv266
   refine zA ?_
   refine yU 0 rfl rfl rfl (c150 _ _ _ _ _ _ (by decide) (by omega)) rfl sub0 (fun u267 M267 D267 hv267 => ?_)
   obtain ⟨A267, c267, b267, rfl, rfl, rfl⟩ := hv267
   refine zA (zE rfl rfl ?_)
   refine zC (zG [4, 3, 0] ?_)
   change Run _ _ _ _ _ [(4, _), (3, _), (0, _)] _ _
   refine yX (L := L) 4 0 1 rfl rfl rfl ?_
   exact kQ (hKj15 (_, _, _, _, L ++ [(keyOf 8, _)]) ⟨hW.add rfl hkw (by decide) (by decide) hgx (.inr (.inl ⟨rfl, rfl⟩)), by show _ + 2 ≤ _; omega⟩) (eC rfl (eC rfl (eC rfl (eN _)))) (hD := (subc 0 rfl sQ))
  refine zL ?_
  exact kQ (hKj15 (_, _, _, _, L) ⟨hW.skip (wA hp8 h258), by show _ ≤ _; omega⟩) (eC rfl (eC rfl (eC rfl (eN _))))
 intro ⟨m, A, ca, xs, L⟩ hI
 replace hI : WI v f [8, 7, 6, 3, 25, 23, 24, 22, 21, 34, 15, 27, 1, 2, 33] L ∧ m ≤ 30 := hI
 change Run _ _ _ _ _ [(4, .slice A m ca), (3, _), (0, _)] (HA.row A m ca 102 1 xs :: HA.blk b6 (ycells 4 ⟨#[]⟩ ⟨#[]⟩ none 0 0) 150 :: []) (.ptrs xs (L.flatMap prY) :: .dblk b cs 124 :: .flds mb cs f :: .gr mb G :: .tab :: ft :: [])
 obtain ⟨hW, hm⟩ := hI
 refine zD (zD ?_)
 refine zB (zA ?_)
 refine zF rfl rfl (zA ?_)
 refine zH rfl rfl (zA ?_)
 refine zJ fo124_9 rfl rfl (zA ?_)
 refine zN 1 sc113 rfl rfl rfl hc9 (zA ?_)
 refine yJ pn113 rfl rfl (zC ?_)
 refine zG [272, 4, 3, 0] ?_
 change Run _ _ _ _ _ [(272, _), (4, _), (3, _), (0, _)] _ _
 refine xA [3, 0] (fun (⟨m, A, ca, xs, L⟩ : T5) => WI v f [9, 8, 7, 6, 3, 25, 23, 24, 22, 21, 34, 15, 27, 1, 2, 33] L ∧ m ≤ 32) eE (eM b6) (eD b cs mb f G ft) ?_ ?_
 ·intro Kj16 hKj16
  refine yM rfl (fun h272 => ?_) (fun h272 => ?_)
  ·refine xW 2 9 rfl (by decide) (by decide) hc9 hp9 h272 hU (fun fv x a hpa hfv hgx hkw hr => ?_)
   subst hpa
   have hF := HF _ _ hgx (by rw [hkw]; decide)
   rw [hkw] at hF
   change Fld ft mb G 3 x at hF
   change FvRel _ 3 x fv at hr
   refine zB (zA ?_)
   refine zF rfl rfl (zA ?_)
   refine zF rfl rfl (zA ?_)
   refine zH rfl rfl (zA ?_)
   refine zJ fo124_9 rfl rfl (zA ?_)
   refine zN 2 sc113 rfl rfl rfl hc9 (zA ?_)
   refine zW rfl rfl rfl (w3 hF hr) (subc 0 rfl (subc 4 rfl (sub2 5 6 rfl rfl))) (fun u278 D278 hv278 => ?_)
   obtain ⟨z, hz, b278, rfl, rfl⟩ := hv278
   refine zA ?_
   refine yU 0 rfl rfl rfl (c150 _ _ _ _ _ _ (by decide) (by omega)) rfl sub0 (fun u279 M279 D279 hv279 => ?_)
   obtain ⟨A279, c279, b279, rfl, rfl, rfl⟩ := hv279
   refine zA (zE rfl rfl ?_)
   refine zC (yX (L := L) 3 0 1 rfl rfl rfl ?_)
   exact kQ (hKj16 (_, _, _, _, L ++ [(keyOf 9, _)]) ⟨hW.add rfl hkw (by decide) (by decide) hgx hz, by show _ + 2 ≤ _; omega⟩) (eC rfl (eC rfl (eC rfl (eN _)))) (hD := (subc 0 rfl sQ))
  refine zL ?_
  exact kQ (hKj16 (_, _, _, _, L) ⟨hW.skip (wA hp9 h272), by show _ ≤ _; omega⟩) (eC rfl (eC rfl (eC rfl (eN _))))
 intro ⟨m, A, ca, xs, L⟩ hI
 replace hI : WI v f [9, 8, 7, 6, 3, 25, 23, 24, 22, 21, 34, 15, 27, 1, 2, 33] L ∧ m ≤ 32 := hI
 change Run _ _ _ _ _ [(4, .slice A m ca), (3, _), (0, _)] (HA.row A m ca 102 1 xs :: HA.blk b6 (ycells 4 ⟨#[]⟩ ⟨#[]⟩ none 0 0) 150 :: []) (.ptrs xs (L.flatMap prY) :: .dblk b cs 124 :: .flds mb cs f :: .gr mb G :: .tab :: ft :: [])
 obtain ⟨hW, hm⟩ := hI
 refine zD (zD ?_)
 refine zB (zA ?_)
 refine zF rfl rfl (zA ?_)
 refine zH rfl rfl (zA ?_)
 refine zJ fo124_10 rfl rfl (zA ?_)
 refine zN 1 sc112 rfl rfl rfl hc10 (zA ?_)
 refine yJ pn112 rfl rfl (zC ?_)
 refine zG [284, 4, 3, 0] ?_
 change Run _ _ _ _ _ [(284, _), (4, _), (3, _), (0, _)] _ _
 refine xA [3, 0] (fun (⟨m, A, ca, xs, L⟩ : T5) => WI v f [10, 9, 8, 7, 6, 3, 25, 23, 24, 22, 21, 34, 15, 27, 1, 2, 33] L ∧ m ≤ 34) eE (eM b6) (eD b cs mb f G ft) ?_ ?_
 ·intro Kj17 hKj17
  refine yM rfl (fun h284 => ?_) (fun h284 => ?_)
  ·refine xW 2 10 rfl (by decide) (by decide) hc10 hp10 h284 hU (fun fv x a hpa hfv hgx hkw hr => ?_)
   subst hpa
   have hF := HF _ _ hgx (by rw [hkw]; decide)
   rw [hkw] at hF
   change Fld ft mb G 2 x at hF
   change FvRel _ 2 x fv at hr
   obtain rfl := bool_of hr
   refine run_bool 0 rfl (fun p hp => ?_)
   cases hp
   refine zB (zA ?_)
   refine zF rfl rfl (zA ?_)
   refine zF rfl rfl (zA ?_)
   refine zH rfl rfl (zA ?_)
   refine zJ fo124_10 rfl rfl (zA ?_)
   refine zN 3 sc112 rfl rfl rfl hc10 (zA ?_)
   refine zH rfl rfl (zA ?_)
   refine yW 0 sc4 rfl rfl rfl (zA ?_)
   refine zW rfl rfl rfl (c153 _) sub0 (fun u292 D292 hv292 => ?_)
   obtain ⟨b292, rfl, rfl⟩ := hv292
   refine zA ?_
   refine yU 0 rfl rfl rfl (c150 _ _ _ _ _ _ (by decide) (by omega)) rfl sub0 (fun u293 M293 D293 hv293 => ?_)
   obtain ⟨A293, c293, b293, rfl, rfl, rfl⟩ := hv293
   refine zA (zE rfl rfl ?_)
   refine zC (zG [4, 3, 0] ?_)
   change Run _ _ _ _ _ [(4, _), (3, _), (0, _)] _ _
   refine yX (L := L) 4 0 1 rfl rfl rfl ?_
   exact kQ (hKj17 (_, _, _, _, L ++ [(keyOf 10, _)]) ⟨hW.add rfl hkw (by decide) (by decide) hgx (.inr (.inl ⟨rfl, rfl⟩)), by show _ + 2 ≤ _; omega⟩) (eC rfl (eC rfl (eC rfl (eN _)))) (hD := (subc 0 rfl sQ))
  refine zL ?_
  exact kQ (hKj17 (_, _, _, _, L) ⟨hW.skip (wA hp10 h284), by show _ ≤ _; omega⟩) (eC rfl (eC rfl (eC rfl (eN _))))
 intro ⟨m, A, ca, xs, L⟩ hI
 replace hI : WI v f [10, 9, 8, 7, 6, 3, 25, 23, 24, 22, 21, 34, 15, 27, 1, 2, 33] L ∧ m ≤ 34 := hI
 change Run _ _ _ _ _ [(4, .slice A m ca), (3, _), (0, _)] (HA.row A m ca 102 1 xs :: HA.blk b6 (ycells 4 ⟨#[]⟩ ⟨#[]⟩ none 0 0) 150 :: []) (.ptrs xs (L.flatMap prY) :: .dblk b cs 124 :: .flds mb cs f :: .gr mb G :: .tab :: ft :: [])
 obtain ⟨hW, hm⟩ := hI
 refine zD (zD ?_)
 refine zB (zA ?_)
 refine zF rfl rfl (zA ?_)
 refine zH rfl rfl (zA ?_)
 refine zJ fo124_11 rfl rfl (zA ?_)
 refine zN 1 sc114 rfl rfl rfl hc11 (zA ?_)
 refine yJ pn114 rfl rfl (zC ?_)
 refine zG [298, 4, 3, 0] ?_
 change Run _ _ _ _ _ [(298, _), (4, _), (3, _), (0, _)] _ _
 refine xA [3, 0] (fun (⟨m, A, ca, xs, L⟩ : T5) => WI v f [11, 10, 9, 8, 7, 6, 3, 25, 23, 24, 22, 21, 34, 15, 27, 1, 2, 33] L ∧ m ≤ 36) eE (eM b6) (eD b cs mb f G ft) ?_ ?_
 ·intro Kj18 hKj18
  refine yM rfl (fun h298 => ?_) (fun h298 => ?_)
  ·refine xW 2 11 rfl (by decide) (by decide) hc11 hp11 h298 hU (fun fv x a hpa hfv hgx hkw hr => ?_)
   subst hpa
   have hF := HF _ _ hgx (by rw [hkw]; decide)
   rw [hkw] at hF
   change Fld ft mb G 4 x at hF
   change FvRel _ 4 x fv at hr
   obtain rfl := int_of hr
   refine run_int 0 rfl (fun p hp => ?_)
   cases hp
   have hn := Fld.int (.inl (by have := hF.fit; simp [FitLoc] at this; exact this.1)) hF.pl
   refine zB (zA ?_)
   refine zF rfl rfl (zA ?_)
   refine zF rfl rfl (zA ?_)
   refine zH rfl rfl (zA ?_)
   refine zJ fo124_11 rfl rfl (zA ?_)
   refine zN 3 sc114 rfl rfl rfl hc11 (zA ?_)
   refine zH rfl rfl (zA ?_)
   refine yW 0 sc2 rfl rfl rfl (zA ?_)
   refine zW rfl rfl rfl (c161 _ hn.1 hn.2) (sub1 6 rfl) (fun u306 D306 hv306 => ?_)
   obtain ⟨b306, rfl, rfl⟩ := hv306
   refine zA ?_
   refine yU 0 rfl rfl rfl (c150 _ _ _ _ _ _ (by decide) (by omega)) rfl sub0 (fun u307 M307 D307 hv307 => ?_)
   obtain ⟨A307, c307, b307, rfl, rfl, rfl⟩ := hv307
   refine zA (zE rfl rfl ?_)
   refine zC (zG [4, 3, 0] ?_)
   change Run _ _ _ _ _ [(4, _), (3, _), (0, _)] _ _
   refine yX (L := L) 4 0 1 rfl rfl rfl ?_
   exact kQ (hKj18 (_, _, _, _, L ++ [(keyOf 11, _)]) ⟨hW.add rfl hkw (by decide) (by decide) hgx (.inr (.inr (.inr (.inr (.inl ⟨rfl, rfl⟩))))), by show _ + 2 ≤ _; omega⟩) (eC rfl (eC rfl (eC rfl (eN _)))) (hD := (subc 0 rfl sQ))
  refine zL ?_
  exact kQ (hKj18 (_, _, _, _, L) ⟨hW.skip (wA hp11 h298), by show _ ≤ _; omega⟩) (eC rfl (eC rfl (eC rfl (eN _))))
 intro ⟨m, A, ca, xs, L⟩ hI
 replace hI : WI v f [11, 10, 9, 8, 7, 6, 3, 25, 23, 24, 22, 21, 34, 15, 27, 1, 2, 33] L ∧ m ≤ 36 := hI
 change Run _ _ _ _ _ [(4, .slice A m ca), (3, _), (0, _)] (HA.row A m ca 102 1 xs :: HA.blk b6 (ycells 4 ⟨#[]⟩ ⟨#[]⟩ none 0 0) 150 :: []) (.ptrs xs (L.flatMap prY) :: .dblk b cs 124 :: .flds mb cs f :: .gr mb G :: .tab :: ft :: [])
 obtain ⟨hW, hm⟩ := hI
 refine zD (zD ?_)
 refine zB (zA ?_)
 refine zF rfl rfl (zA ?_)
 refine zH rfl rfl (zA ?_)
 refine zJ fo124_12 rfl rfl (zA ?_)
 refine zN 1 sc114 rfl rfl rfl hc12 (zA ?_)
 refine yJ pn114 rfl rfl (zC ?_)
 refine zG [312, 4, 3, 0] ?_
 change Run _ _ _ _ _ [(312, _), (4, _), (3, _), (0, _)] _ _
 refine xA [3, 0] (fun (⟨m, A, ca, xs, L⟩ : T5) => WI v f [12, 11, 10, 9, 8, 7, 6, 3, 25, 23, 24, 22, 21, 34, 15, 27, 1, 2, 33] L ∧ m ≤ 38) eE (eM b6) (eD b cs mb f G ft) ?_ ?_
 ·intro Kj19 hKj19
  refine yM rfl (fun h312 => ?_) (fun h312 => ?_)
  ·refine xW 2 12 rfl (by decide) (by decide) hc12 hp12 h312 hU (fun fv x a hpa hfv hgx hkw hr => ?_)
   subst hpa
   have hF := HF _ _ hgx (by rw [hkw]; decide)
   rw [hkw] at hF
   change Fld ft mb G 4 x at hF
   change FvRel _ 4 x fv at hr
   obtain rfl := int_of hr
   refine run_int 0 rfl (fun p hp => ?_)
   cases hp
   have hn := Fld.int (.inl (by have := hF.fit; simp [FitLoc] at this; exact this.1)) hF.pl
   refine zB (zA ?_)
   refine zF rfl rfl (zA ?_)
   refine zF rfl rfl (zA ?_)
   refine zH rfl rfl (zA ?_)
   refine zJ fo124_12 rfl rfl (zA ?_)
   refine zN 3 sc114 rfl rfl rfl hc12 (zA ?_)
   refine zH rfl rfl (zA ?_)
   refine yW 0 sc2 rfl rfl rfl (zA ?_)
   refine zW rfl rfl rfl (c161 _ hn.1 hn.2) (sub1 6 rfl) (fun u320 D320 hv320 => ?_)
   obtain ⟨b320, rfl, rfl⟩ := hv320
   refine zA ?_
   refine yU 0 rfl rfl rfl (c150 _ _ _ _ _ _ (by decide) (by omega)) rfl sub0 (fun u321 M321 D321 hv321 => ?_)
   obtain ⟨A321, c321, b321, rfl, rfl, rfl⟩ := hv321
   refine zA (zE rfl rfl ?_)
   refine zC (zG [4, 3, 0] ?_)
   change Run _ _ _ _ _ [(4, _), (3, _), (0, _)] _ _
   refine yX (L := L) 4 0 1 rfl rfl rfl ?_
   exact kQ (hKj19 (_, _, _, _, L ++ [(keyOf 12, _)]) ⟨hW.add rfl hkw (by decide) (by decide) hgx (.inr (.inr (.inr (.inr (.inl ⟨rfl, rfl⟩))))), by show _ + 2 ≤ _; omega⟩) (eC rfl (eC rfl (eC rfl (eN _)))) (hD := (subc 0 rfl sQ))
  refine zL ?_
  exact kQ (hKj19 (_, _, _, _, L) ⟨hW.skip (wA hp12 h312), by show _ ≤ _; omega⟩) (eC rfl (eC rfl (eC rfl (eN _))))
 intro ⟨m, A, ca, xs, L⟩ hI
 replace hI : WI v f [12, 11, 10, 9, 8, 7, 6, 3, 25, 23, 24, 22, 21, 34, 15, 27, 1, 2, 33] L ∧ m ≤ 38 := hI
 change Run _ _ _ _ _ [(4, .slice A m ca), (3, _), (0, _)] (HA.row A m ca 102 1 xs :: HA.blk b6 (ycells 4 ⟨#[]⟩ ⟨#[]⟩ none 0 0) 150 :: []) (.ptrs xs (L.flatMap prY) :: .dblk b cs 124 :: .flds mb cs f :: .gr mb G :: .tab :: ft :: [])
 obtain ⟨hW, hm⟩ := hI
 refine zD (zD ?_)
 refine zB (zA ?_)
 refine zF rfl rfl (zA ?_)
 refine zH rfl rfl (zA ?_)
 refine zJ fo124_13 rfl rfl (zA ?_)
 refine zN 1 sc111 rfl rfl rfl hc13 (zA ?_)
 refine yJ pn111 rfl rfl (zC ?_)
 refine zG [326, 4, 3, 0] ?_
 change Run _ _ _ _ _ [(326, _), (4, _), (3, _), (0, _)] _ _
 refine xA [3, 0] (fun (⟨m, A, ca, xs, L⟩ : T5) => WI v f [13, 12, 11, 10, 9, 8, 7, 6, 3, 25, 23, 24, 22, 21, 34, 15, 27, 1, 2, 33] L ∧ m ≤ 40) eE (eM b6) (eD b cs mb f G ft) ?_ ?_
 ·intro Kj20 hKj20
  refine yM rfl (fun h326 => ?_) (fun h326 => ?_)
  ·refine xW 2 13 rfl (by decide) (by decide) hc13 hp13 h326 hU (fun fv x a hpa hfv hgx hkw hr => ?_)
   subst hpa
   have hF := HF _ _ hgx (by rw [hkw]; decide)
   rw [hkw] at hF
   change Fld ft mb G 1 x at hF
   change FvRel _ 1 x fv at hr
   obtain rfl := sN hr
   refine sI 0 rfl (fun p hp hs => ?_)
   cases hp
   refine zB (zA ?_)
   refine zF rfl rfl (zA ?_)
   refine zF rfl rfl (zA ?_)
   refine zH rfl rfl (zA ?_)
   refine zJ fo124_13 rfl rfl (zA ?_)
   refine zN 3 sc111 rfl rfl rfl hc13 (zA ?_)
   refine zH rfl rfl (zA ?_)
   refine yW 0 sc9 rfl rfl rfl (zA ?_)
   refine zW rfl rfl rfl (c151 _ hs) sub0 (fun u334 D334 hv334 => ?_)
   obtain ⟨b334, rfl, rfl⟩ := hv334
   refine zA ?_
   refine yU 0 rfl rfl rfl (c150 _ _ _ _ _ _ (by decide) (by omega)) rfl sub0 (fun u335 M335 D335 hv335 => ?_)
   obtain ⟨A335, c335, b335, rfl, rfl, rfl⟩ := hv335
   refine zA (zE rfl rfl ?_)
   refine zC (zG [4, 3, 0] ?_)
   change Run _ _ _ _ _ [(4, _), (3, _), (0, _)] _ _
   refine yX (L := L) 4 0 1 rfl rfl rfl ?_
   exact kQ (hKj20 (_, _, _, _, L ++ [(keyOf 13, _)]) ⟨hW.add rfl hkw (by decide) (by decide) hgx (.inl ⟨rfl, rfl⟩), by show _ + 2 ≤ _; omega⟩) (eC rfl (eC rfl (eC rfl (eN _)))) (hD := (subc 0 rfl sQ))
  refine zL ?_
  exact kQ (hKj20 (_, _, _, _, L) ⟨hW.skip (wA hp13 h326), by show _ ≤ _; omega⟩) (eC rfl (eC rfl (eC rfl (eN _))))
 intro ⟨m, A, ca, xs, L⟩ hI
 replace hI : WI v f [13, 12, 11, 10, 9, 8, 7, 6, 3, 25, 23, 24, 22, 21, 34, 15, 27, 1, 2, 33] L ∧ m ≤ 40 := hI
 change Run _ _ _ _ _ [(4, .slice A m ca), (3, _), (0, _)] (HA.row A m ca 102 1 xs :: HA.blk b6 (ycells 4 ⟨#[]⟩ ⟨#[]⟩ none 0 0) 150 :: []) (.ptrs xs (L.flatMap prY) :: .dblk b cs 124 :: .flds mb cs f :: .gr mb G :: .tab :: ft :: [])
 obtain ⟨hW, hm⟩ := hI
 refine zD (zD ?_)
 refine zB (zA ?_)
 refine zF rfl rfl (zA ?_)
 refine zH rfl rfl (zA ?_)
 refine zJ fo124_14 rfl rfl (zA ?_)
 refine zN 1 sc115 rfl rfl rfl hc14 (zA ?_)
 refine yJ pn115 rfl rfl (zC ?_)
 refine zG [340, 4, 3, 0] ?_
 change Run _ _ _ _ _ [(340, _), (4, _), (3, _), (0, _)] _ _
 refine xA [3, 0] (fun (⟨m, A, ca, xs, L⟩ : T5) => WI v f [14, 13, 12, 11, 10, 9, 8, 7, 6, 3, 25, 23, 24, 22, 21, 34, 15, 27, 1, 2, 33] L ∧ m ≤ 42) eE (eM b6) (eD b cs mb f G ft) ?_ ?_
 ·intro Kj21 hKj21
  refine yM rfl (fun h340 => ?_) (fun h340 => ?_)
  ·refine xW 2 14 rfl (by decide) (by decide) hc14 hp14 h340 hU (fun fv x a hpa hfv hgx hkw hr => ?_)
   subst hpa
   have hF := HF _ _ hgx (by rw [hkw]; decide)
   rw [hkw] at hF
   change Fld ft mb G 6 x at hF
   change FvRel _ 6 x fv at hr
   refine zB (zA ?_)
   refine zF rfl rfl (zA ?_)
   refine zF rfl rfl (zA ?_)
   refine zH rfl rfl (zA ?_)
   refine zJ fo124_14 rfl rfl (zA ?_)
   refine zN 2 sc115 rfl rfl rfl hc14 (zA ?_)
   refine zW rfl rfl rfl (w6 hF hr) (subc 0 rfl (subc 4 rfl (sub2 5 6 rfl rfl))) (fun u346 D346 hv346 => ?_)
   obtain ⟨z, hz, b346, rfl, rfl⟩ := hv346
   refine zA ?_
   refine yU 0 rfl rfl rfl (c150 _ _ _ _ _ _ (by decide) (by omega)) rfl sub0 (fun u347 M347 D347 hv347 => ?_)
   obtain ⟨A347, c347, b347, rfl, rfl, rfl⟩ := hv347
   refine zA (zE rfl rfl ?_)
   refine zC (yX (L := L) 3 0 1 rfl rfl rfl ?_)
   exact kQ (hKj21 (_, _, _, _, L ++ [(keyOf 14, _)]) ⟨hW.add rfl hkw (by decide) (by decide) hgx hz, by show _ + 2 ≤ _; omega⟩) (eC rfl (eC rfl (eC rfl (eN _)))) (hD := (subc 0 rfl sQ))
  refine zL ?_
  exact kQ (hKj21 (_, _, _, _, L) ⟨hW.skip (wA hp14 h340), by show _ ≤ _; omega⟩) (eC rfl (eC rfl (eC rfl (eN _))))
 intro ⟨m, A, ca, xs, L⟩ hI
 replace hI : WI v f [14, 13, 12, 11, 10, 9, 8, 7, 6, 3, 25, 23, 24, 22, 21, 34, 15, 27, 1, 2, 33] L ∧ m ≤ 42 := hI
 change Run _ _ _ _ _ [(4, .slice A m ca), (3, _), (0, _)] (HA.row A m ca 102 1 xs :: HA.blk b6 (ycells 4 ⟨#[]⟩ ⟨#[]⟩ none 0 0) 150 :: []) (.ptrs xs (L.flatMap prY) :: .dblk b cs 124 :: .flds mb cs f :: .gr mb G :: .tab :: ft :: [])
 obtain ⟨hW, hm⟩ := hI
 refine zD (zD ?_)
 refine zB (zA ?_)
 refine zF rfl rfl (zA ?_)
 refine zH rfl rfl (zA ?_)
 refine zJ fo124_16 rfl rfl (zA ?_)
 refine zN 1 sc114 rfl rfl rfl hc16 (zA ?_)
 refine yJ pn114 rfl rfl (zC ?_)
 refine zG [352, 4, 3, 0] ?_
 change Run _ _ _ _ _ [(352, _), (4, _), (3, _), (0, _)] _ _
 refine xA [3, 0] (fun (⟨m, A, ca, xs, L⟩ : T5) => WI v f [16, 14, 13, 12, 11, 10, 9, 8, 7, 6, 3, 25, 23, 24, 22, 21, 34, 15, 27, 1, 2, 33] L ∧ m ≤ 44) eE (eM b6) (eD b cs mb f G ft) ?_ ?_
 ·intro Kj22 hKj22
  refine yM rfl (fun h352 => ?_) (fun h352 => ?_)
  ·refine xW 2 16 rfl (by decide) (by decide) hc16 hp16 h352 hU (fun fv x a hpa hfv hgx hkw hr => ?_)
   subst hpa
   have hF := HF _ _ hgx (by rw [hkw]; decide)
   rw [hkw] at hF
   change Fld ft mb G 4 x at hF
   change FvRel _ 4 x fv at hr
   obtain rfl := int_of hr
   refine run_int 0 rfl (fun p hp => ?_)
   cases hp
   have hn := Fld.int (.inl (by have := hF.fit; simp [FitLoc] at this; exact this.1)) hF.pl
   refine zB (zA ?_)
   refine zF rfl rfl (zA ?_)
   refine zF rfl rfl (zA ?_)
   refine zH rfl rfl (zA ?_)
   refine zJ fo124_16 rfl rfl (zA ?_)
   refine zN 3 sc114 rfl rfl rfl hc16 (zA ?_)
   refine zH rfl rfl (zA ?_)
   refine yW 0 sc2 rfl rfl rfl (zA ?_)
   refine zW rfl rfl rfl (c161 _ hn.1 hn.2) (sub1 6 rfl) (fun u360 D360 hv360 => ?_)
   obtain ⟨b360, rfl, rfl⟩ := hv360
   refine zA ?_
   refine yU 0 rfl rfl rfl (c150 _ _ _ _ _ _ (by decide) (by omega)) rfl sub0 (fun u361 M361 D361 hv361 => ?_)
   obtain ⟨A361, c361, b361, rfl, rfl, rfl⟩ := hv361
   refine zA (zE rfl rfl ?_)
   refine zC (zG [4, 3, 0] ?_)
   change Run _ _ _ _ _ [(4, _), (3, _), (0, _)] _ _
   refine yX (L := L) 4 0 1 rfl rfl rfl ?_
   exact kQ (hKj22 (_, _, _, _, L ++ [(keyOf 16, _)]) ⟨hW.add rfl hkw (by decide) (by decide) hgx (.inr (.inr (.inr (.inr (.inl ⟨rfl, rfl⟩))))), by show _ + 2 ≤ _; omega⟩) (eC rfl (eC rfl (eC rfl (eN _)))) (hD := (subc 0 rfl sQ))
  refine zL ?_
  exact kQ (hKj22 (_, _, _, _, L) ⟨hW.skip (wA hp16 h352), by show _ ≤ _; omega⟩) (eC rfl (eC rfl (eC rfl (eN _))))
 intro ⟨m, A, ca, xs, L⟩ hI
 replace hI : WI v f [16, 14, 13, 12, 11, 10, 9, 8, 7, 6, 3, 25, 23, 24, 22, 21, 34, 15, 27, 1, 2, 33] L ∧ m ≤ 44 := hI
 change Run _ _ _ _ _ [(4, .slice A m ca), (3, _), (0, _)] (HA.row A m ca 102 1 xs :: HA.blk b6 (ycells 4 ⟨#[]⟩ ⟨#[]⟩ none 0 0) 150 :: []) (.ptrs xs (L.flatMap prY) :: .dblk b cs 124 :: .flds mb cs f :: .gr mb G :: .tab :: ft :: [])
 obtain ⟨hW, hm⟩ := hI
 refine zD (zD ?_)
 refine zB (zA ?_)
 refine zF rfl rfl (zA ?_)
 refine zH rfl rfl (zA ?_)
 refine zJ fo124_17 rfl rfl (zA ?_)
 refine zN 1 sc114 rfl rfl rfl hc17 (zA ?_)
 refine yJ pn114 rfl rfl (zC ?_)
 refine zG [366, 4, 3, 0] ?_
 change Run _ _ _ _ _ [(366, _), (4, _), (3, _), (0, _)] _ _
 refine xA [3, 0] (fun (⟨m, A, ca, xs, L⟩ : T5) => WI v f [17, 16, 14, 13, 12, 11, 10, 9, 8, 7, 6, 3, 25, 23, 24, 22, 21, 34, 15, 27, 1, 2, 33] L ∧ m ≤ 46) eE (eM b6) (eD b cs mb f G ft) ?_ ?_
 ·intro Kj23 hKj23
  refine yM rfl (fun h366 => ?_) (fun h366 => ?_)
  ·refine xW 2 17 rfl (by decide) (by decide) hc17 hp17 h366 hU (fun fv x a hpa hfv hgx hkw hr => ?_)
   subst hpa
   have hF := HF _ _ hgx (by rw [hkw]; decide)
   rw [hkw] at hF
   change Fld ft mb G 4 x at hF
   change FvRel _ 4 x fv at hr
   obtain rfl := int_of hr
   refine run_int 0 rfl (fun p hp => ?_)
   cases hp
   have hn := Fld.int (.inl (by have := hF.fit; simp [FitLoc] at this; exact this.1)) hF.pl
   refine zB (zA ?_)
   refine zF rfl rfl (zA ?_)
   refine zF rfl rfl (zA ?_)
   refine zH rfl rfl (zA ?_)
   refine zJ fo124_17 rfl rfl (zA ?_)
   refine zN 3 sc114 rfl rfl rfl hc17 (zA ?_)
   refine zH rfl rfl (zA ?_)
   refine yW 0 sc2 rfl rfl rfl (zA ?_)
   refine zW rfl rfl rfl (c161 _ hn.1 hn.2) (sub1 6 rfl) (fun u374 D374 hv374 => ?_)
   obtain ⟨b374, rfl, rfl⟩ := hv374
   refine zA ?_
   refine yU 0 rfl rfl rfl (c150 _ _ _ _ _ _ (by decide) (by omega)) rfl sub0 (fun u375 M375 D375 hv375 => ?_)
   obtain ⟨A375, c375, b375, rfl, rfl, rfl⟩ := hv375
   refine zA (zE rfl rfl ?_)
   refine zC (zG [4, 3, 0] ?_)
   change Run _ _ _ _ _ [(4, _), (3, _), (0, _)] _ _
   refine yX (L := L) 4 0 1 rfl rfl rfl ?_
   exact kQ (hKj23 (_, _, _, _, L ++ [(keyOf 17, _)]) ⟨hW.add rfl hkw (by decide) (by decide) hgx (.inr (.inr (.inr (.inr (.inl ⟨rfl, rfl⟩))))), by show _ + 2 ≤ _; omega⟩) (eC rfl (eC rfl (eC rfl (eN _)))) (hD := (subc 0 rfl sQ))
  refine zL ?_
  exact kQ (hKj23 (_, _, _, _, L) ⟨hW.skip (wA hp17 h366), by show _ ≤ _; omega⟩) (eC rfl (eC rfl (eC rfl (eN _))))
 intro ⟨m, A, ca, xs, L⟩ hI
 replace hI : WI v f [17, 16, 14, 13, 12, 11, 10, 9, 8, 7, 6, 3, 25, 23, 24, 22, 21, 34, 15, 27, 1, 2, 33] L ∧ m ≤ 46 := hI
 change Run _ _ _ _ _ [(4, .slice A m ca), (3, _), (0, _)] (HA.row A m ca 102 1 xs :: HA.blk b6 (ycells 4 ⟨#[]⟩ ⟨#[]⟩ none 0 0) 150 :: []) (.ptrs xs (L.flatMap prY) :: .dblk b cs 124 :: .flds mb cs f :: .gr mb G :: .tab :: ft :: [])
 obtain ⟨hW, hm⟩ := hI
 refine zD (zD ?_)
 refine zB (zA ?_)
 refine zF rfl rfl (zA ?_)
 refine zH rfl rfl (zA ?_)
 refine zJ fo124_18 rfl rfl (zA ?_)
 refine zN 1 sc112 rfl rfl rfl hc18 (zA ?_)
 refine yJ pn112 rfl rfl (zC ?_)
 refine zG [380, 4, 3, 0] ?_
 change Run _ _ _ _ _ [(380, _), (4, _), (3, _), (0, _)] _ _
 refine xA [3, 0] (fun (⟨m, A, ca, xs, L⟩ : T5) => WI v f [18, 17, 16, 14, 13, 12, 11, 10, 9, 8, 7, 6, 3, 25, 23, 24, 22, 21, 34, 15, 27, 1, 2, 33] L ∧ m ≤ 48) eE (eM b6) (eD b cs mb f G ft) ?_ ?_
 ·intro Kj24 hKj24
  refine yM rfl (fun h380 => ?_) (fun h380 => ?_)
  ·refine xW 2 18 rfl (by decide) (by decide) hc18 hp18 h380 hU (fun fv x a hpa hfv hgx hkw hr => ?_)
   subst hpa
   have hF := HF _ _ hgx (by rw [hkw]; decide)
   rw [hkw] at hF
   change Fld ft mb G 2 x at hF
   change FvRel _ 2 x fv at hr
   obtain rfl := bool_of hr
   refine run_bool 0 rfl (fun p hp => ?_)
   cases hp
   refine zB (zA ?_)
   refine zF rfl rfl (zA ?_)
   refine zF rfl rfl (zA ?_)
   refine zH rfl rfl (zA ?_)
   refine zJ fo124_18 rfl rfl (zA ?_)
   refine zN 3 sc112 rfl rfl rfl hc18 (zA ?_)
   refine zH rfl rfl (zA ?_)
   refine yW 0 sc4 rfl rfl rfl (zA ?_)
   refine zW rfl rfl rfl (c153 _) sub0 (fun u388 D388 hv388 => ?_)
   obtain ⟨b388, rfl, rfl⟩ := hv388
   refine zA ?_
   refine yU 0 rfl rfl rfl (c150 _ _ _ _ _ _ (by decide) (by omega)) rfl sub0 (fun u389 M389 D389 hv389 => ?_)
   obtain ⟨A389, c389, b389, rfl, rfl, rfl⟩ := hv389
   refine zA (zE rfl rfl ?_)
   refine zC (zG [4, 3, 0] ?_)
   change Run _ _ _ _ _ [(4, _), (3, _), (0, _)] _ _
   refine yX (L := L) 4 0 1 rfl rfl rfl ?_
   exact kQ (hKj24 (_, _, _, _, L ++ [(keyOf 18, _)]) ⟨hW.add rfl hkw (by decide) (by decide) hgx (.inr (.inl ⟨rfl, rfl⟩)), by show _ + 2 ≤ _; omega⟩) (eC rfl (eC rfl (eC rfl (eN _)))) (hD := (subc 0 rfl sQ))
  refine zL ?_
  exact kQ (hKj24 (_, _, _, _, L) ⟨hW.skip (wA hp18 h380), by show _ ≤ _; omega⟩) (eC rfl (eC rfl (eC rfl (eN _))))
 intro ⟨m, A, ca, xs, L⟩ hI
 replace hI : WI v f [18, 17, 16, 14, 13, 12, 11, 10, 9, 8, 7, 6, 3, 25, 23, 24, 22, 21, 34, 15, 27, 1, 2, 33] L ∧ m ≤ 48 := hI
 change Run _ _ _ _ _ [(4, .slice A m ca), (3, _), (0, _)] (HA.row A m ca 102 1 xs :: HA.blk b6 (ycells 4 ⟨#[]⟩ ⟨#[]⟩ none 0 0) 150 :: []) (.ptrs xs (L.flatMap prY) :: .dblk b cs 124 :: .flds mb cs f :: .gr mb G :: .tab :: ft :: [])
 obtain ⟨hW, hm⟩ := hI
 refine zD (zD ?_)
 refine zB (zA ?_)
 refine zF rfl rfl (zA ?_)
 refine zH rfl rfl (zA ?_)
 refine zJ fo124_19 rfl rfl (zA ?_)
 refine zN 1 sc114 rfl rfl rfl hc19 (zA ?_)
 refine yJ pn114 rfl rfl (zC ?_)
 refine zG [394, 4, 3, 0] ?_
 change Run _ _ _ _ _ [(394, _), (4, _), (3, _), (0, _)] _ _
 refine xA [3, 0] (fun (⟨m, A, ca, xs, L⟩ : T5) => WI v f [19, 18, 17, 16, 14, 13, 12, 11, 10, 9, 8, 7, 6, 3, 25, 23, 24, 22, 21, 34, 15, 27, 1, 2, 33] L ∧ m ≤ 50) eE (eM b6) (eD b cs mb f G ft) ?_ ?_
 ·intro Kj25 hKj25
  refine yM rfl (fun h394 => ?_) (fun h394 => ?_)
  ·refine xW 2 19 rfl (by decide) (by decide) hc19 hp19 h394 hU (fun fv x a hpa hfv hgx hkw hr => ?_)
   subst hpa
   have hF := HF _ _ hgx (by rw [hkw]; decide)
   rw [hkw] at hF
   change Fld ft mb G 4 x at hF
   change FvRel _ 4 x fv at hr
   obtain rfl := int_of hr
   refine run_int 0 rfl (fun p hp => ?_)
   cases hp
   have hn := Fld.int (.inl (by have := hF.fit; simp [FitLoc] at this; exact this.1)) hF.pl
   refine zB (zA ?_)
   refine zF rfl rfl (zA ?_)
   refine zF rfl rfl (zA ?_)
   refine zH rfl rfl (zA ?_)
   refine zJ fo124_19 rfl rfl (zA ?_)
   refine zN 3 sc114 rfl rfl rfl hc19 (zA ?_)
   refine zH rfl rfl (zA ?_)
   refine yW 0 sc2 rfl rfl rfl (zA ?_)
   refine zW rfl rfl rfl (c161 _ hn.1 hn.2) (sub1 6 rfl) (fun u402 D402 hv402 => ?_)
   obtain ⟨b402, rfl, rfl⟩ := hv402
   refine zA ?_
   refine yU 0 rfl rfl rfl (c150 _ _ _ _ _ _ (by decide) (by omega)) rfl sub0 (fun u403 M403 D403 hv403 => ?_)
   obtain ⟨A403, c403, b403, rfl, rfl, rfl⟩ := hv403
   refine zA (zE rfl rfl ?_)
   refine zC (zG [4, 3, 0] ?_)
   change Run _ _ _ _ _ [(4, _), (3, _), (0, _)] _ _
   refine yX (L := L) 4 0 1 rfl rfl rfl ?_
   exact kQ (hKj25 (_, _, _, _, L ++ [(keyOf 19, _)]) ⟨hW.add rfl hkw (by decide) (by decide) hgx (.inr (.inr (.inr (.inr (.inl ⟨rfl, rfl⟩))))), by show _ + 2 ≤ _; omega⟩) (eC rfl (eC rfl (eC rfl (eN _)))) (hD := (subc 0 rfl sQ))
  refine zL ?_
  exact kQ (hKj25 (_, _, _, _, L) ⟨hW.skip (wA hp19 h394), by show _ ≤ _; omega⟩) (eC rfl (eC rfl (eC rfl (eN _))))
 intro ⟨m, A, ca, xs, L⟩ hI
 replace hI : WI v f [19, 18, 17, 16, 14, 13, 12, 11, 10, 9, 8, 7, 6, 3, 25, 23, 24, 22, 21, 34, 15, 27, 1, 2, 33] L ∧ m ≤ 50 := hI
 change Run _ _ _ _ _ [(4, .slice A m ca), (3, _), (0, _)] (HA.row A m ca 102 1 xs :: HA.blk b6 (ycells 4 ⟨#[]⟩ ⟨#[]⟩ none 0 0) 150 :: []) (.ptrs xs (L.flatMap prY) :: .dblk b cs 124 :: .flds mb cs f :: .gr mb G :: .tab :: ft :: [])
 obtain ⟨hW, hm⟩ := hI
 refine zD (zD ?_)
 refine zB (zA ?_)
 refine zF rfl rfl (zA ?_)
 refine zH rfl rfl (zA ?_)
 refine zJ fo124_20 rfl rfl (zA ?_)
 refine zN 1 sc114 rfl rfl rfl hc20 (zA ?_)
 refine yJ pn114 rfl rfl (zC ?_)
 refine zG [408, 4, 3, 0] ?_
 change Run _ _ _ _ _ [(408, _), (4, _), (3, _), (0, _)] _ _
 refine xA [3, 0] (fun (⟨m, A, ca, xs, L⟩ : T5) => WI v f [20, 19, 18, 17, 16, 14, 13, 12, 11, 10, 9, 8, 7, 6, 3, 25, 23, 24, 22, 21, 34, 15, 27, 1, 2, 33] L ∧ m ≤ 52) eE (eM b6) (eD b cs mb f G ft) ?_ ?_
 ·intro Kj26 hKj26
  refine yM rfl (fun h408 => ?_) (fun h408 => ?_)
  ·refine xW 2 20 rfl (by decide) (by decide) hc20 hp20 h408 hU (fun fv x a hpa hfv hgx hkw hr => ?_)
   subst hpa
   have hF := HF _ _ hgx (by rw [hkw]; decide)
   rw [hkw] at hF
   change Fld ft mb G 4 x at hF
   change FvRel _ 4 x fv at hr
   obtain rfl := int_of hr
   refine run_int 0 rfl (fun p hp => ?_)
   cases hp
   have hn := Fld.int (.inl (by have := hF.fit; simp [FitLoc] at this; exact this.1)) hF.pl
   refine zB (zA ?_)
   refine zF rfl rfl (zA ?_)
   refine zF rfl rfl (zA ?_)
   refine zH rfl rfl (zA ?_)
   refine zJ fo124_20 rfl rfl (zA ?_)
   refine zN 3 sc114 rfl rfl rfl hc20 (zA ?_)
   refine zH rfl rfl (zA ?_)
   refine yW 0 sc2 rfl rfl rfl (zA ?_)
   refine zW rfl rfl rfl (c161 _ hn.1 hn.2) (sub1 6 rfl) (fun u416 D416 hv416 => ?_)
   obtain ⟨b416, rfl, rfl⟩ := hv416
   refine zA ?_
   refine yU 0 rfl rfl rfl (c150 _ _ _ _ _ _ (by decide) (by omega)) rfl sub0 (fun u417 M417 D417 hv417 => ?_)
   obtain ⟨A417, c417, b417, rfl, rfl, rfl⟩ := hv417
   refine zA (zE rfl rfl ?_)
   refine zC (zG [4, 3, 0] ?_)
   change Run _ _ _ _ _ [(4, _), (3, _), (0, _)] _ _
   refine yX (L := L) 4 0 1 rfl rfl rfl ?_
   exact kQ (hKj26 (_, _, _, _, L ++ [(keyOf 20, _)]) ⟨hW.add rfl hkw (by decide) (by decide) hgx (.inr (.inr (.inr (.inr (.inl ⟨rfl, rfl⟩))))), by show _ + 2 ≤ _; omega⟩) (eC rfl (eC rfl (eC rfl (eN _)))) (hD := (subc 0 rfl sQ))
  refine zL ?_
  exact kQ (hKj26 (_, _, _, _, L) ⟨hW.skip (wA hp20 h408), by show _ ≤ _; omega⟩) (eC rfl (eC rfl (eC rfl (eN _))))
 intro ⟨m, A, ca, xs, L⟩ hI
 replace hI : WI v f [20, 19, 18, 17, 16, 14, 13, 12, 11, 10, 9, 8, 7, 6, 3, 25, 23, 24, 22, 21, 34, 15, 27, 1, 2, 33] L ∧ m ≤ 52 := hI
 change Run _ _ _ _ _ [(4, .slice A m ca), (3, _), (0, _)] (HA.row A m ca 102 1 xs :: HA.blk b6 (ycells 4 ⟨#[]⟩ ⟨#[]⟩ none 0 0) 150 :: []) (.ptrs xs (L.flatMap prY) :: .dblk b cs 124 :: .flds mb cs f :: .gr mb G :: .tab :: ft :: [])
 obtain ⟨hW, hm⟩ := hI
 refine zD (zD ?_)
 refine zB (zA ?_)
 refine zF rfl rfl (zA ?_)
 refine zH rfl rfl (zA ?_)
 refine zJ fo124_26 rfl rfl (zA ?_)
 refine zN 1 sc120 rfl rfl rfl hc26 (zA ?_)
 refine yJ pn120 rfl rfl (zC ?_)
 refine zG [422, 4, 3, 0] ?_
 change Run _ _ _ _ _ [(422, _), (4, _), (3, _), (0, _)] _ _
 refine xA [3, 0] (fun (⟨m, A, ca, xs, L⟩ : T5) => WI v f [26, 20, 19, 18, 17, 16, 14, 13, 12, 11, 10, 9, 8, 7, 6, 3, 25, 23, 24, 22, 21, 34, 15, 27, 1, 2, 33] L ∧ m ≤ 54) eE (eM b6) (eD b cs mb f G ft) ?_ ?_
 ·intro Kj27 hKj27
  refine yM rfl (fun h422 => ?_) (fun h422 => ?_)
  ·refine xW 2 26 rfl (by decide) (by decide) hc26 hp26 h422 hU (fun fv x a hpa hfv hgx hkw hr => ?_)
   subst hpa
   have hF := HF _ _ hgx (by rw [hkw]; decide)
   rw [hkw] at hF
   change Fld ft mb G 11 x at hF
   change FvRel _ 11 x fv at hr
   refine zB (zA ?_)
   refine zF rfl rfl (zA ?_)
   refine zF rfl rfl (zA ?_)
   refine zH rfl rfl (zA ?_)
   refine zJ fo124_26 rfl rfl (zA ?_)
   refine zN 2 sc120 rfl rfl rfl hc26 (zA ?_)
   refine zW rfl rfl rfl (w11 hF hr) (subc 0 rfl (subc 4 rfl (sub2 5 6 rfl rfl))) (fun u428 D428 hv428 => ?_)
   obtain ⟨z, hz, b428, rfl, rfl⟩ := hv428
   refine zA ?_
   refine yU 0 rfl rfl rfl (c150 _ _ _ _ _ _ (by decide) (by omega)) rfl sub0 (fun u429 M429 D429 hv429 => ?_)
   obtain ⟨A429, c429, b429, rfl, rfl, rfl⟩ := hv429
   refine zA (zE rfl rfl ?_)
   refine zC (yX (L := L) 3 0 1 rfl rfl rfl ?_)
   exact kQ (hKj27 (_, _, _, _, L ++ [(keyOf 26, _)]) ⟨hW.add rfl hkw (by decide) (by decide) hgx hz, by show _ + 2 ≤ _; omega⟩) (eC rfl (eC rfl (eC rfl (eN _)))) (hD := (subc 0 rfl sQ))
  refine zL ?_
  exact kQ (hKj27 (_, _, _, _, L) ⟨hW.skip (wA hp26 h422), by show _ ≤ _; omega⟩) (eC rfl (eC rfl (eC rfl (eN _))))
 intro ⟨m, A, ca, xs, L⟩ hI
 replace hI : WI v f [26, 20, 19, 18, 17, 16, 14, 13, 12, 11, 10, 9, 8, 7, 6, 3, 25, 23, 24, 22, 21, 34, 15, 27, 1, 2, 33] L ∧ m ≤ 54 := hI
 change Run _ _ _ _ _ [(4, .slice A m ca), (3, _), (0, _)] (HA.row A m ca 102 1 xs :: HA.blk b6 (ycells 4 ⟨#[]⟩ ⟨#[]⟩ none 0 0) 150 :: []) (.ptrs xs (L.flatMap prY) :: .dblk b cs 124 :: .flds mb cs f :: .gr mb G :: .tab :: ft :: [])
 obtain ⟨hW, hm⟩ := hI
 refine zD (zD ?_)
 refine zB (zA ?_)
 refine zF rfl rfl (zA ?_)
 refine zH rfl rfl (zA ?_)
 refine zJ fo124_28 rfl rfl (zA ?_)
 refine zN 1 sc122 rfl rfl rfl hc28 (zA ?_)
 refine yJ pn122 rfl rfl (zC ?_)
 refine zG [434, 4, 3, 0] ?_
 change Run _ _ _ _ _ [(434, _), (4, _), (3, _), (0, _)] _ _
 refine xA [3, 0] (fun (⟨m, A, ca, xs, L⟩ : T5) => WI v f [28, 26, 20, 19, 18, 17, 16, 14, 13, 12, 11, 10, 9, 8, 7, 6, 3, 25, 23, 24, 22, 21, 34, 15, 27, 1, 2, 33] L ∧ m ≤ 56) eE (eM b6) (eD b cs mb f G ft) ?_ ?_
 ·intro Kj28 hKj28
  refine yM rfl (fun h434 => ?_) (fun h434 => ?_)
  ·refine xW 2 28 rfl (by decide) (by decide) hc28 hp28 h434 hU (fun fv x a hpa hfv hgx hkw hr => ?_)
   subst hpa
   have hF := HF _ _ hgx (by rw [hkw]; decide)
   rw [hkw] at hF
   change Fld ft mb G 13 x at hF
   change FvRel _ 13 x fv at hr
   obtain ⟨bs, rfl, hbs⟩ := list_of hr
   refine run_list 0 rfl (fun p sl hp => ?_)
   cases hp
   refine zB (zA ?_)
   refine zF rfl rfl (zA ?_)
   refine zF rfl rfl (zA ?_)
   refine zH rfl rfl (zA ?_)
   refine zJ fo124_28 rfl rfl (zA ?_)
   refine zN 4 sc122 rfl rfl rfl hc28 (zA ?_)
   refine zH rfl rfl (zA ?_)
   refine yW 0 sc137 rfl rfl rfl (zA ?_)
   refine zW rfl rfl rfl (w13 hF hbs) (subc 1 rfl (subc 6 rfl (sub2 7 8 rfl rfl))) (fun u442 D442 hv442 => ?_)
   obtain ⟨z, hz, b442, rfl, rfl⟩ := hv442
   refine zA ?_
   refine yU 0 rfl rfl rfl (c150 _ _ _ _ _ _ (by decide) (by omega)) rfl sub0 (fun u443 M443 D443 hv443 => ?_)
   obtain ⟨A443, c443, b443, rfl, rfl, rfl⟩ := hv443
   refine zA (zE rfl rfl ?_)
   refine zC (zG [4, 3, 0] ?_)
   change Run _ _ _ _ _ [(4, _), (3, _), (0, _)] _ _
   refine yX (L := L) 5 0 1 rfl rfl rfl ?_
   exact kQ (hKj28 (_, _, _, _, L ++ [(keyOf 28, _)]) ⟨hW.add rfl hkw (by decide) (by decide) hgx hz, by show _ + 2 ≤ _; omega⟩) (eC rfl (eC rfl (eC rfl (eN _)))) (hD := (subc 0 rfl sQ))
  refine zL ?_
  exact kQ (hKj28 (_, _, _, _, L) ⟨hW.skip (wA hp28 h434), by show _ ≤ _; omega⟩) (eC rfl (eC rfl (eC rfl (eN _))))
 intro ⟨m, A, ca, xs, L⟩ hI
 replace hI : WI v f [28, 26, 20, 19, 18, 17, 16, 14, 13, 12, 11, 10, 9, 8, 7, 6, 3, 25, 23, 24, 22, 21, 34, 15, 27, 1, 2, 33] L ∧ m ≤ 56 := hI
 change Run _ _ _ _ _ [(4, .slice A m ca), (3, _), (0, _)] (HA.row A m ca 102 1 xs :: HA.blk b6 (ycells 4 ⟨#[]⟩ ⟨#[]⟩ none 0 0) 150 :: []) (.ptrs xs (L.flatMap prY) :: .dblk b cs 124 :: .flds mb cs f :: .gr mb G :: .tab :: ft :: [])
 obtain ⟨hW, hm⟩ := hI
 refine zD (zD ?_)
 refine zB (zA ?_)
 refine zF rfl rfl (zA ?_)
 refine zH rfl rfl (zA ?_)
 refine zJ fo124_29 rfl rfl (zA ?_)
 refine zN 1 sc122 rfl rfl rfl hc29 (zA ?_)
 refine yJ pn122 rfl rfl (zC ?_)
 refine zG [448, 4, 3, 0] ?_
 change Run _ _ _ _ _ [(448, _), (4, _), (3, _), (0, _)] _ _
 refine xA [3, 0] (fun (⟨m, A, ca, xs, L⟩ : T5) => WI v f [29, 28, 26, 20, 19, 18, 17, 16, 14, 13, 12, 11, 10, 9, 8, 7, 6, 3, 25, 23, 24, 22, 21, 34, 15, 27, 1, 2, 33] L ∧ m ≤ 58) eE (eM b6) (eD b cs mb f G ft) ?_ ?_
 ·intro Kj29 hKj29
  refine yM rfl (fun h448 => ?_) (fun h448 => ?_)
  ·refine xW 2 29 rfl (by decide) (by decide) hc29 hp29 h448 hU (fun fv x a hpa hfv hgx hkw hr => ?_)
   subst hpa
   have hF := HF _ _ hgx (by rw [hkw]; decide)
   rw [hkw] at hF
   change Fld ft mb G 13 x at hF
   change FvRel _ 13 x fv at hr
   obtain ⟨bs, rfl, hbs⟩ := list_of hr
   refine run_list 0 rfl (fun p sl hp => ?_)
   cases hp
   refine zB (zA ?_)
   refine zF rfl rfl (zA ?_)
   refine zF rfl rfl (zA ?_)
   refine zH rfl rfl (zA ?_)
   refine zJ fo124_29 rfl rfl (zA ?_)
   refine zN 4 sc122 rfl rfl rfl hc29 (zA ?_)
   refine zH rfl rfl (zA ?_)
   refine yW 0 sc137 rfl rfl rfl (zA ?_)
   refine zW rfl rfl rfl (w13 hF hbs) (subc 1 rfl (subc 6 rfl (sub2 7 8 rfl rfl))) (fun u456 D456 hv456 => ?_)
   obtain ⟨z, hz, b456, rfl, rfl⟩ := hv456
   refine zA ?_
   refine yU 0 rfl rfl rfl (c150 _ _ _ _ _ _ (by decide) (by omega)) rfl sub0 (fun u457 M457 D457 hv457 => ?_)
   obtain ⟨A457, c457, b457, rfl, rfl, rfl⟩ := hv457
   refine zA (zE rfl rfl ?_)
   refine zC (zG [4, 3, 0] ?_)
   change Run _ _ _ _ _ [(4, _), (3, _), (0, _)] _ _
   refine yX (L := L) 5 0 1 rfl rfl rfl ?_
   exact kQ (hKj29 (_, _, _, _, L ++ [(keyOf 29, _)]) ⟨hW.add rfl hkw (by decide) (by decide) hgx hz, by show _ + 2 ≤ _; omega⟩) (eC rfl (eC rfl (eC rfl (eN _)))) (hD := (subc 0 rfl sQ))
  refine zL ?_
  exact kQ (hKj29 (_, _, _, _, L) ⟨hW.skip (wA hp29 h448), by show _ ≤ _; omega⟩) (eC rfl (eC rfl (eC rfl (eN _))))
 intro ⟨m, A, ca, xs, L⟩ hI
 replace hI : WI v f [29, 28, 26, 20, 19, 18, 17, 16, 14, 13, 12, 11, 10, 9, 8, 7, 6, 3, 25, 23, 24, 22, 21, 34, 15, 27, 1, 2, 33] L ∧ m ≤ 58 := hI
 change Run _ _ _ _ _ [(4, .slice A m ca), (3, _), (0, _)] (HA.row A m ca 102 1 xs :: HA.blk b6 (ycells 4 ⟨#[]⟩ ⟨#[]⟩ none 0 0) 150 :: []) (.ptrs xs (L.flatMap prY) :: .dblk b cs 124 :: .flds mb cs f :: .gr mb G :: .tab :: ft :: [])
 obtain ⟨hW, hm⟩ := hI
 refine zD (zD ?_)
 refine zB (zA ?_)
 refine zF rfl rfl (zA ?_)
 refine zH rfl rfl (zA ?_)
 refine zJ fo124_30 rfl rfl (zA ?_)
 refine zN 1 sc122 rfl rfl rfl hc30 (zA ?_)
 refine yJ pn122 rfl rfl (zC ?_)
 refine zG [462, 4, 3, 0] ?_
 change Run _ _ _ _ _ [(462, _), (4, _), (3, _), (0, _)] _ _
 refine xA [3, 0] (fun (⟨m, A, ca, xs, L⟩ : T5) => WI v f [30, 29, 28, 26, 20, 19, 18, 17, 16, 14, 13, 12, 11, 10, 9, 8, 7, 6, 3, 25, 23, 24, 22, 21, 34, 15, 27, 1, 2, 33] L ∧ m ≤ 60) eE (eM b6) (eD b cs mb f G ft) ?_ ?_
 ·intro Kj30 hKj30
  refine yM rfl (fun h462 => ?_) (fun h462 => ?_)
  ·refine xW 2 30 rfl (by decide) (by decide) hc30 hp30 h462 hU (fun fv x a hpa hfv hgx hkw hr => ?_)
   subst hpa
   have hF := HF _ _ hgx (by rw [hkw]; decide)
   rw [hkw] at hF
   change Fld ft mb G 13 x at hF
   change FvRel _ 13 x fv at hr
   obtain ⟨bs, rfl, hbs⟩ := list_of hr
   refine run_list 0 rfl (fun p sl hp => ?_)
   cases hp
   refine zB (zA ?_)
   refine zF rfl rfl (zA ?_)
   refine zF rfl rfl (zA ?_)
   refine zH rfl rfl (zA ?_)
   refine zJ fo124_30 rfl rfl (zA ?_)
   refine zN 4 sc122 rfl rfl rfl hc30 (zA ?_)
   refine zH rfl rfl (zA ?_)
   refine yW 0 sc137 rfl rfl rfl (zA ?_)
   refine zW rfl rfl rfl (w13 hF hbs) (subc 1 rfl (subc 6 rfl (sub2 7 8 rfl rfl))) (fun u470 D470 hv470 => ?_)
   obtain ⟨z, hz, b470, rfl, rfl⟩ := hv470
   refine zA ?_
   refine yU 0 rfl rfl rfl (c150 _ _ _ _ _ _ (by decide) (by omega)) rfl sub0 (fun u471 M471 D471 hv471 => ?_)
   obtain ⟨A471, c471, b471, rfl, rfl, rfl⟩ := hv471
   refine zA (zE rfl rfl ?_)
   refine zC (zG [4, 3, 0] ?_)
   change Run _ _ _ _ _ [(4, _), (3, _), (0, _)] _ _
   refine yX (L := L) 5 0 1 rfl rfl rfl ?_
   exact kQ (hKj30 (_, _, _, _, L ++ [(keyOf 30, _)]) ⟨hW.add rfl hkw (by decide) (by decide) hgx hz, by show _ + 2 ≤ _; omega⟩) (eC rfl (eC rfl (eC rfl (eN _)))) (hD := (subc 0 rfl sQ))
  refine zL ?_
  exact kQ (hKj30 (_, _, _, _, L) ⟨hW.skip (wA hp30 h462), by show _ ≤ _; omega⟩) (eC rfl (eC rfl (eC rfl (eN _))))
 intro ⟨m, A, ca, xs, L⟩ hI
 replace hI : WI v f [30, 29, 28, 26, 20, 19, 18, 17, 16, 14, 13, 12, 11, 10, 9, 8, 7, 6, 3, 25, 23, 24, 22, 21, 34, 15, 27, 1, 2, 33] L ∧ m ≤ 60 := hI
 change Run _ _ _ _ _ [(4, .slice A m ca), (3, _), (0, _)] (HA.row A m ca 102 1 xs :: HA.blk b6 (ycells 4 ⟨#[]⟩ ⟨#[]⟩ none 0 0) 150 :: []) (.ptrs xs (L.flatMap prY) :: .dblk b cs 124 :: .flds mb cs f :: .gr mb G :: .tab :: ft :: [])
 obtain ⟨hW, hm⟩ := hI
 refine zD (zD ?_)
 refine zB (zA ?_)
 refine zF rfl rfl (zA ?_)
 refine zH rfl rfl (zA ?_)
 refine zJ fo124_31 rfl rfl (zA ?_)
 refine zN 1 sc63 rfl rfl rfl hc31 (zA ?_)
 refine yJ pn63 rfl rfl (zC ?_)
 refine zG [476, 4, 3, 0] ?_
 change Run _ _ _ _ _ [(476, _), (4, _), (3, _), (0, _)] _ _
 refine xA [3, 0] (fun (⟨m, A, ca, xs, L⟩ : T5) => WI v f [31, 30, 29, 28, 26, 20, 19, 18, 17, 16, 14, 13, 12, 11, 10, 9, 8, 7, 6, 3, 25, 23, 24, 22, 21, 34, 15, 27, 1, 2, 33] L ∧ m ≤ 62) eE (eM b6) (eD b cs mb f G ft) ?_ ?_
 ·intro Kj31 hKj31
  refine yM rfl (fun h476 => ?_) (fun h476 => ?_)
  ·refine xW 2 31 rfl (by decide) (by decide) hc31 hp31 h476 hU (fun fv x a hpa hfv hgx hkw hr => ?_)
   subst hpa
   have hF := HF _ _ hgx (by rw [hkw]; decide)
   rw [hkw] at hF
   change Fld ft mb G 5 x at hF
   change FvRel _ 5 x fv at hr
   obtain ⟨q1, rfl, hbs⟩ := one_of hr
   refine rR (p := (.pointer (some a) : Value) = ptr q1) (fun w ok h => (dget h 0 rfl : FvP w ok (.one q1) _)) (fun hq1 => ?_)
   cases hq1
   refine zB (zA ?_)
   refine zF rfl rfl (zA ?_)
   refine zF rfl rfl (zA ?_)
   refine zH rfl rfl (zA ?_)
   refine zJ fo124_31 rfl rfl (zA ?_)
   refine zN 2 sc63 rfl rfl rfl hc31 (zA ?_)
   refine zW rfl rfl rfl (w5 hF hbs) (subc 4 rfl (sub2 5 6 rfl rfl)) (fun u482 D482 hv482 => ?_)
   obtain ⟨z, hz, b482, rfl, rfl⟩ := hv482
   refine zA ?_
   refine yU 0 rfl rfl rfl (c150 _ _ _ _ _ _ (by decide) (by omega)) rfl sub0 (fun u483 M483 D483 hv483 => ?_)
   obtain ⟨A483, c483, b483, rfl, rfl, rfl⟩ := hv483
   refine zA (zE rfl rfl ?_)
   refine zC (yX (L := L) 3 0 1 rfl rfl rfl ?_)
   exact kQ (hKj31 (_, _, _, _, L ++ [(keyOf 31, _)]) ⟨hW.add rfl hkw (by decide) (by decide) hgx hz, by show _ + 2 ≤ _; omega⟩) (eC rfl (eC rfl (eC rfl (eN _)))) (hD := (subc 0 rfl sQ))
  refine zL ?_
  exact kQ (hKj31 (_, _, _, _, L) ⟨hW.skip (wA hp31 h476), by show _ ≤ _; omega⟩) (eC rfl (eC rfl (eC rfl (eN _))))
 intro ⟨m, A, ca, xs, L⟩ hI
 replace hI : WI v f [31, 30, 29, 28, 26, 20, 19, 18, 17, 16, 14, 13, 12, 11, 10, 9, 8, 7, 6, 3, 25, 23, 24, 22, 21, 34, 15, 27, 1, 2, 33] L ∧ m ≤ 62 := hI
 change Run _ _ _ _ _ [(4, .slice A m ca), (3, _), (0, _)] (HA.row A m ca 102 1 xs :: HA.blk b6 (ycells 4 ⟨#[]⟩ ⟨#[]⟩ none 0 0) 150 :: []) (.ptrs xs (L.flatMap prY) :: .dblk b cs 124 :: .flds mb cs f :: .gr mb G :: .tab :: ft :: [])
 obtain ⟨hW, hm⟩ := hI
 refine zD (zD ?_)
 refine zB (zA ?_)
 refine zF rfl rfl (zA ?_)
 refine zH rfl rfl (zA ?_)
 refine zJ pA rfl rfl (zA ?_)
 refine zN 1 sc118 rfl rfl rfl hc32 (zA ?_)
 refine yJ pn118 rfl rfl (zC ?_)
 refine zG [488, 4, 3, 0] ?_
 change Run _ _ _ _ _ [(488, _), (4, _), (3, _), (0, _)] _ _
 refine xA [3, 0] (fun (⟨m, A, ca, xs, L⟩ : T5) => WI v f [32, 31, 30, 29, 28, 26, 20, 19, 18, 17, 16, 14, 13, 12, 11, 10, 9, 8, 7, 6, 3, 25, 23, 24, 22, 21, 34, 15, 27, 1, 2, 33] L ∧ m ≤ 64) eE (eM b6) (eD b cs mb f G ft) ?_ ?_
 ·intro Kj32 hKj32
  refine yM rfl (fun h488 => ?_) (fun h488 => ?_)
  ·refine xW 2 32 rfl (by decide) (by decide) hc32 hp32 h488 hU (fun fv x a hpa hfv hgx hkw hr => ?_)
   subst hpa
   have hF := HF _ _ hgx (by rw [hkw]; decide)
   rw [hkw] at hF
   change Fld ft mb G 9 x at hF
   change FvRel _ 9 x fv at hr
   refine zB (zA ?_)
   refine zF rfl rfl (zA ?_)
   refine zF rfl rfl (zA ?_)
   refine zH rfl rfl (zA ?_)
   refine zJ pA rfl rfl (zA ?_)
   refine zN 2 sc118 rfl rfl rfl hc32 (zA ?_)
   refine zW rfl rfl rfl (w9 hF hr) (subc 0 rfl (subc 4 rfl (sub2 5 6 rfl rfl))) (fun u494 D494 hv494 => ?_)
   obtain ⟨z, hz, b494, rfl, rfl⟩ := hv494
   refine zA ?_
   refine yU 0 rfl rfl rfl (c150 _ _ _ _ _ _ (by decide) (by omega)) rfl sub0 (fun u495 M495 D495 hv495 => ?_)
   obtain ⟨A495, c495, b495, rfl, rfl, rfl⟩ := hv495
   refine zA (zE rfl rfl ?_)
   refine zC (yX (L := L) 3 0 1 rfl rfl rfl ?_)
   exact kQ (hKj32 (_, _, _, _, L ++ [(keyOf 32, _)]) ⟨hW.add rfl hkw (by decide) (by decide) hgx hz, by show _ + 2 ≤ _; omega⟩) (eC rfl (eC rfl (eC rfl (eN _)))) (hD := (subc 0 rfl sQ))
  refine zL ?_
  exact kQ (hKj32 (_, _, _, _, L) ⟨hW.skip (wA hp32 h488), by show _ ≤ _; omega⟩) (eC rfl (eC rfl (eC rfl (eN _))))
 intro ⟨m, A, ca, xs, L⟩ hI
 replace hI : WI v f [32, 31, 30, 29, 28, 26, 20, 19, 18, 17, 16, 14, 13, 12, 11, 10, 9, 8, 7, 6, 3, 25, 23, 24, 22, 21, 34, 15, 27, 1, 2, 33] L ∧ m ≤ 64 := hI
 change Run _ _ _ _ _ [(4, .slice A m ca), (3, _), (0, _)] (HA.row A m ca 102 1 xs :: HA.blk b6 (ycells 4 ⟨#[]⟩ ⟨#[]⟩ none 0 0) 150 :: []) (.ptrs xs (L.flatMap prY) :: .dblk b cs 124 :: .flds mb cs f :: .gr mb G :: .tab :: ft :: [])
 obtain ⟨hW, hm⟩ := hI
 refine zD (zD ?_)
 refine zB (zA ?_)
 refine zF rfl rfl (zA ?_)
 refine zH rfl rfl (zA ?_)
 refine zJ fo124_35 rfl rfl (zA ?_)
 refine zN 1 sc102 rfl rfl rfl hc35 (zA ?_)
 refine yJ pn102 rfl rfl (zC ?_)
 refine zG [500, 4, 3, 0] ?_
 change Run _ _ _ _ _ [(500, _), (4, _), (3, _), (0, _)] _ _
 refine xA [3, 0] (fun (⟨m, A, ca, xs, L⟩ : T5) => WI v f [32, 31, 30, 29, 28, 26, 20, 19, 18, 17, 16, 14, 13, 12, 11, 10, 9, 8, 7, 6, 3, 25, 23, 24, 22, 21, 34, 15, 27, 1, 2, 33] L ∧ m ≤ 64) eE (eM b6) (eD b cs mb f G ft) ?_ ?_
 ·intro Kj33 hKj33
  refine yM rfl (fun h500 => ?_) (fun h500 => ?_)
  ·refine zL ?_
   exact kQ (hKj33 (_, _, _, _, L) ⟨hW, hm⟩) (eC rfl (eC rfl (eC rfl (eN _))))
  refine zL ?_
  exact kQ (hKj33 (_, _, _, _, L) ⟨hW, hm⟩) (eC rfl (eC rfl (eC rfl (eN _))))
 intro ⟨m, A, ca, xs, L⟩ hI
 replace hI : WI v f [32, 31, 30, 29, 28, 26, 20, 19, 18, 17, 16, 14, 13, 12, 11, 10, 9, 8, 7, 6, 3, 25, 23, 24, 22, 21, 34, 15, 27, 1, 2, 33] L ∧ m ≤ 64 := hI
 change Run _ _ _ _ _ [(4, .slice A m ca), (3, _), (0, _)] (HA.row A m ca 102 1 xs :: HA.blk b6 (ycells 4 ⟨#[]⟩ ⟨#[]⟩ none 0 0) 150 :: []) (.ptrs xs (L.flatMap prY) :: .dblk b cs 124 :: .flds mb cs f :: .gr mb G :: .tab :: ft :: [])
 obtain ⟨hW, hm⟩ := hI
 refine zD (zD ?_)
 refine zB (zA ?_)
 refine zF rfl rfl (zA ?_)
 refine zH rfl rfl (zA ?_)
 refine zJ fo124_36 rfl rfl (zA ?_)
 refine zN 1 sc111 rfl rfl rfl hc36 (zA ?_)
 refine yJ pn111 rfl rfl (zC ?_)
 refine zG [505, 4, 3, 0] ?_
 change Run _ _ _ _ _ [(505, _), (4, _), (3, _), (0, _)] _ _
 refine xA [3] (fun (⟨m, A, ca, xs, L⟩ : T5) => WI v f [36, 32, 31, 30, 29, 28, 26, 20, 19, 18, 17, 16, 14, 13, 12, 11, 10, 9, 8, 7, 6, 3, 25, 23, 24, 22, 21, 34, 15, 27, 1, 2, 33] L ∧ m ≤ 66) eE (eM b6) (eD b cs mb f G ft) ?_ ?_
 ·intro Kj34 hKj34
  refine yM rfl (fun h505 => ?_) (fun h505 => ?_)
  ·refine xW 2 36 rfl (by decide) (by decide) hc36 hp36 h505 hU (fun fv x a hpa hfv hgx hkw hr => ?_)
   subst hpa
   have hF := HF _ _ hgx (by rw [hkw]; decide)
   rw [hkw] at hF
   change Fld ft mb G 1 x at hF
   change FvRel _ 1 x fv at hr
   obtain rfl := sN hr
   refine sI 0 rfl (fun p hp hs => ?_)
   cases hp
   refine zB (zA ?_)
   refine zF rfl rfl (zA ?_)
   refine zF rfl rfl (zA ?_)
   refine zH rfl rfl (zA ?_)
   refine zJ fo124_36 rfl rfl (zA ?_)
   refine zN 3 sc111 rfl rfl rfl hc36 (zA ?_)
   refine zH rfl rfl (zA ?_)
   refine yW 0 sc9 rfl rfl rfl (zA ?_)
   refine zW rfl rfl rfl (c151 _ hs) sub0 (fun u513 D513 hv513 => ?_)
   obtain ⟨b513, rfl, rfl⟩ := hv513
   refine zA ?_
   refine yU 0 rfl rfl rfl (c150 _ _ _ _ _ _ (by decide) (by omega)) rfl sub0 (fun u514 M514 D514 hv514 => ?_)
   obtain ⟨A514, c514, b514, rfl, rfl, rfl⟩ := hv514
   refine zA (zE rfl rfl ?_)
   refine zC (zG [4, 3] ?_)
   change Run _ _ _ _ _ [(4, _), (3, _)] _ _
   refine yX (L := L) 4 0 1 rfl rfl rfl ?_
   exact kQ (hKj34 (_, _, _, _, L ++ [(keyOf 36, _)]) ⟨hW.add rfl hkw (by decide) (by decide) hgx (.inl ⟨rfl, rfl⟩), by show _ + 2 ≤ _; omega⟩) (eC rfl (eC rfl (eN _))) (hD := (subc 0 rfl sQ))
  refine zL ?_
  exact kQ (hKj34 (_, _, _, _, L) ⟨hW.skip (wA hp36 h505), by show _ ≤ _; omega⟩) (eC rfl (eC rfl (eN _)))
 intro ⟨m, A, ca, xs, L⟩ hI
 replace hI : WI v f [36, 32, 31, 30, 29, 28, 26, 20, 19, 18, 17, 16, 14, 13, 12, 11, 10, 9, 8, 7, 6, 3, 25, 23, 24, 22, 21, 34, 15, 27, 1, 2, 33] L ∧ m ≤ 66 := hI
 change Run _ _ _ _ _ [(4, .slice A m ca), (3, _)] (HA.row A m ca 102 1 xs :: HA.blk b6 (ycells 4 ⟨#[]⟩ ⟨#[]⟩ none 0 0) 150 :: []) (.ptrs xs (L.flatMap prY) :: .dblk b cs 124 :: .flds mb cs f :: .gr mb G :: .tab :: ft :: [])
 obtain ⟨hW, hm⟩ := hI
 refine zD (zB ?_)
 refine zA (zF rfl rfl ?_)
 refine zA (zF rfl rfl ?_)
 refine zA (zH rfl rfl ?_)
 refine zA (zJ wQ rfl rfl ?_)
 refine zA (zS 1 (M' := [_, HA.blk _ [_, _, _, _, _, _, _, _, _, _, _, _] _]) rfl rfl rfl rfl si148 rfl rfl rfl ?_)
 refine zC (zD ?_)
 refine zB (zA ?_)
 refine zF rfl rfl (zA ?_)
 refine zE rfl rfl (zC ?_)
 refine uS 0 0 _ rfl rfl (by intro b h; cases h) (vV 0 0 rfl rfl (by intro b h; cases h) (by decide) (by decide) ?_)
 exact zK Tryz.results105 rfl ⟨rfl, _, hW.out hU, b6, rfl, rfl⟩ nS (sub1 0 rfl)
end Go.Jw

namespace Go.Jw
open Go Go.RowKit Go.Proofs
theorem qB {v x : V} {key : ByteArray} (h : getV v key = some x) : ∃ j : Nat, v.keys[j]? = some key ∧ v.items[j]? = some x := by
  unfold getV at h
  rcases rU v.keys key with hn | ⟨j, hj, hlt⟩
  · rw [if_pos hn] at h; cases h
  · rw [hj, if_neg (by omega)] at h
    simp only [Int.toNat_natCast] at h
    refine ⟨j, ?_, h⟩
    unfold findI at hj
    split at hj
    · rename_i hlt3
      have h4 := List.findIdx_getElem (w := hlt3)
      have h5 : v.keys.findIdx (fun x => decide (x = key)) = j := by omega
      simp only [h5] at h4
      rw [List.getElem?_eq_getElem hlt]
      simpa using h4
    · omega
theorem kids_mem {sh : Int} {x z : V} (h : z ∈ kidsOf sh x) : z = x ∨ z ∈ x.items := by
 unfold kidsOf at h
 split at h
 ·simp at h; exact .inl h
 split at h
 ·split at h <;> simp at h
  exact .inl h
 split at h
 ·split at h
  ·simp at h; exact .inl h
  ·exact .inr (List.mem_filter.1 h).1
 split at h
 ·exact .inr (List.mem_filter.1 h).1
 ·simp at h
theorem c105 (ft : DA) (mb : Nat) (G : Gr) (v : V) : (NumW ft ∨ NoNum v) → Pl v → IsShape v → C105 ft mb G v := by
 refine V.indS (p := fun v => (NumW ft ∨ NoNum v) → Pl v → IsShape v → C105 ft mb G v) (fun v IH hN hp hs => ?_) v
 have hfit := ((vF v).1 hs).2
 refine c105w ft mb G v (fun key x hx h0 => ?_) (fun x hx => ?_)
 ·obtain ⟨j, hj1, hj2⟩ := qB hx
  have hsh := vA h0
  obtain ⟨hf, hk, _⟩ := hfit j _ _ hj1 hj2
  have hpl := hp.item _ (List.mem_of_getElem? hj2)
  have hnn : NumW ft ∨ (shapeOf key ≠ 3 ∧ ∀ z ∈ kidsOf (shapeOf key) x, NoNum z) := hN.imp id fun h => ⟨((qA v).1 h j _ _ hj1 hj2).1, ((qA v).1 h j _ _ hj1 hj2).2.2⟩
  rw [hsh] at hf hk hnn
  refine ⟨hpl, hf, fun z hz => ?_, fun h3 h6 => ?_⟩
  ·refine IH z (Nat.lt_of_le_of_lt (tK hz) (pE hj2)) (hnn.imp id fun h => h.2 z hz) ?_ (hk z hz)
   rcases kids_mem hz with rfl | h
   ·exact hpl
   ·exact hpl.item _ h
  ·rcases hnn with h | h
   ·have := hpl.num.num (.inr h6)
    exact h x.num this.1 this.2 (hpl.frac h6)
   ·exact absurd h3 h.1
 ·obtain ⟨j, hj1, hj2⟩ := qB hx
  exact (hfit j _ _ hj1 hj2).2.2 rfl
end Go.Jw

namespace Go.Jw
open Go Go.RowKit Go.Proofs
def rl (s : ByteArray) : List UInt8 := s.data.toList
theorem sX (s : ByteArray) : s.toList = rl s := ByteArray.toList_eq s
theorem rl_inj {a b : ByteArray} (h : rl a = rl b) : a = b := by
 cases a; cases b
 simp only [rl] at h
 rw [Array.toList_inj.1 h]
theorem rl_app (a b : ByteArray) : rl (a ++ b) = rl a ++ rl b := by simp [rl]
def srtP {α : Type} (l : List (ByteArray × α)) : List (ByteArray × α) := l.mergeSort (fun a b => decide (rl a.1 ≤ rl b.1))
theorem qC {α : Type} (l : List (ByteArray × α)) : (srtP l).Perm l := List.mergeSort_perm _ _
theorem srtP_sorted {α : Type} (l : List (ByteArray × α)) : (srtP l).Pairwise (fun a b => rl a.1 ≤ rl b.1) := by
 have := List.pairwise_mergeSort (le := fun (a b : ByteArray × α) => decide (rl a.1 ≤ rl b.1)) (fun a b c h1 h2 => decide_eq_true (List.le_trans (of_decide_eq_true h1) (of_decide_eq_true h2))) (fun a b => by
  rcases List.le_total (rl a.1) (rl b.1) with h | h <;> simp [h]) l
 exact this.imp fun h => of_decide_eq_true h
theorem fst_inj {α : Type} {l : List (ByteArray × α)} (hn : (l.map Prod.fst).Nodup) {a b : ByteArray × α} (ha : a ∈ l) (hb : b ∈ l) (h : a.1 = b.1) : a = b := by
  induction l with
  | nil => cases ha
  | cons x l ih =>
    rw [List.map_cons, List.nodup_cons] at hn
    rcases List.mem_cons.1 ha with h1 | h1 <;> rcases List.mem_cons.1 hb with h2 | h2
    · rw [h1, h2]
    · exact absurd (List.mem_map.2 ⟨b, h2, by rw [← h, h1]⟩) hn.1
    · exact absurd (List.mem_map.2 ⟨a, h1, by rw [h, h2]⟩) hn.1
    · exact ih hn.2 h1 h2
theorem srtP_eq {α : Type} {l l' : List (ByteArray × α)} (hp : l'.Perm l) (hs : l'.Pairwise (fun a b => rl a.1 ≤ rl b.1)) (hn : (l.map Prod.fst).Nodup) : srtP l = l' :=
 List.Perm.eq_of_pairwise (le := fun (a b : ByteArray × α) => rl a.1 ≤ rl b.1) (fun a b ha hb h1 h2 => fst_inj hn ((qC l).mem_iff.1 ha) (hp.mem_iff.1 hb) (rl_inj (List.le_antisymm h1 h2))) (srtP_sorted l) hs ((qC l).trans hp.symm)
theorem keysOk_lt {ks : List ByteArray} (h : KeysOk ks) : ks.Pairwise (fun a b => rl a < rl b) := by
  have step : ∀ j (hj : j + 1 < ks.length), rl ks[j] < rl ks[j + 1] := by
    intro j hj
    have hs := (h (j + 1) hj).2 (by omega)
    have h4 : ¬ (rl ks[j + 1] < rl ks[j]) := by
      have := hs.1
      rw [less_lt, sX, sX] at this
      simpa using this
    refine Classical.byContradiction fun hc => hs.2 (rl_inj (List.le_antisymm (List.not_lt.1 hc) (List.not_lt.1 h4)))
  rw [List.pairwise_iff_getElem]
  intro i j hi hj hij
  induction j with
  | zero => omega
  | succ j ih =>
    rcases Nat.lt_or_eq_of_le (Nat.le_of_lt_succ hij) with h6 | h6
    · exact List.lt_trans (ih (by omega) h6) (step j hj)
    · subst h6; exact step i hj
theorem lt_nodup {ks : List ByteArray} (h : ks.Pairwise (fun a b => rl a < rl b)) : ks.Nodup := h.imp fun hlt he => by subst he; exact List.lt_irrefl _ hlt
theorem zip_pw {α : Type} {ks : List ByteArray} {ts : List α} (h : ks.Pairwise (fun a b => rl a < rl b)) : (ks.zip ts).Pairwise (fun a b => rl a.1 < rl b.1) := by
  induction ks generalizing ts with
  | nil => simp
  | cons k ks ih =>
    cases ts with
    | nil => simp
    | cons t ts =>
      rw [List.pairwise_cons] at h
      rw [List.zip_cons_cons, List.pairwise_cons]
      exact ⟨fun p hp => h.1 _ (List.of_mem_zip hp).1, ih h.2⟩
theorem pw_fst {α : Type} {l : List (ByteArray × α)} (h : l.Pairwise (fun a b => rl a.1 < rl b.1)) : (l.map Prod.fst).Nodup := by
 rw [List.nodup_iff_pairwise_ne, List.pairwise_map]
 exact h.imp fun hlt he => by rw [he] at hlt; exact List.lt_irrefl _ hlt
theorem pw_le {α : Type} {l : List (ByteArray × α)} (h : l.Pairwise (fun a b => rl a.1 < rl b.1)) : l.Pairwise (fun a b => rl a.1 ≤ rl b.1) := h.imp fun hlt => List.le_of_lt hlt
noncomputable def srtV : V → V := V.fix (α := V) (fun t f => if t.kind = 5 then .mk 5 t.num t.text ((srtP (t.keys.zip (t.items.map f))).map Prod.fst) ((srtP (t.keys.zip (t.items.map f))).map Prod.snd) else .mk t.kind t.num t.text t.keys (t.items.map f))
theorem srtV_eq (t : V) : srtV t = if t.kind = 5 then .mk 5 t.num t.text ((srtP (t.keys.zip (t.items.map srtV))).map Prod.fst) ((srtP (t.keys.zip (t.items.map srtV))).map Prod.snd) else .mk t.kind t.num t.text t.keys (t.items.map srtV) :=
 V.fix_eq (α := V) (G := fun t f => if t.kind = 5 then .mk 5 t.num t.text ((srtP (t.keys.zip (t.items.map f))).map Prod.fst) ((srtP (t.keys.zip (t.items.map f))).map Prod.snd) else .mk t.kind t.num t.text t.keys (t.items.map f)) (fun t g g' h => by
  have : t.items.map g = t.items.map g' := List.map_congr_left fun x hx => h x (xH hx)
  simp only [this]) t
theorem srtV_map {n : Int} {s : ByteArray} {ks : List ByteArray} {ts : List V} {l : List (ByteArray × V)} (h : srtP (ks.zip (ts.map srtV)) = l) : srtV (.mk 5 n s ks ts) = .mk 5 n s (l.map Prod.fst) (l.map Prod.snd) := by
 rw [srtV_eq]
 simp only [V.kind, V.num, V.text, V.keys, V.items, if_true, h]
theorem srtV_no {q n : Int} {s : ByteArray} {ks : List ByteArray} {ts : List V} (h : q ≠ 5) : srtV (.mk q n s ks ts) = .mk q n s ks (ts.map srtV) := by
 rw [srtV_eq]
 simp only [V.kind, V.num, V.text, V.keys, V.items]
 exact if_neg h
noncomputable def outY : V → Y := V.fix (α := Y) (fun t f => if t.kind = 1 then scal tBool (fbB (decide (t.num = 1))) else if t.kind = 2 then scal tInt (itoaB t.num) else if t.kind = 6 then scal tFloat (quartF t.num) else if t.kind = 3 then scal tStr t.text
  else if t.kind = 4 then RKids 2 (t.items.map f) else if t.kind = 5 then RKids 4 ((t.keys.zip (t.items.map f)).flatMap prY) else scal tNull sNull)
theorem sO (t : V) : outY t = if t.kind = 1 then scal tBool (fbB (decide (t.num = 1))) else if t.kind = 2 then scal tInt (itoaB t.num) else if t.kind = 6 then scal tFloat (quartF t.num) else if t.kind = 3 then scal tStr t.text
  else if t.kind = 4 then RKids 2 (t.items.map outY) else if t.kind = 5 then RKids 4 ((t.keys.zip (t.items.map outY)).flatMap prY) else scal tNull sNull :=
 V.fix_eq (G := fun t f => if t.kind = 1 then scal tBool (fbB (decide (t.num = 1))) else if t.kind = 2 then scal tInt (itoaB t.num) else if t.kind = 6 then scal tFloat (quartF t.num) else if t.kind = 3 then scal tStr t.text
  else if t.kind = 4 then RKids 2 (t.items.map f) else if t.kind = 5 then RKids 4 ((t.keys.zip (t.items.map f)).flatMap prY) else scal tNull sNull) (fun t g g' h => by
  have : t.items.map g = t.items.map g' := List.map_congr_left fun x hx => h x (xH hx)
  simp only [this]) t
def isWr (key : ByteArray) : Bool := isKw key && !isQuiet key
noncomputable def wr : V → V := V.fix (α := V) (fun t g => filterV 5 0 ⟨#[]⟩ isWr (fun k v => turnV (shapeOf k) g v) t)
theorem wr_eq (t : V) : wr t = filterV 5 0 ⟨#[]⟩ isWr (fun k v => turnV (shapeOf k) wr v) t :=
 V.fix_eq (G := fun t g => filterV 5 0 ⟨#[]⟩ isWr (fun k v => turnV (shapeOf k) g v) t) (fun t g g' h => sD fun k v hv => rK fun x hx => h x (Nat.lt_of_le_of_lt hx (xH hv))) t
theorem wr_kind (t : V) : (wr t).kind = 5 := by rw [wr_eq]; rfl
theorem normal_kind (t : V) : (normalV t).kind = 5 := by rw [rF]; rfl
theorem pL {k m k' m' : Int} {s s' : ByteArray} {q q' : ByteArray → Bool} {f f' : ByteArray → V → V} {t : V} : filterV k m s q f (filterV k' m' s' q' f' t) = filterV k m s (fun x => q' x && q x) (fun x v => f x (f' x v)) t := by
  obtain ⟨tk, tn, ts, ks, its⟩ := t
  unfold filterV
  simp only [V.keys, V.items]
  have hz : (((ks.zip its).filter (fun p => q' p.1)).map (·.1)).zip (((ks.zip its).filter (fun p => q' p.1)).map (fun p => f' p.1 p.2)) = ((ks.zip its).filter (fun p => q' p.1)).map (fun p => (p.1, f' p.1 p.2)) := by
    rw [List.zip_map, ]
    generalize (ks.zip its).filter (fun p => q' p.1) = l
    induction l with
    | nil => rfl
    | cons a l ih => simp [ih]
  rw [hz]
  have hf : (((ks.zip its).filter (fun p => q' p.1)).map (fun p => (p.1, f' p.1 p.2))).filter (fun p => q p.1) = ((ks.zip its).filter (fun p => q' p.1 && q p.1)).map (fun p => (p.1, f' p.1 p.2)) := by
    rw [List.filter_map, List.filter_filter]
    congr 1
    apply List.filter_congr
    intro p hp
    simp [Function.comp, Bool.and_comm]
  rw [hf, List.map_map, List.map_map]
  rfl
theorem turn_turn {sh : Int} {b g : V → V} {x : V} (hk : ∀ y, (g y).kind = 5) : turnV sh b (turnV sh g x) = turnV sh (fun y => if y.kind = 5 then b (g y) else if sh = 5 then b (g y) else b y) x := by
 have hm : ∀ y, mapKids b (mapKids g y) = mapKids (fun y => if y.kind = 5 then b (g y) else if sh = 5 then b (g y) else b y) y := by
  intro y
  by_cases h : y.kind = 5
  ·rw [tL h, tL (hk y), tL h, if_pos h]
  ·rw [rJ h, rJ h, rJ h]
 have ha : turnAll b (turnAll g x) = turnAll (fun y => if y.kind = 5 then b (g y) else if sh = 5 then b (g y) else b y) x := by
  unfold turnAll
  simp only [V.kind, V.keys, V.items, List.map_map]
  congr 1
  exact List.map_congr_left fun y _ => hm y
 unfold turnV
 by_cases h5 : sh = 5
 ·simp [h5]
 by_cases h6 : sh = 6
 ·by_cases hx : x.kind = 5 <;> simp [h6, hx, hk]
 by_cases h7 : sh = 7
 ·by_cases hx : x.kind = 5
  ·simp [h7, hx, hk]
  ·have hkk : ¬ (turnAll g x).kind = 5 := hx
   subst h7
   simp only [hx, if_false, if_neg hkk, show ¬ ((7 : Int) = 5) from by decide, show ¬ ((7 : Int) = 6) from by decide, if_true] at ha ⊢
   exact ha
 by_cases h9 : sh = 9 ∨ sh = 13
 ·simp only [if_neg h5, if_neg h6, if_neg h7, if_pos h9] at ha ⊢
  exact ha
 ·simp only [if_neg h5, if_neg h6, if_neg h7, if_neg h9]
theorem bare_wr (v : V) : bareV (wr v) = bareV (normalV v) := by
 refine V.indS (p := fun v => bareV (wr v) = bareV (normalV v)) (fun v IH => ?_) v
 rw [wr_eq, rF, bareV_eq, bareV_eq, pL, pL]
 have h1 : ∀ x ∈ v.items, ∀ k, turnV (shapeOf k) bareV (turnV (shapeOf k) wr x) = turnV (shapeOf k) bareV (turnV (shapeOf k) normalV x) := by
  intro x hx k
  rw [turn_turn wr_kind, turn_turn normal_kind]
  refine rK fun y hy => ?_
  have hlt := Nat.lt_of_le_of_lt hy (xH hx)
  rw [IH y hlt]
 have h2 : (fun x => isWr x && !isQuiet x) = (fun x => isKw x && !isQuiet x) := by
  funext x
  unfold isWr
  cases isKw x <;> cases isQuiet x <;> rfl
 rw [h2]
 exact sD fun k x hx => h1 x hx k
end Go.Jw

namespace Go.Jw
open Go Go.RowKit Go.Proofs
theorem qN {x : V} (hp : Pl x) (h4 : x.kind ≠ 4) (h5 : x.kind ≠ 5) : IsScal x.kind x.num x.text x.keys x.items := by
 obtain ⟨d, h⟩ := hp
 obtain ⟨q, m, s, ks, ts⟩ := x
 exact (xV h4 h5).1 h
theorem head_of {x : V} (hp : Pl x) (h : x.kind = 4 ∨ x.kind = 5) : IsHead x.kind x.num x.text x.keys x.items := by
  obtain ⟨d, hd⟩ := hp
  obtain ⟨q, m, s, ks, ts⟩ := x
  cases d with
  | zero => exact absurd hd (tJ h)
  | succ d => exact ((vD h).1 hd).1
theorem qD {x : V} (hp : Pl x) (h : x.kind = 3) : x = .mk 3 0 x.text [] [] := by
 have := qN hp (by omega) (by omega)
 obtain ⟨q, m, s, ks, ts⟩ := x
 simp only [V.kind] at h
 subst h
 simp [IsScal, V.kind, V.num, V.text, V.keys, V.items] at this
 obtain ⟨h1, h2, h3, _⟩ := this
 subst h1; subst h2; subst h3; rfl
theorem leaf_bool {x : V} (hp : Pl x) (h : x.kind = 1) : x = .mk 1 x.num ⟨#[]⟩ [] [] ∧ (x.num = 0 ∨ x.num = 1) := by
 have := qN hp (by omega) (by omega)
 obtain ⟨q, m, s, ks, ts⟩ := x
 simp only [V.kind] at h
 subst h
 simp [IsScal, V.kind, V.num, V.text, V.keys, V.items] at this
 obtain ⟨h1, h2, h3, h4⟩ := this
 subst h1; subst h2; subst h4; exact ⟨rfl, h3⟩
theorem leaf_int {x : V} (hp : Pl x) (h : x.kind = 2) : x = .mk 2 x.num ⟨#[]⟩ [] [] := by
 have := qN hp (by omega) (by omega)
 obtain ⟨q, m, s, ks, ts⟩ := x
 simp only [V.kind] at h
 subst h
 simp [IsScal, V.kind, V.num, V.text, V.keys, V.items] at this
 obtain ⟨h1, h2, h3, h4, h5⟩ := this
 subst h1; subst h2; subst h5; rfl
theorem leaf_q {x : V} (hp : Pl x) (h : x.kind = 6) : x = .mk 6 x.num ⟨#[]⟩ [] [] := by
 have := qN hp (by omega) (by omega)
 obtain ⟨q, m, s, ks, ts⟩ := x
 simp only [V.kind] at h
 subst h
 simp [IsScal, V.kind, V.num, V.text, V.keys, V.items] at this
 obtain ⟨h1, h2, h3, h4, h5, h6⟩ := this
 subst h1; subst h2; subst h6; rfl
theorem plain_l {x : V} (hp : Pl x) (h : x.kind = 4) : x = .mk 4 0 ⟨#[]⟩ [] x.items := by
 have := head_of hp (.inl h)
 obtain ⟨q, m, s, ks, ts⟩ := x
 simp only [V.kind] at h
 subst h
 simp [IsHead, V.kind, V.num, V.text, V.keys, V.items] at this
 obtain ⟨h1, h2, h3⟩ := this
 subst h1; subst h2; subst h3; rfl
theorem qO {x : V} (hp : Pl x) (h : x.kind = 5) : x = .mk 5 0 ⟨#[]⟩ x.keys x.items ∧ x.keys.length = x.items.length ∧ x.keys.Pairwise (fun a b => rl a < rl b) := by
 have := head_of hp (.inr h)
 obtain ⟨q, m, s, ks, ts⟩ := x
 simp only [V.kind] at h
 subst h
 simp [IsHead, V.kind, V.num, V.text, V.keys, V.items] at this
 obtain ⟨h1, h2, h3, h4⟩ := this
 subst h1; subst h2; exact ⟨rfl, h3, keysOk_lt h4⟩
inductive Eql : V → Prop where
  | mk {q m : Int} {s : ByteArray} {ks : List ByteArray} {ts : List V} : (q = 5 → ks.length = ts.length) → (∀ x ∈ ts, Eql x) → Eql (.mk q m s ks ts)
theorem Eql.of_wf (x : V) : Wf x → Eql x := by
 refine V.indS (p := fun x => Wf x → Eql x) (fun x IH h => ?_) x
 obtain ⟨q, m, s, ks, ts⟩ := x
 exact .mk (fun hq => h.eq hq) fun y hy => IH y (xH hy) (h.item y hy)
theorem Eql.item {x : V} (h : Eql x) : ∀ y ∈ x.items, Eql y := by cases h; assumption
theorem Eql.len {x : V} (h : Eql x) : x.kind = 5 → x.keys.length = x.items.length := by cases h; assumption
theorem srt_sorted {ks : List ByteArray} {α : Type} {ts : List α} (h : ks.Pairwise (fun a b => rl a < rl b)) : srtP (ks.zip ts) = ks.zip ts := srtP_eq (.refl _) (pw_le (zip_pw h)) (pw_fst (zip_pw h))
theorem uD {α β : Type} {l : List α} {l' : List β} (h : l.length ≤ l'.length) : (l.zip l').map Prod.fst = l := List.map_fst_zip h
theorem sJ {α β : Type} {l : List α} {l' : List β} (h : l'.length ≤ l.length) : (l.zip l').map Prod.snd = l' := List.map_snd_zip h
theorem srt_plain (x : V) : Pl x → srtV x = x := by
 refine V.indS (p := fun x => Pl x → srtV x = x) (fun x IH hp => ?_) x
 have hit : x.items.map srtV = x.items := by
  conv => rhs; rw [← List.map_id x.items]
  exact List.map_congr_left fun y hy => IH y (xH hy) (hp.item y hy)
 rw [srtV_eq, hit]
 by_cases h : x.kind = 5
 ·obtain ⟨he, hl, hs⟩ := qO hp h
  rw [if_pos h, srt_sorted hs, uD (by omega), sJ (by omega)]
  refine V.ext (by simp only [V.kind]; exact h.symm) rfl rfl rfl rfl
 ·rw [if_neg h]
  exact V.ext rfl rfl rfl rfl rfl
theorem rN {α β : Type} {R : α → β → Prop} : ∀ {l : List α}, (∀ a ∈ l, ∃ b, R a b) → ∃ l', All2 R l l'
  | [], _ => ⟨[], All2.nil R⟩
  | a :: l, h => by
    obtain ⟨b, hb⟩ := h a List.mem_cons_self
    obtain ⟨l', hl'⟩ := rN (l := l) fun a ha => h a (List.mem_cons_of_mem _ ha)
    refine ⟨b :: l', by simp [hl'.1], fun i x y hx hy => ?_⟩
    cases i with
    | zero => simp at hx hy; subst hx; subst hy; exact hb
    | succ i => exact hl'.2 i x y (by simpa using hx) (by simpa using hy)
theorem All2.map_eq {α β γ : Type} {R : α → β → Prop} {f : α → γ} {g : β → γ} {l : List α} {l' : List β} (h : All2 R l l') (he : ∀ a b, a ∈ l → b ∈ l' → R a b → f a = g b) : l.map f = l'.map g := by
  apply List.ext_getElem?
  intro i
  rw [List.getElem?_map, List.getElem?_map]
  cases ha : l[i]? with
  | none =>
    have : l'[i]? = none := by rw [List.getElem?_eq_none_iff] at ha ⊢; rw [← h.1]; exact ha
    rw [this]; rfl
  | some a =>
    have hlt := (List.getElem?_eq_some_iff.1 ha).1
    have hb : l'[i]? = some (l'[i]'(by rw [← h.1]; exact hlt)) := List.getElem?_eq_getElem _
    rw [hb]
    simp only [Option.map_some]
    rw [he a _ (List.mem_of_getElem? ha) (List.mem_of_getElem? hb) (h.2 i _ _ ha hb)]
theorem all2_right {α β : Type} {R : α → β → Prop} {p : β → Prop} {l : List α} {l' : List β} (h : All2 R l l') (hp : ∀ a b, R a b → p b) : ∀ b ∈ l', p b := by
 intro b hb
 obtain ⟨i, hi, rfl⟩ := List.getElem_of_mem hb
 exact hp _ _ (h.2 i _ _ (List.getElem?_eq_getElem (by rw [h.1]; exact hi)) (List.getElem?_eq_getElem hi))
theorem zip_map_eq {α β γ : Type} (l : List α) (f : α → β) (g : α → γ) : (l.map f).zip (l.map g) = l.map fun a => (f a, g a) := by
  induction l with
  | nil => rfl
  | cons a l ih => simp [ih]
theorem qE (s : ByteArray) : outY (.mk 3 0 s [] []) = scal tStr s := by rw [sO]; simp [V.kind, V.text]
theorem outY_bool (n : Int) : outY (.mk 1 n ⟨#[]⟩ [] []) = scal tBool (fbB (decide (n = 1))) := by rw [sO]; exact if_pos rfl
theorem outY_int (n : Int) : outY (.mk 2 n ⟨#[]⟩ [] []) = scal tInt (itoaB n) := by rw [sO]; simp [V.kind, V.num]
theorem outY_q (n : Int) : outY (.mk 6 n ⟨#[]⟩ [] []) = scal tFloat (quartF n) := by rw [sO]; simp [V.kind, V.num]
theorem outY_l (ts : List V) : outY (.mk 4 0 ⟨#[]⟩ [] ts) = RKids 2 (ts.map outY) := by rw [sO]; simp [V.kind, V.items]
theorem outY_m (ks : List ByteArray) (ts : List V) : outY (.mk 5 0 ⟨#[]⟩ ks ts) = RKids 4 ((ks.zip (ts.map outY)).flatMap prY) := by rw [sO]; simp [V.kind, V.keys, V.items]
theorem outY_list {x : V} (h : x.kind = 4) : outY x = RKids 2 (x.items.map outY) := by rw [sO]; simp [h]
theorem outY_texts {ts : List V} (hp : ∀ x ∈ ts, Pl x) (h3 : ∀ x ∈ ts, x.kind = 3) : ts.map outY = (ts.map V.text).map (scal tStr) := by
 rw [List.map_map]
 refine List.map_congr_left fun x hx => ?_
 rw [qD (hp x hx) (h3 x hx), qE]
 rfl
theorem srt_perm_map {ps : List (ByteArray × V)} {ws : List V} {x : V} {g : V → V} (hx : x.keys.Pairwise (fun a b => rl a < rl b)) (hl : x.keys.length = x.items.length) (hp : ps.Perm (x.keys.zip x.items)) (h : All2 (fun w p => srtV w = g p.2) ws ps) : srtV (.mk 5 0 ⟨#[]⟩ (ps.map Prod.fst) ws) = .mk 5 0 ⟨#[]⟩ x.keys (x.items.map g) := by
 have e1 : ws.map srtV = ps.map (fun p => g p.2) := h.map_eq fun w p _ _ hr => hr
 have e2 : (ps.map Prod.fst).zip (ws.map srtV) = ps.map fun p => (p.1, g p.2) := by rw [e1, zip_map_eq]
 have e3 : x.keys.zip (x.items.map g) = (x.keys.zip x.items).map fun p => (p.1, g p.2) := by
  rw [List.zip_map_right]; rfl
 have hs : srtP ((ps.map Prod.fst).zip (ws.map srtV)) = x.keys.zip (x.items.map g) := by
  refine srtP_eq ?_ (pw_le (zip_pw hx)) ?_
  ·rw [e2, e3]; exact (hp.map _).symm
  ·rw [e2, List.map_map]
   have : (ps.map (Prod.fst ∘ fun p : ByteArray × V => (p.1, g p.2))) = ps.map Prod.fst := List.map_congr_left fun _ _ => rfl
   rw [this]
   have hn : ((x.keys.zip x.items).map Prod.fst).Nodup := pw_fst (zip_pw hx)
   exact (hp.map Prod.fst).nodup_iff.2 hn
 rw [srtV_map hs, uD (by simp; omega), sJ (by simp; omega)]
theorem mapKids_all {g : V → V} {ts : List V} (h5 : ∀ x ∈ ts, x.kind = 5) : ts.map (mapKids g) = ts.map g := List.map_congr_left fun x hx => tL (h5 x hx)
theorem turn_else {sh : Int} {g : V → V} {x : V} (h : sh ≠ 5 ∧ sh ≠ 6 ∧ sh ≠ 7 ∧ sh ≠ 9 ∧ sh ≠ 13) : turnV sh g x = x := by
 unfold turnV
 simp [h.1, h.2.1, h.2.2.1, h.2.2.2.1, h.2.2.2.2]
theorem item_wr {sh : Int} {x : V} {z : Y} (hp : Pl x) (hf : FitLoc sh x) (IH : ∀ y, y = x ∨ y ∈ x.items → y ∈ kidsOf sh x → ∀ z, OutR y z → ∃ w, z = outY w ∧ srtV w = wr y ∧ Eql w) (hi : ItemR OutR sh x z) : ∃ w, z = outY w ∧ srtV w = turnV sh wr x ∧ Eql w := by
  have self : ∀ (h : sh ≠ 5 ∧ sh ≠ 6 ∧ sh ≠ 7 ∧ sh ≠ 9 ∧ sh ≠ 13) (z : Y), z = outY x → ∃ w, z = outY w ∧ srtV w = turnV sh wr x ∧ Eql w := fun h z hz => ⟨x, hz, by rw [turn_else h, srt_plain x hp], .of_wf x hp.wf⟩
  have texts : x.kind = 4 → (∀ y ∈ x.items, y.kind = 3) → outY x = RKids 2 ((x.items.map V.text).map (scal tStr)) := fun h4 h3 => by
    rw [outY_list h4, outY_texts hp.item h3]
  have lst : ∀ (zs : List Y), (∀ y ∈ x.items, y.kind = 5 ∧ y ∈ kidsOf sh x) → x.kind = 4 → All2 (fun z x => OutR x z) zs x.items → ∃ w, RKids 2 zs = outY w ∧ srtV w = turnAll wr x ∧ Eql w := by
    intro zs hk h4 hz
    have h2 : ∀ p ∈ zs.zip x.items, ∃ w, p.1 = outY w ∧ srtV w = wr p.2 ∧ Eql w := fun p hpm => by
      obtain ⟨i, hi, rfl⟩ := List.getElem_of_mem hpm
      simp only [List.length_zip] at hi
      have hlt : i < x.items.length := by omega
      rw [List.getElem_zip]
      exact IH x.items[i] (.inr (List.getElem_mem hlt)) (hk _ (List.getElem_mem hlt)).2 _ (hz.2 i _ _ (List.getElem?_eq_getElem (by omega)) (List.getElem?_eq_getElem hlt))
    obtain ⟨ws, hws⟩ := rN h2
    refine ⟨.mk 4 0 ⟨#[]⟩ [] ws, ?_, ?_, .mk (fun h => absurd h (by decide)) (all2_right hws fun p w h => h.2.2)⟩
    · rw [outY_l]
      congr 1
      have := hws.map_eq (f := Prod.fst) (g := outY) fun p w _ _ h => h.1
      rw [uD (by rw [hz.1]; exact Nat.le_refl _)] at this
      exact this
    · rw [srtV_no (by decide)]
      have := hws.map_eq (f := fun p => wr p.2) (g := srtV) fun p w _ _ h => h.2.1.symm
      have e : (zs.zip x.items).map (fun p => wr p.2) = x.items.map wr := by
        have := congrArg (List.map wr) (sJ (l := zs) (l' := x.items) (by rw [hz.1]; exact Nat.le_refl _))
        rw [List.map_map] at this
        exact this
      unfold turnAll
      rw [← this, e, mapKids_all fun y hy => (hk y hy).1, plain_l hp h4]
      rfl
  unfold ItemR at hi
  rcases hi with ⟨rfl, rfl⟩ | ⟨rfl, rfl⟩ | ⟨rfl, hk, rfl⟩ | ⟨rfl, hk, rfl⟩ | ⟨rfl, rfl⟩ | ⟨rfl, hr⟩ | ⟨rfl, hk, rfl⟩ | ⟨rfl, hk, hr⟩ | ⟨rfl, hk, hr⟩ | ⟨rfl, hk, zs, rfl, hz⟩ | ⟨rfl, rfl⟩ | ⟨rfl, ps, L, rfl, hpm, hz⟩ | ⟨rfl, ps, hpm, rfl⟩ | ⟨rfl, rfl⟩ | ⟨rfl, hk, rfl⟩ | ⟨rfl, hk, rfl⟩ | ⟨rfl, zs, rfl, hz⟩
  · have hk : x.kind = 3 := by simpa [FitLoc] using hf
    refine self (by decide) _ ?_
    conv => rhs; rw [qD hp hk, qE]
  · have hk : x.kind = 1 := by simpa [FitLoc] using hf
    refine self (by decide) _ ?_
    conv => rhs; rw [(leaf_bool hp hk).1, outY_bool]
  · refine self (by decide) _ ?_
    conv => rhs; rw [leaf_int hp hk, outY_int]
  · refine self (by decide) _ ?_
    conv => rhs; rw [leaf_q hp hk, outY_q]
  · have hk : x.kind = 2 := by have : x.kind = 2 ∧ 0 ≤ x.num := by simpa [FitLoc] using hf
                               exact this.1
    refine self (by decide) _ ?_
    conv => rhs; rw [leaf_int hp hk, outY_int]
  · obtain ⟨w, h1, h2, h3⟩ := IH x (.inl rfl) (by simp [kidsOf]) z hr
    exact ⟨w, h1, by rw [h2]; simp [turnV], h3⟩
  · refine ⟨x, ?_, ?_, .of_wf x hp.wf⟩
    · conv => rhs; rw [(leaf_bool hp hk).1, outY_bool]
    · rw [srt_plain x hp]; simp [turnV, hk]
  · obtain ⟨w, h1, h2, h3⟩ := IH x (.inl rfl) (by rw [kids6 hk]; simp) z hr
    exact ⟨w, h1, by rw [h2]; simp [turnV, hk], h3⟩
  · obtain ⟨w, h1, h2, h3⟩ := IH x (.inl rfl) (by rw [kids7 hk]; simp) z hr
    exact ⟨w, h1, by rw [h2]; simp [turnV, hk], h3⟩
  · have h5 : ∀ y ∈ x.items, y.kind = 5 := by
      simp [FitLoc, hk] at hf
      exact hf
    obtain ⟨w, h1, h2, h3⟩ := lst zs (fun y hy => ⟨h5 y hy, by rw [kids7l hk h5]; exact hy⟩) hk hz
    exact ⟨w, h1, by rw [h2]; simp [turnV, hk], h3⟩
  · have h : x.kind = 4 ∧ ∀ y ∈ x.items, y.kind = 3 := by simpa [FitLoc] using hf
    exact self (by decide) _ (texts h.1 h.2).symm
  · have h : x.kind = 5 ∧ ∀ y ∈ x.items, y.kind = 5 := by simpa [FitLoc] using hf
    obtain ⟨he, hl, hs⟩ := qO hp h.1
    have h2 : ∀ q ∈ L.zip ps, ∃ w, q.1.2 = outY w ∧ srtV w = wr q.2.2 ∧ Eql w := fun q hq => by
      obtain ⟨i, hi, rfl⟩ := List.getElem_of_mem hq
      simp only [List.length_zip] at hi
      have hlt : i < ps.length := by omega
      rw [List.getElem_zip]
      have hm := (List.of_mem_zip (hpm.mem_iff.1 (List.getElem_mem hlt))).2
      exact IH ps[i].2 (.inr hm) (by rw [kids9 h.2]; exact hm) _ (hz.2 i _ _ (List.getElem?_eq_getElem (by omega)) (List.getElem?_eq_getElem hlt)).2
    obtain ⟨ws, hws⟩ := rN h2
    have hll : L.length = ps.length := hz.1
    have e1 : L.map Prod.fst = ps.map Prod.fst := hz.map_eq fun a b _ _ h => h.1
    have e2 : L.map Prod.snd = ws.map outY := by
      have := hws.map_eq (f := fun q => q.1.2) (g := outY) fun p w _ _ h => h.1
      rw [← this]
      have := congrArg (List.map Prod.snd) (uD (l := L) (l' := ps) (by omega))
      rw [List.map_map] at this
      exact this.symm
    have e3 : All2 (fun w p => srtV w = wr p.2) ws ps := by
      refine ⟨by have := hws.1; rw [List.length_zip] at this; omega, fun i w p hw hpp => ?_⟩
      have hlt := (List.getElem?_eq_some_iff.1 hpp).1
      have hq : (L.zip ps)[i]? = some (L[i]'(by omega), p) := by
        rw [List.getElem?_eq_getElem (by simp; omega), List.getElem_zip]
        rw [List.getElem?_eq_getElem hlt] at hpp
        cases hpp
        rfl
      exact (hws.2 i _ w hq hw).2.1
    refine ⟨.mk 5 0 ⟨#[]⟩ (ps.map Prod.fst) ws, ?_, ?_, .mk (fun _ => by rw [List.length_map]; exact e3.1.symm) (all2_right hws fun p w h => h.2.2)⟩
    · rw [outY_m, ← e1, ← e2]
      congr 2
      exact List.zip_of_prod rfl rfl
    · rw [srt_perm_map hs hl hpm e3]
      simp only [turnV, turnAll, show ¬ ((9 : Int) = 5) from by decide, show ¬ ((9 : Int) = 6) from by decide, show ¬ ((9 : Int) = 7) from by decide, if_false, true_or, if_true]
      rw [mapKids_all h.2, h.1]
  · have h : x.kind = 5 ∧ ∀ y ∈ x.items, y.kind = 4 ∧ ∀ z ∈ y.items, z.kind = 3 := by simpa [FitLoc] using hf
    obtain ⟨he, hl, hs⟩ := qO hp h.1
    refine ⟨.mk 5 0 ⟨#[]⟩ (ps.map Prod.fst) (ps.map Prod.snd), ?_, ?_, .mk (fun _ => by simp) (fun y hy => by
      obtain ⟨p, hpp, rfl⟩ := List.mem_map.1 hy
      exact .of_wf _ (hp.item _ (List.of_mem_zip (hpm.mem_iff.1 hpp)).2).wf)⟩
    · rw [outY_m, List.map_map]
      congr 2
      rw [zip_map_eq]
      refine List.map_congr_left fun p hpp => ?_
      have hm := (List.of_mem_zip (hpm.mem_iff.1 hpp)).2
      have hpl := hp.item p.2 hm
      simp only [Function.comp]
      rw [plain_l hpl (h.2 p.2 hm).1, outY_l, outY_texts hpl.item (h.2 p.2 hm).2]
      rfl
    · rw [turn_else (by decide), srt_perm_map (g := id) hs hl hpm, List.map_id]
      · exact he.symm
      · refine ⟨by simp, fun i w p hw hpp => ?_⟩
        rw [List.getElem?_map, hpp] at hw
        cases hw
        exact srt_plain _ (hp.item _ (List.of_mem_zip (hpm.mem_iff.1 (List.mem_of_getElem? hpp))).2)
  · have h : x.kind = 4 ∧ ∀ y ∈ x.items, y.kind = 3 ∨ y.kind = 1 := by simpa [FitLoc] using hf
    refine self (by decide) _ ?_
    rw [outY_list h.1]
    congr 1
    rw [List.map_map]
    refine List.map_congr_left fun y hy => ?_
    simp only [Function.comp]
    unfold evOf
    rcases h.2 y hy with h1 | h1
    · rw [if_pos h1, qD (hp.item y hy) h1, qE]; rfl
    · rw [if_neg (by omega), (leaf_bool (hp.item y hy) h1).1, outY_bool]; rfl
  · refine self (by decide) _ ?_
    conv => rhs; rw [qD hp hk, qE]
  · have h : x.kind = 3 ∨ (x.kind = 4 ∧ ∀ y ∈ x.items, y.kind = 3) := by simpa [FitLoc] using hf
    rcases h with h | h
    · omega
    · exact self (by decide) _ (texts h.1 h.2).symm
  · have h : x.kind = 4 ∧ ∀ y ∈ x.items, y.kind = 5 := by simpa [FitLoc] using hf
    obtain ⟨w, h1, h2, h3⟩ := lst zs (fun y hy => ⟨h.2 y hy, by rw [kids13 h.2]; exact hy⟩) h.1 hz
    exact ⟨w, h1, by rw [h2]; simp [turnV], h3⟩
end Go.Jw

namespace Go.Jw
open Go Go.RowKit Go.Proofs
def shKeys : List ByteArray := [⟨#[36, 115, 99, 104, 101, 109, 97]⟩, ⟨#[105, 100]⟩, ⟨#[36, 114, 101, 102]⟩, ⟨#[112, 97, 116, 116, 101, 114, 110]⟩, ⟨#[116, 105, 116, 108, 101]⟩, ⟨#[100, 101, 115, 99, 114, 105, 112, 116, 105, 111, 110]⟩, ⟨#[102, 111, 114, 109, 97, 116]⟩, ⟨#[114, 101, 97, 100, 79, 110, 108, 121]⟩, ⟨#[119, 114, 105, 116, 101, 79, 110, 108, 121]⟩, ⟨#[101, 120, 99, 108, 117, 115, 105, 118, 101, 77, 97, 120, 105, 109, 117, 109]⟩, ⟨#[101, 120, 99, 108, 117, 115, 105, 118, 101, 77, 105, 110, 105, 109, 117, 109]⟩, ⟨#[117, 110, 105, 113, 117, 101, 73, 116, 101, 109, 115]⟩, ⟨#[109, 117, 108, 116, 105, 112, 108, 101, 79, 102]⟩, ⟨#[109, 97, 120, 105, 109, 117, 109]⟩, ⟨#[109, 105, 110, 105, 109, 117, 109]⟩, ⟨#[109, 97, 120, 76, 101, 110, 103, 116, 104]⟩, ⟨#[109, 105, 110, 76, 101, 110, 103, 116, 104]⟩, ⟨#[109, 97, 120, 73, 116, 101, 109, 115]⟩, ⟨#[109, 105, 110, 73, 116, 101, 109, 115]⟩, ⟨#[109, 97, 120, 80, 114, 111, 112, 101, 114, 116, 105, 101, 115]⟩, ⟨#[109, 105, 110, 80, 114, 111, 112, 101, 114, 116, 105, 101, 115]⟩, ⟨#[110, 111, 116]⟩, ⟨#[97, 100, 100, 105, 116, 105, 111, 110, 97, 108, 73, 116, 101, 109, 115]⟩, ⟨#[97, 100, 100, 105, 116, 105, 111, 110, 97, 108, 80, 114, 111, 112, 101, 114, 116, 105, 101, 115]⟩, ⟨#[105, 116, 101, 109, 115]⟩, ⟨#[114, 101, 113, 117, 105, 114, 101, 100]⟩, ⟨#[112, 114, 111, 112, 101, 114, 116, 105, 101, 115]⟩, ⟨#[112, 97, 116, 116, 101, 114, 110, 80, 114, 111, 112, 101, 114, 116, 105, 101, 115]⟩, ⟨#[100, 101, 102, 105, 110, 105, 116, 105, 111, 110, 115]⟩, ⟨#[100, 101, 112, 101, 110, 100, 101, 110, 99, 105, 101, 115]⟩, ⟨#[101, 110, 117, 109]⟩, ⟨#[116, 121, 112, 101]⟩, ⟨#[97, 108, 108, 79, 102]⟩, ⟨#[97, 110, 121, 79, 102]⟩, ⟨#[111, 110, 101, 79, 102]⟩, ⟨#[100, 101, 102, 97, 117, 108, 116]⟩]
theorem sh_case {key : ByteArray} (h : shapeOf key ≠ 0) : key ∈ shKeys := by
 unfold shapeOf at h
 by_cases e0 : key = ⟨#[36, 115, 99, 104, 101, 109, 97]⟩
 ·exact List.mem_of_getElem? (l := shKeys) (i := 0) (by rw [e0]; rfl)
 rw [if_neg e0] at h
 by_cases e1 : key = ⟨#[105, 100]⟩
 ·exact List.mem_of_getElem? (l := shKeys) (i := 1) (by rw [e1]; rfl)
 rw [if_neg e1] at h
 by_cases e2 : key = ⟨#[36, 114, 101, 102]⟩
 ·exact List.mem_of_getElem? (l := shKeys) (i := 2) (by rw [e2]; rfl)
 rw [if_neg e2] at h
 by_cases e3 : key = ⟨#[112, 97, 116, 116, 101, 114, 110]⟩
 ·exact List.mem_of_getElem? (l := shKeys) (i := 3) (by rw [e3]; rfl)
 rw [if_neg e3] at h
 by_cases e4 : key = ⟨#[116, 105, 116, 108, 101]⟩
 ·exact List.mem_of_getElem? (l := shKeys) (i := 4) (by rw [e4]; rfl)
 rw [if_neg e4] at h
 by_cases e5 : key = ⟨#[100, 101, 115, 99, 114, 105, 112, 116, 105, 111, 110]⟩
 ·exact List.mem_of_getElem? (l := shKeys) (i := 5) (by rw [e5]; rfl)
 rw [if_neg e5] at h
 by_cases e6 : key = ⟨#[102, 111, 114, 109, 97, 116]⟩
 ·exact List.mem_of_getElem? (l := shKeys) (i := 6) (by rw [e6]; rfl)
 rw [if_neg e6] at h
 by_cases e7 : key = ⟨#[114, 101, 97, 100, 79, 110, 108, 121]⟩
 ·exact List.mem_of_getElem? (l := shKeys) (i := 7) (by rw [e7]; rfl)
 rw [if_neg e7] at h
 by_cases e8 : key = ⟨#[119, 114, 105, 116, 101, 79, 110, 108, 121]⟩
 ·exact List.mem_of_getElem? (l := shKeys) (i := 8) (by rw [e8]; rfl)
 rw [if_neg e8] at h
 by_cases e9 : key = ⟨#[101, 120, 99, 108, 117, 115, 105, 118, 101, 77, 97, 120, 105, 109, 117, 109]⟩
 ·exact List.mem_of_getElem? (l := shKeys) (i := 9) (by rw [e9]; rfl)
 rw [if_neg e9] at h
 by_cases e10 : key = ⟨#[101, 120, 99, 108, 117, 115, 105, 118, 101, 77, 105, 110, 105, 109, 117, 109]⟩
 ·exact List.mem_of_getElem? (l := shKeys) (i := 10) (by rw [e10]; rfl)
 rw [if_neg e10] at h
 by_cases e11 : key = ⟨#[117, 110, 105, 113, 117, 101, 73, 116, 101, 109, 115]⟩
 ·exact List.mem_of_getElem? (l := shKeys) (i := 11) (by rw [e11]; rfl)
 rw [if_neg e11] at h
 by_cases e12 : key = ⟨#[109, 117, 108, 116, 105, 112, 108, 101, 79, 102]⟩
 ·exact List.mem_of_getElem? (l := shKeys) (i := 12) (by rw [e12]; rfl)
 rw [if_neg e12] at h
 by_cases e13 : key = ⟨#[109, 97, 120, 105, 109, 117, 109]⟩
 ·exact List.mem_of_getElem? (l := shKeys) (i := 13) (by rw [e13]; rfl)
 rw [if_neg e13] at h
 by_cases e14 : key = ⟨#[109, 105, 110, 105, 109, 117, 109]⟩
 ·exact List.mem_of_getElem? (l := shKeys) (i := 14) (by rw [e14]; rfl)
 rw [if_neg e14] at h
 by_cases e15 : key = ⟨#[109, 97, 120, 76, 101, 110, 103, 116, 104]⟩
 ·exact List.mem_of_getElem? (l := shKeys) (i := 15) (by rw [e15]; rfl)
 rw [if_neg e15] at h
 by_cases e16 : key = ⟨#[109, 105, 110, 76, 101, 110, 103, 116, 104]⟩
 ·exact List.mem_of_getElem? (l := shKeys) (i := 16) (by rw [e16]; rfl)
 rw [if_neg e16] at h
 by_cases e17 : key = ⟨#[109, 97, 120, 73, 116, 101, 109, 115]⟩
 ·exact List.mem_of_getElem? (l := shKeys) (i := 17) (by rw [e17]; rfl)
 rw [if_neg e17] at h
 by_cases e18 : key = ⟨#[109, 105, 110, 73, 116, 101, 109, 115]⟩
 ·exact List.mem_of_getElem? (l := shKeys) (i := 18) (by rw [e18]; rfl)
 rw [if_neg e18] at h
 by_cases e19 : key = ⟨#[109, 97, 120, 80, 114, 111, 112, 101, 114, 116, 105, 101, 115]⟩
 ·exact List.mem_of_getElem? (l := shKeys) (i := 19) (by rw [e19]; rfl)
 rw [if_neg e19] at h
 by_cases e20 : key = ⟨#[109, 105, 110, 80, 114, 111, 112, 101, 114, 116, 105, 101, 115]⟩
 ·exact List.mem_of_getElem? (l := shKeys) (i := 20) (by rw [e20]; rfl)
 rw [if_neg e20] at h
 by_cases e21 : key = ⟨#[110, 111, 116]⟩
 ·exact List.mem_of_getElem? (l := shKeys) (i := 21) (by rw [e21]; rfl)
 rw [if_neg e21] at h
 by_cases e22 : key = ⟨#[97, 100, 100, 105, 116, 105, 111, 110, 97, 108, 73, 116, 101, 109, 115]⟩
 ·exact List.mem_of_getElem? (l := shKeys) (i := 22) (by rw [e22]; rfl)
 rw [if_neg e22] at h
 by_cases e23 : key = ⟨#[97, 100, 100, 105, 116, 105, 111, 110, 97, 108, 80, 114, 111, 112, 101, 114, 116, 105, 101, 115]⟩
 ·exact List.mem_of_getElem? (l := shKeys) (i := 23) (by rw [e23]; rfl)
 rw [if_neg e23] at h
 by_cases e24 : key = ⟨#[105, 116, 101, 109, 115]⟩
 ·exact List.mem_of_getElem? (l := shKeys) (i := 24) (by rw [e24]; rfl)
 rw [if_neg e24] at h
 by_cases e25 : key = ⟨#[114, 101, 113, 117, 105, 114, 101, 100]⟩
 ·exact List.mem_of_getElem? (l := shKeys) (i := 25) (by rw [e25]; rfl)
 rw [if_neg e25] at h
 by_cases e26 : key = ⟨#[112, 114, 111, 112, 101, 114, 116, 105, 101, 115]⟩
 ·exact List.mem_of_getElem? (l := shKeys) (i := 26) (by rw [e26]; rfl)
 rw [if_neg e26] at h
 by_cases e27 : key = ⟨#[112, 97, 116, 116, 101, 114, 110, 80, 114, 111, 112, 101, 114, 116, 105, 101, 115]⟩
 ·exact List.mem_of_getElem? (l := shKeys) (i := 27) (by rw [e27]; rfl)
 rw [if_neg e27] at h
 by_cases e28 : key = ⟨#[100, 101, 102, 105, 110, 105, 116, 105, 111, 110, 115]⟩
 ·exact List.mem_of_getElem? (l := shKeys) (i := 28) (by rw [e28]; rfl)
 rw [if_neg e28] at h
 by_cases e29 : key = ⟨#[100, 101, 112, 101, 110, 100, 101, 110, 99, 105, 101, 115]⟩
 ·exact List.mem_of_getElem? (l := shKeys) (i := 29) (by rw [e29]; rfl)
 rw [if_neg e29] at h
 by_cases e30 : key = ⟨#[101, 110, 117, 109]⟩
 ·exact List.mem_of_getElem? (l := shKeys) (i := 30) (by rw [e30]; rfl)
 rw [if_neg e30] at h
 by_cases e31 : key = ⟨#[116, 121, 112, 101]⟩
 ·exact List.mem_of_getElem? (l := shKeys) (i := 31) (by rw [e31]; rfl)
 rw [if_neg e31] at h
 by_cases e32 : key = ⟨#[97, 108, 108, 79, 102]⟩
 ·exact List.mem_of_getElem? (l := shKeys) (i := 32) (by rw [e32]; rfl)
 rw [if_neg e32] at h
 by_cases e33 : key = ⟨#[97, 110, 121, 79, 102]⟩
 ·exact List.mem_of_getElem? (l := shKeys) (i := 33) (by rw [e33]; rfl)
 rw [if_neg e33] at h
 by_cases e34 : key = ⟨#[111, 110, 101, 79, 102]⟩
 ·exact List.mem_of_getElem? (l := shKeys) (i := 34) (by rw [e34]; rfl)
 rw [if_neg e34] at h
 by_cases e35 : key = ⟨#[100, 101, 102, 97, 117, 108, 116]⟩
 ·exact List.mem_of_getElem? (l := shKeys) (i := 35) (by rw [e35]; rfl)
 rw [if_neg e35] at h
 exact absurd rfl h
theorem sh_kw {key : ByteArray} (h0 : kwIdx key = 0) : shapeOf key = 0 ∨ isQuiet key = true := by
  by_cases h : shapeOf key = 0
  · exact .inl h
  · have : ∀ k ∈ shKeys, kwIdx k = 0 → isQuiet k = true := by decide +kernel
    exact .inr (this key (sh_case h) h0)
theorem isWr_kw {key : ByteArray} : isWr key = true ↔ kwIdx key ≠ 0 ∧ kwIdx key ≠ 35 := by
 by_cases h0 : kwIdx key = 0
 ·have hk : isWr key = false := by
   unfold isWr isKw
   rcases sh_kw h0 with h | h <;> simp [h]
  rw [hk]; simp [h0]
 ·have hk := kw_key (key := key) rfl h0
  have hm := kw_range h0
  generalize hq : kwIdx key = q at *
  subst hk
  have : ∀ q ∈ List.range 37, kwIdx (keyOf q) = q → q ≠ 0 → (isWr (keyOf q) = true ↔ q ≠ 0 ∧ q ≠ 35) := by decide +kernel
  exact this q (List.mem_range.2 (by omega)) hq h0
theorem qP {α β : Type} {f : α → β} {l : List α} (h : (l.map f).Nodup) : l.Nodup := by
 rw [List.nodup_iff_pairwise_ne, List.pairwise_map] at h
 rw [List.nodup_iff_pairwise_ne]
 exact h.imp fun h e => h (congrArg f e)
theorem vR {v x : V} {key : ByteArray} (hp : Pl v) (hk : v.kind = 5) : (key, x) ∈ v.keys.zip v.items ↔ getV v key = some x := by
 constructor
 ·intro h
  exact prs_get (back := false) hp.wf hk (hp.keys hk) (p := (key, x)) h
 ·intro h
  exact mem_prs (back := false) hp.wf hk h
theorem out_wr (v : V) : Pl v → IsShape v → ∀ y, OutR v y → ∃ u, y = outY u ∧ srtV u = wr v ∧ Eql u := by
  refine V.indS (p := fun v => Pl v → IsShape v → ∀ y, OutR v y → ∃ u, y = outY u ∧ srtV u = wr v ∧ Eql u) (fun v IH hp hs y ho => ?_) v
  obtain ⟨L, rfl, hnd, hmem, hall⟩ := (outR_iff v y).1 ho
  have hk5 := hs.kind
  have hfit := ((vF v).1 hs).2
  obtain ⟨he, hl, hsort⟩ := qO hp hk5
  have hit : ∀ p ∈ L, ∃ w, ∃ x, getV v p.1 = some x ∧ p.2 = outY w ∧ srtV w = turnV (shapeOf p.1) wr x ∧ Eql w := by
    intro p hpm
    obtain ⟨h0, h35, x, hx, hi⟩ := hmem p hpm
    obtain ⟨j, hj1, hj2⟩ := qB hx
    obtain ⟨hf, hkid, _⟩ := hfit j _ _ hj1 hj2
    have hxm : x ∈ v.items := List.mem_of_getElem? hj2
    have hpl := hp.item x hxm
    rw [← vA h0] at hi
    obtain ⟨w, h1, h2, h3⟩ := item_wr hpl hf (fun y hy hyk z hz => by
      refine IH y ?_ ?_ (hkid y hyk) z hz
      · exact Nat.lt_of_le_of_lt (tK hyk) (xH hxm)
      · rcases hy with rfl | hy
        · exact hpl
        · exact hpl.item y hy) hi
    exact ⟨w, x, hx, h1, h2, h3⟩
  obtain ⟨ws, hws⟩ := rN hit
  have hkeys : (L.map Prod.fst).Nodup := by
    have : (L.map fun p => kwIdx p.1) = (L.map Prod.fst).map kwIdx := by rw [List.map_map]; rfl
    rw [this] at hnd
    exact qP hnd
  refine ⟨.mk 5 0 ⟨#[]⟩ (L.map Prod.fst) ws, ?_, ?_, .mk (fun _ => by rw [List.length_map]; exact hws.1) (all2_right hws fun p w ⟨_, _, _, _, h⟩ => h)⟩
  · rw [outY_m]
    have : L.map Prod.snd = ws.map outY := hws.map_eq fun p w _ _ ⟨x, _, h, _, _⟩ => h
    rw [← this]
    congr 2
    exact List.zip_of_prod rfl rfl
  · have hsrt : srtP ((L.map Prod.fst).zip (ws.map srtV)) = ((v.keys.zip v.items).filter (fun p => isWr p.1)).map (fun p => (p.1, turnV (shapeOf p.1) wr p.2)) := by
      have hzl : L.length = ws.length := hws.1
      have hpw : (((v.keys.zip v.items).filter (fun p => isWr p.1)).map (fun p => (p.1, turnV (shapeOf p.1) wr p.2))).Pairwise (fun a b => rl a.1 < rl b.1) := by
        rw [List.pairwise_map]
        exact (zip_pw hsort).sublist List.filter_sublist
      have hn1 : (((L.map Prod.fst).zip (ws.map srtV)).map Prod.fst).Nodup := by
        rw [uD (by simp; omega)]; exact hkeys
      refine srtP_eq ?_ (pw_le hpw) hn1
      refine (List.perm_ext_iff_of_nodup (qP (pw_fst hpw)) (qP hn1)).2 fun q => ?_
      constructor
      · intro hq
        obtain ⟨p, hpm, rfl⟩ := List.mem_map.1 hq
        obtain ⟨hz, hw⟩ := List.mem_filter.1 hpm
        have hx := (vR hp hk5).1 (show (p.1, p.2) ∈ _ from hz)
        obtain ⟨h0, h35⟩ := isWr_kw.1 hw
        obtain ⟨r, hr, hre⟩ := hall p.1 p.2 hx h0 h35
        obtain ⟨i, hi, rfl⟩ := List.getElem_of_mem hr
        obtain ⟨x, hx', _, h2, _⟩ := hws.2 i _ _ (List.getElem?_eq_getElem hi) (List.getElem?_eq_getElem (by omega))
        rw [hre] at hx' h2
        rw [hx] at hx'
        cases hx'
        have : ((L.map Prod.fst).zip (ws.map srtV))[i]'(by simp; omega) = (p.1, turnV (shapeOf p.1) wr p.2) := by
          rw [List.getElem_zip, List.getElem_map, List.getElem_map, hre, h2]
        rw [← this]
        exact List.getElem_mem _
      · intro hq
        obtain ⟨i, hi, rfl⟩ := List.getElem_of_mem hq
        simp only [List.length_zip, List.length_map] at hi
        rw [List.getElem_zip, List.getElem_map, List.getElem_map]
        obtain ⟨x, hx', _, h2, _⟩ := hws.2 i _ _ (List.getElem?_eq_getElem (by omega)) (List.getElem?_eq_getElem (by omega))
        rw [h2]
        obtain ⟨h0, h35, _⟩ := hmem L[i] (List.getElem_mem _)
        exact List.mem_map.2 ⟨(L[i].1, x), List.mem_filter.2 ⟨(vR hp hk5).2 hx', isWr_kw.2 ⟨h0, h35⟩⟩, rfl⟩
    rw [srtV_map hsrt, wr_eq]
    unfold filterV
    rw [List.map_map, List.map_map]
    rfl
end Go.Jw

namespace Go.Jw
open Go Go.RowKit Go.Proofs
set_option maxRecDepth 8000
def bs (l : List UInt8) : ByteArray := ⟨l.toArray⟩
theorem rl_bs (l : List UInt8) : rl (bs l) = l := rfl
theorem sz_rl (s : ByteArray) : s.size = (rl s).length := rfl
instance : Inhabited (List UInt8 → List UInt8) := ⟨fun _ => []⟩
def zV0 : V := .mk 0 0 ⟨#[]⟩ [] []
theorem qF (u : V) : (srtV u).kind = u.kind := by
 rw [srtV_eq]
 split
 ·rename_i h; exact h.symm
 ·rfl
theorem srt_item {u x : V} (he : Eql u) (h : x ∈ u.items) : srtV x ∈ (srtV u).items := by
 rw [srtV_eq]
 split
 ·rename_i h5
  have hl := he.len h5
  simp only [V.items]
  rw [((qC _).map Prod.snd).mem_iff, sJ (by rw [List.length_map]; exact Nat.le_of_eq hl.symm)]
  exact List.mem_map.2 ⟨x, h, rfl⟩
 ·exact List.mem_map.2 ⟨x, h, rfl⟩
theorem ju_scal {u : V} (hp : Pl (srtV u)) (h4 : u.kind ≠ 4) (h5 : u.kind ≠ 5) : Pl u ∧ srtV u = u := by
 have hs := qN hp (by rw [qF]; exact h4) (by rw [qF]; exact h5)
 obtain ⟨q, m, s, ks, ts⟩ := u
 simp only [V.kind] at h4 h5
 rw [srtV_no h5] at hs hp ⊢
 simp only [IsScal, V.kind, V.num, V.text, V.keys, V.items] at hs
 have : ts = [] := by simpa using hs.2.1
 subst this
 exact ⟨hp, rfl⟩
theorem ju_l {u : V} (hp : Pl (srtV u)) (he : Eql u) (h : u.kind = 4) : u = .mk 4 0 ⟨#[]⟩ [] u.items ∧ u.items.length ≤ 60 ∧ ∀ x ∈ u.items, Pl (srtV x) ∧ Eql x := by
 have h1 := plain_l hp (by rw [qF]; exact h)
 have h2 := hp.len
 have hit : ∀ x ∈ u.items, Pl (srtV x) ∧ Eql x := fun x hx => ⟨hp.item _ (srt_item he hx), he.item x hx⟩
 obtain ⟨q, m, s, ks, ts⟩ := u
 simp only [V.kind] at h
 subst h
 rw [srtV_no (by decide)] at h1 h2
 simp only [V.items, List.length_map] at h1 h2
 injection h1 with _ a b c _
 subst a; subst b; subst c
 exact ⟨rfl, h2, hit⟩
theorem ju_m {u : V} (hp : Pl (srtV u)) (he : Eql u) (h : u.kind = 5) : u = .mk 5 0 ⟨#[]⟩ u.keys u.items ∧ u.keys.length = u.items.length ∧ u.items.length ≤ 60 ∧ u.keys.Nodup ∧ (∀ k ∈ u.keys, IsWord k ∧ k ∈ (srtV u).keys) ∧ ∀ x ∈ u.items, Pl (srtV x) ∧ Eql x := by
 have h0 := hp.keys (by rw [qF]; exact h)
 obtain ⟨h1, hl, hs⟩ := qO hp (by rw [qF]; exact h)
 have h2 := hp.len
 have hle := he.len h
 have hit : ∀ x ∈ u.items, Pl (srtV x) ∧ Eql x := fun x hx => ⟨hp.item _ (srt_item he hx), he.item x hx⟩
 obtain ⟨q, m, s, ks, ts⟩ := u
 simp only [V.kind] at h
 subst h
 simp only [V.keys, V.items] at hle hit ⊢
 have hpk : ((srtP (ks.zip (ts.map srtV))).map Prod.fst).Perm ks := by
  have := (qC (ks.zip (ts.map srtV))).map Prod.fst
  rw [uD (by simp; omega)] at this
  exact this
 have hpi : ((srtP (ks.zip (ts.map srtV))).map Prod.snd).length = ts.length := by
  rw [List.length_map, (qC _).length_eq, List.length_zip, List.length_map]; omega
 rw [srtV_map rfl] at h0 h1 h2 hs ⊢
 simp only [V.keys, V.items] at h0 h1 h2 hs ⊢
 injection h1 with _ a b _ _
 subst a; subst b
 refine ⟨rfl, hle, by omega, hpk.nodup_iff.1 (lt_nodup hs), fun k hk => ?_, hit⟩
 have hk' := hpk.mem_iff.2 hk
 obtain ⟨i, hi, rfl⟩ := List.getElem_of_mem hk'
 exact ⟨(h0 i hi).1, hk'⟩
noncomputable def nodes : V → Nat := V.fix (α := Nat) (fun t f => 1 + (t.items.map f).sum)
theorem nodes_eq (t : V) : nodes t = 1 + (t.items.map nodes).sum := V.fix_eq (α := Nat) (G := fun t f => 1 + (t.items.map f).sum) (fun t g g' h => by
 have : t.items.map g = t.items.map g' := List.map_congr_left fun x hx => h x (xH hx)
 simp only [this]) t
end Go.Jw

namespace Go.Jw
open Go Go.RowKit Go.Proofs
set_option maxRecDepth 8000
end Go.Jw

namespace Go.Jw
open Go Go.RowKit Go.Proofs
set_option maxRecDepth 8000
theorem imk {q m : Int} {s : ByteArray} {ks : List ByteArray} {ts : List V} : (V.mk q m s ks ts).items = ts := rfl
theorem kmk {q m : Int} {s : ByteArray} {ks : List ByteArray} {ts : List V} : (V.mk q m s ks ts).kind = q := rfl
theorem ymk {q m : Int} {s : ByteArray} {ks : List ByteArray} {ts : List V} : (V.mk q m s ks ts).keys = ks := rfl
theorem ju_kind {u : V} (hp : Pl (srtV u)) : 0 ≤ u.kind ∧ u.kind ≤ 6 := by
  rw [← qF u]
  by_cases h : (srtV u).kind = 4 ∨ (srtV u).kind = 5
  · omega
  · have := qN hp (by omega) (by omega)
    simp only [IsScal] at this
    omega
theorem outY_kind {u : V} (h0 : 0 ≤ u.kind) (h6 : u.kind ≤ 6) : (outY u).kind = if u.kind = 4 then 2 else if u.kind = 5 then 4 else 8 := by
 rw [sO]
 split
 ·rename_i h; first | rfl | (rw [h]; rfl)
 split
 ·rename_i h; first | rfl | (rw [h]; rfl)
 split
 ·rename_i h; first | rfl | (rw [h]; rfl)
 split
 ·rename_i h; first | rfl | (rw [h]; rfl)
 split
 ·rename_i h; first | rfl | (rw [h]; rfl)
 split
 ·rename_i h; first | rfl | (rw [h]; rfl)
 ·rfl
theorem uM {α : Type} {l : List α} {i : Nat} {d : α} (h : i < l.length) : l.getD i d = l[i] := by rw [List.getD_eq_getElem?_getD, List.getElem?_eq_getElem h, Option.getD_some]
end Go.Jw

namespace Go.Jw
open Go Go.RowKit Go.Proofs
set_option maxRecDepth 8000
theorem keysOk_mk {ks : List ByteArray} (hw : ∀ k ∈ ks, IsWord k) (h : ks.Pairwise (fun a b => rl a < rl b)) : KeysOk ks := by
 intro i hi
 refine ⟨hw _ (List.getElem_mem hi), fun h0 => ?_⟩
 have hlt := (List.pairwise_iff_getElem.1 h) (i - 1) i (by omega) hi (by omega)
 refine ⟨?_, fun e => ?_⟩
 ·rw [less_lt, sX, sX]
  exact decide_eq_false fun h2 => List.lt_irrefl _ (List.lt_trans hlt h2)
 ·rw [e] at hlt
  exact List.lt_irrefl _ hlt
theorem keysOk_word {ks : List ByteArray} (h : KeysOk ks) : ∀ k ∈ ks, IsWord k := by
 intro k hk
 obtain ⟨i, hi, rfl⟩ := List.getElem_of_mem hk
 exact (h i hi).1
theorem plain_all {d : Nat} {g : V → V} {x : V} (h : ∀ y ∈ x.items, y.kind = 5 → ∀ d, IsPlain d y → IsPlain d (g y)) (hx : IsPlain d x) (hk : x.kind = 4 ∨ x.kind = 5) : IsPlain d (turnAll g x) := by
  obtain ⟨q, m, s, ks, ts⟩ := x
  cases d with
  | zero => exact absurd hx (tJ hk)
  | succ d =>
    obtain ⟨⟨h1, h2, h3⟩, h4, h5⟩ := (vD hk).1 hx
    unfold turnAll
    simp only [kmk, ymk, imk] at h hk ⊢
    refine (vD hk).2 ⟨⟨rfl, rfl, ?_⟩, by simpa using h4, fun y hy => ?_⟩
    · rw [List.length_map]; exact h3
    · obtain ⟨z, hz, rfl⟩ := List.mem_map.1 hy
      unfold mapKids
      split
      · rename_i hk5
        exact h z hz hk5 d (h5 z hz)
      · exact h5 z hz
theorem plain_turn {d : Nat} {sh : Int} {g : V → V} {x : V} (hf : FitLoc sh x) (h : ∀ y ∈ kidsOf sh x, ∀ d, IsPlain d y → IsPlain d (g y)) (hx : IsPlain d x) : IsPlain d (turnV sh g x) := by
 unfold turnV
 split
 ·rename_i h5
  exact h x (by simp [kidsOf, h5]) d hx
 split
 ·rename_i h6
  split
  ·rename_i hk
   exact h x (by rw [h6, kids6 hk]; simp) d hx
  ·exact hx
 split
 ·rename_i h7
  subst h7
  split
  ·rename_i hk
   exact h x (by rw [kids7 hk]; simp) d hx
  ·rename_i hk
   have hf' : x.kind = 5 ∨ (x.kind = 4 ∧ ∀ x' ∈ x.items, x'.kind = 5) := by simpa [FitLoc] using hf
   have h4 : x.kind = 4 ∧ ∀ x' ∈ x.items, x'.kind = 5 := hf'.elim (fun e => absurd e hk) id
   exact plain_all (fun y hy _ => h y (by rw [kids7l h4.1 h4.2]; exact hy)) hx (.inl h4.1)
 split
 ·rename_i h9
  rcases h9 with h9 | h9
  ·subst h9
   have hf' : x.kind = 5 ∧ ∀ x' ∈ x.items, x'.kind = 5 := by simpa [FitLoc] using hf
   exact plain_all (fun y hy _ => h y (by rw [kids9 hf'.2]; exact hy)) hx (.inr hf'.1)
  ·subst h9
   have hf' : x.kind = 4 ∧ ∀ x' ∈ x.items, x'.kind = 5 := by simpa [FitLoc] using hf
   exact plain_all (fun y hy _ => h y (by rw [kids13 hf'.2]; exact hy)) hx (.inl hf'.1)
 ·exact hx
theorem plain_wr (v : V) : IsShape v → ∀ d, IsPlain d v → IsPlain d (wr v) := by
  refine V.indS (p := fun v => IsShape v → ∀ d, IsPlain d v → IsPlain d (wr v)) (fun v IH hs d hp => ?_) v
  have hk5 := hs.kind
  have hfit := ((vF v).1 hs).2
  have hPl : Pl v := ⟨d, hp⟩
  have hko := hPl.keys hk5
  obtain ⟨he, hl, hsort⟩ := qO hPl hk5
  rw [wr_eq]
  unfold filterV
  cases d with
  | zero =>
    obtain ⟨q, m, s, ks, ts⟩ := v
    exact absurd hp (tJ (.inr hk5))
  | succ d =>
    have hpi : v.items.length ≤ 60 ∧ ∀ x ∈ v.items, IsPlain d x := by
      obtain ⟨q, m, s, ks, ts⟩ := v
      exact ((vD (.inr hk5)).1 hp).2
    have hfl : ((v.keys.zip v.items).filter (fun p => isWr p.1)).length ≤ v.items.length := by
      have := List.length_filter_le (fun p : ByteArray × V => isWr p.1) (v.keys.zip v.items)
      rw [List.length_zip] at this
      omega
    refine (vD (.inr rfl)).2 ⟨⟨rfl, rfl, .inr ⟨rfl, by simp, ?_⟩⟩, by rw [List.length_map]; omega, fun x hx => ?_⟩
    · refine keysOk_mk (fun k hk => ?_) ?_
      · obtain ⟨p, hpm, rfl⟩ := List.mem_map.1 hk
        exact keysOk_word hko _ (List.of_mem_zip (List.mem_filter.1 hpm).1).1
      · rw [List.pairwise_map]
        exact (zip_pw hsort).sublist List.filter_sublist
    · obtain ⟨p, hpm, rfl⟩ := List.mem_map.1 hx
      have hz := (List.mem_filter.1 hpm).1
      obtain ⟨j, hj1, hj2⟩ := qB ((vR hPl hk5).1 (show (p.1, p.2) ∈ _ from hz))
      obtain ⟨hf, hkid, _⟩ := hfit j _ _ hj1 hj2
      have hm := List.mem_of_getElem? hj2
      exact plain_turn hf (fun y hy d hd => IH y (Nat.lt_of_le_of_lt (tK hy) (xH hm)) (hkid y hy) d hd) (hpi.2 _ hm)
theorem pl_wr {v : V} (hs : IsShape v) (hp : Pl v) : Pl (wr v) := hp.elim fun d h => ⟨d, plain_wr v hs d h⟩
end Go.Jw

namespace Go.Jw
open Go Go.RowKit Go.Proofs
set_option maxRecDepth 8000
end Go.Jw

namespace Go.Jw
open Go Go.RowKit Go.Proofs Go.Sort
set_option maxRecDepth 20000
abbrev encN (p : Nat) : Value := .int .i64 (p : Int)
theorem siK (n : Nat) (h2 : 2 ≤ n) : Lib.swapperK n Tryz.t3 2 = 5 := by
 have a : Tryz.t3.hasPointers = false := by kernel_rfl
 have b : Tryz.t3.bytes = 8 := by kernel_rfl
 have c : (n == 0) = false := by simp; omega
 have d : (n == 1) = false := by simp; omega
 simp [Lib.swapperK, a, b, c, d]
theorem fun130 : Fun Tryz.prog 130 := ⟨_, Tryz.func130, by kernel_rfl, rfl⟩
theorem pM {α : Type} [Inhabited α] (encN : α → Value) (w : World) (m b : Nat) (d : Array α) (os : Array Obj) {k : Nat} (hk : k < w.heap.size) (hb : k ≠ b) : (grow (putRow encN (Sort.ahead w m) b 0 d) os).heap[k]? = w.heap[k]? := by
 have h1 : (putRow encN (Sort.ahead w m) b 0 d).heap[k]? = w.heap[k]? := by
  unfold putRow mapBlock
  simp only [heap_ahead]
  rw [Array.getElem?_modify]
  split
  ·rename_i h; exact absurd h.symm hb
  ·rfl
 show ((putRow encN (Sort.ahead w m) b 0 d).heap ++ os)[k]? = _
 rw [Array.getElem?_append_left (by rw [Go.Sort.size_putRow]; exact hk)]
 exact h1
theorem putRow_own {α : Type} [Inhabited α] (encN : α → Value) (w : World) (m b : Nat) (d : Array α) (os : Array Obj) {cur : Array Value} (hb : w.heap[b]? = some (.cells cur 3 (0, 0))) (hl : d.size ≤ cur.size) :
  ∃ cur', (grow (putRow encN (Sort.ahead w m) b 0 d) os).heap[b]? = some (.cells cur' 3 (0, 0)) ∧ cur'.size = cur.size ∧ cur'.toList.take d.size = d.toList.map encN := by
 have hlt := tF hb
 refine ⟨putCells encN 0 d cur, ?_, by simp [putCells], ?_⟩
 ·show ((putRow encN (Sort.ahead w m) b 0 d).heap ++ os)[b]? = _
  rw [Array.getElem?_append_left (by rw [Go.Sort.size_putRow]; exact hlt)]
  unfold putRow mapBlock
  simp only [heap_ahead]
  rw [Array.getElem?_modify, if_pos rfl, hb]
  rfl
 ·apply List.ext_getElem?
  intro i
  rw [List.getElem?_take]
  by_cases hi : i < d.size
  ·rw [if_pos hi]
   have : i < cur.size := by omega
   simp [putCells, hi, this]
  ·rw [if_neg hi, List.getElem?_eq_none (by simp; omega)]
theorem c130 (g : FuncId) (lb : Array Value) (b n c N : Nat) (ds : List Nat) (hds : ∀ x ∈ ds, x < N) (lt : Nat → Nat → Bool) (hO : SWO lt) (M2 : List HA) (D : List DA) (hsz : n < 4611686018427387904) (eg : ∀ args w, (callFunc g args).run Tryz.prog w = .ok (.enter g args) w)
    (hless : ∀ (W : World) (dk : List Nat), dk.length = n → (∀ x ∈ dk, x < N) → (∀ x ∈ M2, x.holds W) → (∀ j x, dk[j]? = some x → W.cell? ⟨b, j, none⟩ = some (encN x)) → (∃ ok, ∀ d ∈ D, d.p W ok) → ∀ (i j : Nat) (hi : i < dk.length) (hj : j < dk.length),
      Calls Tryz.prog g (#[.int .i64 i, .int .i64 j] ++ lb) W fun e w' => e = .returned (.bool (lt dk[i] dk[j])) ∧ ∃ q, w' = W.drewN q) :
    Ct Tryz.prog 130 #[.iface 139 (.slice (some ⟨b, 0, none⟩) n c), .func (.func g) #[] lb] (.row (some ⟨b, 0, none⟩) n c 3 1 (ds.map encN) :: M2) D
      (fun u M' D' => u = .tuple #[] ∧ (∃ ds' : List Nat, ds'.Perm ds ∧ ds'.Pairwise (fun x y => lt y x = false) ∧ M' = .row (some ⟨b, 0, none⟩) n c 3 1 (ds'.map encN) :: M2) ∧ D' = []) := by
  refine ⟨fun130, fun w ok hok hM hn hD => ?_⟩
  have hrow : w.ownsRow 0 3 1 (.slice (some ⟨b, 0, none⟩) n c) n (ds.map encN) := hM _ List.mem_cons_self
  obtain ⟨h1, h2⟩ := hrow
  have hdl : ds.length = n := by simpa using h1
  obtain ⟨cur, hb, hnc, hcm, hcs, hct⟩ : ∃ cur, w.heap[b]? = some (.cells cur 3 (0, 0)) ∧ n ≤ c ∧ c ≤ maxLen ∧ cur.size = c * 1 ∧ cur.toList.take (n * 1) = ds.map encN := by
    rcases h2 with ⟨h, _⟩ | ⟨g', cap, cur, hv, _, a1, a2, a3, a4, a5⟩
    · cases h
    · injection hv with e1 _ e3
      injection e1 with e1
      injection e1 with e1
      subst e1; subst e3
      exact ⟨cur, a1, a2, a3, a4, a5⟩
  have hblk : b < w.heap.size := tF hb
  have hfoot : foots (.row (some ⟨b, 0, none⟩) n c 3 1 (ds.map encN) :: M2) = b :: foots M2 := rfl
  rw [hfoot] at hn
  have hb2 : b ∉ foots M2 := (List.nodup_cons.1 hn).1
  have hfin : ∀ (w' : World) (ds' : List Nat), ds'.Perm ds → ds'.Pairwise (fun x y => lt y x = false) → Chg [b] w w' → (HA.row (some ⟨b, 0, none⟩) n c 3 1 (ds'.map encN)).holds w' →
      ∃ (v : Value) (M' : List HA) (D' : List DA), (Ending.returned (.tuple #[])) = .returned v ∧ (v = .tuple #[] ∧ (∃ ds' : List Nat, ds'.Perm ds ∧ ds'.Pairwise (fun x y => lt y x = false) ∧ M' = HA.row (some ⟨b, 0, none⟩) n c 3 1 (ds'.map encN) :: M2) ∧ D' = []) ∧ Chg (b :: foots M2) w w' ∧ (∀ h ∈ M', h.holds w') ∧ (foots M').Nodup ∧ (∀ q ∈ foots M', q ∈ b :: foots M2 ∨ w.heap.size ≤ q) ∧
      ∀ d ∈ D', d.p w' (fun k => (ok k ∨ w.heap.size ≤ k) ∧ k < w'.heap.size ∧ k ∉ foots M') := by
    intro w' ds' hp hs hc hh
    refine ⟨_, HA.row (some ⟨b, 0, none⟩) n c 3 1 (ds'.map encN) :: M2, [], rfl, ⟨rfl, ⟨ds', hp, hs, rfl⟩, rfl⟩, hc.mono (fun k _ hk => by rw [List.mem_singleton.1 hk]; exact List.mem_cons_self), ?_, hn, fun q hq => .inl hq, by simp⟩
    intro x hx
    rcases List.mem_cons.1 hx with rfl | hx2
    · exact hh
    · have hx0 := hM x (List.mem_cons_of_mem _ hx2)
      exact HA.move hx0 fun q hq => hc.block q (HA.foot_lt hx0 q hq) (by
        intro hqb
        rw [List.mem_singleton.1 hqb] at hq
        exact hb2 (tX.2 ⟨x, hx2, hq⟩))
  rcases Nat.lt_or_ge n 2 with h2n | h2n
  · have hK : Lib.swapperK n Tryz.t3 2 = n + 1 := by
      rcases Nat.eq_zero_or_pos n with h | h
      · subst h; simp [Lib.swapperK]
      · obtain rfl : n = 1 := by omega
        simp [Lib.swapperK]
    have hS := Any.sort_Slice_tiny Tryz.laysGg6 139 3 Tryz.t139 Tryz.t3 (yB Tryz.typeInfo139) (by kernel_rfl) (by kernel_rfl) (yB Tryz.typeInfo3) 2 (fun _ => by kernel_rfl) (some ⟨b, 0, none⟩) n c (by omega) (196 + n) (by
      rw [hK]
      rcases Nat.eq_zero_or_pos n with h | h
      · subst h; kernel_rfl
      · obtain rfl : n = 1 := by omega
        kernel_rfl) (.func g) #[] lb w
    refine Calls.mono hS ?_
    rintro e w' ⟨rfl, os, rfl⟩
    refine hfin _ ds (.refl _) ?_ ⟨rfl, rfl, rfl, by simp [grow], fun k hk _ => ?_⟩ ?_
    · match ds, hdl with
      | [], _ => exact .nil
      | [x], _ => simp
      | _ :: _ :: _, h => simp at h; omega
    · show (w.heap ++ os)[k]? = _
      exact Array.getElem?_append_left hk
    · refine ⟨h1, .inr ⟨b, c, cur, rfl, Nat.zero_le _, ?_, hnc, hcm, hcs, hct⟩⟩
      show (w.heap ++ os)[b]? = _
      rw [Array.getElem?_append_left hblk]
      exact hb
  · have hcell : ∀ j x, ds[j]? = some x → w.cell? ⟨b, j, none⟩ = some (encN x) := by
      intro j x hj
      have hlt := (List.getElem?_eq_some_iff.1 hj).1
      have h3 : (cur.toList.take (n * 1))[j]? = some (encN x) := by rw [hct, List.getElem?_map, hj]; rfl
      rw [List.getElem?_take, if_pos (by omega)] at h3
      simp only [World.cell?, hb]
      simpa using h3
    have hN : 0 < N := by
      match ds, hdl, hds with
      | [], h, _ => simp at h; omega
      | x :: _, _, h => exact Nat.lt_of_le_of_lt (Nat.zero_le _) (h x List.mem_cons_self)
    letI : Inhabited (Fin N) := ⟨⟨0, hN⟩⟩
    let encF : Fin N → Value := fun x => encN x.1
    let fs : List (Fin N) := ds.pmap (fun x h => ⟨x, h⟩) hds
    have hfs : fs.map (fun x => x.1) = ds := by
      show (ds.pmap (fun x h => (⟨x, h⟩ : Fin N)) hds).map (fun x => x.1) = ds
      rw [List.map_pmap]
      simp
    have hfl : fs.length = n := by rw [← hdl, ← hfs, List.length_map]
    have hval : ∀ l : List (Fin N), (l.map fun x => x.1).map encN = l.map encF := fun l => by rw [List.map_map]; rfl
    have hlto : ∀ l : List (Fin N), ∀ x ∈ l.map (fun x => x.1), x < N := fun l x hx => by
      obtain ⟨y, _, rfl⟩ := List.mem_map.1 hx
      exact y.2
    have hH : Holds encF w b 0 fs.toArray := by
      intro j hj
      have hj' : j < fs.length := by simpa using hj
      refine ⟨?_, ?_⟩
      · rw [Nat.zero_add, hcell j fs[j].1 (by rw [← hfs, List.getElem?_map, List.getElem?_eq_getElem hj']; rfl)]
        simp [hj', encF]
      · simp [World.frozen?, hb]
    have hL : LessReads Tryz.prog g lb encF (fun x y => lt x.1 y.1) b 0 fs.toArray.size w := by
      intro m os dk hs i j hi hj
      have hs' : dk.size = n := by rw [hs]; simpa using hfl
      obtain ⟨cur', a1, a2, a3⟩ := putRow_own encF w m b dk os hb (by omega)
      have key := hless (sortWorld encF w b 0 m dk os) (dk.toList.map fun x => x.1) (by simpa using hs') (hlto _) (fun x hx => by
        have hx0 := hM x (List.mem_cons_of_mem _ hx)
        exact HA.move hx0 fun q hq => pM encF w m b dk os (HA.foot_lt hx0 q hq) (by rintro rfl; exact hb2 (tX.2 ⟨x, hx, hq⟩))) (fun q x hq => by
        have hlt := (List.getElem?_eq_some_iff.1 hq).1
        have h3 : (cur'.toList.take dk.size)[q]? = some (encN x) := by rw [a3, ← hval, List.getElem?_map, hq]; rfl
        rw [List.getElem?_take, if_pos (by simpa using hlt)] at h3
        show World.cell? (grow (putRow encF (Sort.ahead w m) b 0 dk) os) _ = _
        simp only [World.cell?, a1]
        simpa using h3) ⟨ok, fun d hd => d.mono (fun k hk => hk) (fun k hk => pM encF w m b dk os (hok k hk).1 (by rintro rfl; exact (hok k hk).2 (by rw [hfoot]; exact List.mem_cons_self))) (hD d hd)⟩ i j (by simp at hi ⊢; omega) (by simp at hj ⊢; omega)
      have hi' : i < dk.size := by simp at hi; omega
      have hj' : j < dk.size := by simp at hj; omega
      have e1 : dk[i]! = dk.toList[i]'(by simpa using hi') := by simp [hi']
      have e2 : dk[j]! = dk.toList[j]'(by simpa using hj') := by simp [hj']
      rw [e1, e2]
      simpa using key
    have hO' : SWO (fun x y : Fin N => lt x.1 y.1) := ⟨fun x => hO.irrefl _, fun x y z => hO.trans _ _ _, fun x y z => hO.ntrans _ _ _⟩
    have hS := Any.sort_Slice_sorted Tryz.laysGg6 139 3 Tryz.t139 Tryz.t3 (yB Tryz.typeInfo139) (by kernel_rfl) (by kernel_rfl) (yB Tryz.typeInfo3) 2 (fun _ => by kernel_rfl) (by kernel_rfl) (fun _ => by kernel_rfl) encF (fun _ => rfl) (fun x y => lt x.1 y.1) hO' g lb eg b 0 c fs.toArray (by simp; omega) (by simp; omega) 200
      (by rw [siK _ (by simp; omega)]; kernel_rfl) true (fun args W => run_callFunc_extern Tryz.func200 (by kernel_rfl) (by kernel_rfl) (by kernel_rfl) (e := Extern.ReflectliteSwapper.swap true) (by kernel_rfl) args W) w hL hH hblk
    have e0 : fs.toArray.size = n := by simpa using hfl
    rw [e0] at hS
    refine Calls.mono hS ?_
    rintro e w' ⟨rfl, d', m, os, hp, hs, rfl⟩
    have hd' : d'.size = n := by rw [hp.1, e0]
    obtain ⟨cur', a1, a2, a3⟩ := putRow_own encF w m b d' os hb (by omega)
    refine hfin _ (d'.toList.map fun x => x.1) ?_ ?_ ⟨rfl, rfl, rfl, by simp [grow], fun k hk hkb => pM encF w m b d' os hk (by simpa using hkb)⟩ ?_
    · have := hp.2.2
      have e3 : d'.extract 0 n = d' := by rw [← hd']; simp
      have e4 : fs.toArray.extract 0 n = fs.toArray := by rw [← e0]; simp
      rw [e3, e4] at this
      have h2 := this.map (fun x : Fin N => x.1)
      simp only [] at h2
      rw [hfs] at h2
      exact h2
    · rw [List.pairwise_map, List.pairwise_iff_getElem]
      intro i j hi hj hij
      have := hs i j (Nat.zero_le _) hij (by simp at hj; omega)
      have e1 : d'[i]! = d'.toList[i] := by simp at hi; simp [hi]
      have e2 : d'[j]! = d'.toList[j] := by simp at hj; simp [hj]
      rw [e1, e2] at this
      exact this
    · refine ⟨by simp [hd'], .inr ⟨b, c, cur', rfl, Nat.zero_le _, a1, hnc, hcm, by rw [a2, hcs], ?_⟩⟩
      rw [Nat.mul_one, ← hd', hval]
      exact a3
end Go.Jw

namespace Go.Jw
open Go Go.RowKit Go.Proofs
set_option maxRecDepth 8000
section rules
variable {P : Program} {n : Nat} {F : List Nat} {c : Ctx F} {ops : Array Oper} {d : Nat} {T : TypeId} {l : List Oper} {k : List KI} {Q : Post} {e : Env} {M : List HA} {D : List DA}
theorem run_end0 {fn : Func} {R : Value → List HA → List DA → Prop} {M' : List HA} {D' : List DA} (hr : fn.results = #[]) (hR : R (.tuple #[]) M' D') (hM : List.Sublist M' M) (hD : ∀ d ∈ D', d ∈ D) : Run P n c [] (RetQ P c fn R) e M D := by
 intro a w hf
 have hsub := pO hM
 have hres : (results fn a.tmps).run P w = .ok (.tuple #[]) w := by simp [results, hr]
 refine ⟨hf.defers, .tuple #[], hres, .tuple #[], M', D', rfl, hR, hf.chg, fun x hx => hf.own x (hM.mem hx), hf.nodup.sublist hsub, fun b hb => hf.foot b (hsub.mem hb), fun x hx => ?_⟩
 exact x.mono (fun q hq => ⟨hq.1, hq.2.1, fun h' => hq.2.2 (hsub.mem h')⟩) (fun _ _ => rfl) (hf.dat x (hD x hx))
end rules
def Sf (S : ByteArray) (p : Nat) (l : List UInt8) : Prop := (rl S).drop p = l ∧ p ≤ S.size
theorem Sf.size {S : ByteArray} {p : Nat} {l : List UInt8} (h : Sf S p l) : S.size = p + l.length := by
 have h1 := congrArg List.length h.1
 rw [List.length_drop, ← sz_rl] at h1
 have := h.2
 omega
theorem Sf.get {S : ByteArray} {p : Nat} {l : List UInt8} (h : Sf S p l) {i : Nat} (hi : i < l.length) (hs : p + i < S.size) : S[p + i] = l[i] := by
 have h1 : ((rl S).drop p)[i]? = l[i]? := by rw [h.1]
 rw [List.getElem?_drop, List.getElem?_eq_getElem hi] at h1
 have h2 : (rl S)[p + i]? = some S[p + i] := by
  have h3 : p + i < (rl S).length := by rw [← sz_rl]; exact hs
  rw [List.getElem?_eq_getElem h3]
  rfl
 rw [h2] at h1
 exact Option.some.inj h1
theorem Sf.zero (l : List UInt8) : Sf (bs l) 0 l := ⟨by rw [rl_bs]; rfl, Nat.zero_le _⟩
def isBl (b : UInt8) : Prop := b.toNat = 32 ∨ b.toNat = 10 ∨ b.toNat = 9 ∨ b.toNat = 13
def Blanks (l : List UInt8) : Prop := ∀ b ∈ l, isBl b
end Go.Jw

namespace Go.Jw
open Go Go.RowKit Go.Proofs
set_option maxRecDepth 8000
theorem strOf_bytes (s : List UInt8) : strOfNums (s.map fun b => (b.toNat : Int)) = bs s := by
 unfold strOfNums bs
 congr 1
 apply Array.ext'
 simp only [List.map_toArray, List.map_map]
 conv => rhs; rw [← List.map_id s]
 refine List.map_congr_left fun b _ => ?_
 simp
section rules
variable {P : Program} {n : Nat} {F : List Nat} {c : Ctx F} {ops : Array Oper} {d : Nat} {T : TypeId} {l : List Oper} {k : List KI} {Q : Post} {e : Env} {M : List HA} {D : List DA}
theorem op_convBS (i : Nat) {x : Operand} {A : Option Addr} {m cap : Nat} {S S' E : TypeId} {s : List UInt8} (hs : P.underlying S = some (.slice E)) (he : P.underlying E = some (.int .u8)) (hd' : P.underlying S' = some .string) (hd : Nat.blt d n = true) (hx : ev e x = some (.slice A m cap)) (hi : M[i]? = some (.row A m cap E 1 (s.map fun b => .int .u8 (b.toNat : Int))))
    (next : RunOps P n c ops l k Q ((d, .string (bs s)) :: e) M D) : RunOp P n c ops (some d) (.convert S S' x) T l k Q e M D :=
  wI hd (fun a w hf => by
    have hrow := hf.toFitsW.mem hi
    obtain ⟨h1, h2, h3⟩ := uW hrow
    have hm : s.length = m := by have := hrow.1; simpa using this
    have hcv : (convert S S' (.slice A m cap)).run P w = .ok (.string (bs s)) w := by
      rcases hrow.2 with ⟨h, h0⟩ | ⟨g, cap', cur, hv, _, hc, hn, hmm, hcs, ht⟩
      · injection h with h4 h5 h6
        subst h4
        rw [run_convert_bytes_nil w S E hs he m cap S' hd']
        have : s = [] := List.eq_nil_of_length_eq_zero (by omega)
        subst this
        rfl
      · injection hv with h4 h5 h6
        subst h4; subst h6
        rw [run_convert_bytes_arg w S E hs he g 0 m cap (s.map fun b => (b.toNat : Int)) (by simpa using hm) (fun j hj => by
          obtain ⟨a', ha, _, hcell⟩ := h3 j (.int .u8 ((s[j]'(by omega)).toNat : Int)) (by rw [List.getElem?_map, List.getElem?_eq_getElem (by omega)]; rfl)
          cases ha
          rw [vJ] at hcell
          rw [hcell]
          simp [List.getD_eq_getElem?_getD, List.getElem?_map, List.getElem?_eq_getElem (show j < s.length by omega)]) S' hd', strOf_bytes]
    simp [execOp, opr, hf.ev hx, hcv]) next
end rules
end Go.Jw

namespace Go.Jw
open Go Go.RowKit Go.Proofs Go.Sort
set_option maxRecDepth 20000
def ltK (keys : List ByteArray) (a b : Nat) : Bool := decide (rl (keys.getD a ⟨#[]⟩) < rl (keys.getD b ⟨#[]⟩))
theorem ltK_swo (keys : List ByteArray) : SWO (ltK keys) := by
 refine ⟨fun x => ?_, fun x y z h1 h2 => ?_, fun x y z h1 h2 => ?_⟩
 ·exact decide_eq_false (List.lt_irrefl _)
 ·exact decide_eq_true (List.lt_trans (of_decide_eq_true h1) (of_decide_eq_true h2))
 ·have h3 := List.not_lt.1 (of_decide_eq_false h1)
  have h4 := List.not_lt.1 (of_decide_eq_false h2)
  exact decide_eq_false (List.not_lt.2 (List.le_trans h4 h3))
end Go.Jw

namespace Go.Jw
open Go Go.RowKit Go.Proofs
set_option maxRecDepth 8000
theorem Blanks.nil : Blanks [] := by intro b hb; cases hb
theorem Blanks.cons {b : UInt8} {l : List UInt8} (h : isBl b) (hl : Blanks l) : Blanks (b :: l) := by
 intro x hx
 rcases List.mem_cons.1 hx with rfl | hx
 ·exact h
 ·exact hl x hx
theorem places_srt {α : Type} (dflt : α) (ks : List ByteArray) (vs : List α) (ds : List Nat) (hl : ks.length = vs.length) (hn : ks.Nodup) (hp : ds.Perm (List.range ks.length)) (hs : ds.Pairwise (fun x y => ltK ks y x = false)) :
  srtP (ks.zip vs) = ds.map (fun i => (ks.getD i ⟨#[]⟩, vs.getD i dflt)) := by
 have hall : (List.range ks.length).map (fun i => (ks.getD i ⟨#[]⟩, vs.getD i dflt)) = ks.zip vs := by
  apply List.ext_getElem
  ·simp; omega
  ·intro i h1 h2
   simp only [List.length_map, List.length_range] at h1
   rw [List.getElem_map, List.getElem_range, List.getElem_zip, uM h1, uM (by omega)]
 refine srtP_eq ?_ ?_ ?_
 ·rw [← hall]
  exact hp.map _
 ·rw [List.pairwise_map]
  exact hs.imp fun h => List.not_lt.1 (of_decide_eq_false h)
 ·rw [uD (by omega)]; exact hn
theorem places_lt {n : Nat} {ds : List Nat} (hp : ds.Perm (List.range n)) : ∀ x ∈ ds, x < n := fun x hx => List.mem_range.1 (hp.mem_iff.1 hx)
theorem places_ne {ks : List ByteArray} {ds : List Nat} (hn : ks.Nodup) (hp : ds.Perm (List.range ks.length)) {i j : Nat} (hij : i < j) (hj : j < ds.length) : ks.getD (ds[i]'(by omega)) ⟨#[]⟩ ≠ ks.getD ds[j] ⟨#[]⟩ := by
  have h1 := places_lt hp _ (List.getElem_mem (show i < ds.length by omega))
  have h2 := places_lt hp _ (List.getElem_mem hj)
  rw [uM h1, uM h2]
  intro he
  have hnd : ds.Nodup := hp.nodup_iff.2 List.nodup_range
  have h3 := (List.getElem_inj hn).1 he
  have h4 := (List.getElem_inj hnd).1 h3
  omega
end Go.Jw

namespace Go.Jw
open Go Go.RowKit Go.Proofs
set_option maxRecDepth 8000
open Go.Sort (SWO)
section rules
variable {P : Program} {n : Nat} {F : List Nat} {c : Ctx F} {ops : Array Oper} {d : Nat} {T : TypeId} {l : List Oper} {k : List KI} {Q : Post} {e : Env} {M : List HA} {D : List DA}
theorem op_makeIface {x : Operand} {v : Value} {S : TypeId} (hS : P.concrete S = true) (hd : Nat.blt d n = true) (hx : ev e x = some v) (next : RunOps P n c ops l k Q ((d, .iface S v) :: e) M D) : RunOp P n c ops (some d) (.makeInterface S x) T l k Q e M D :=
 wI hd (fun a w hf => by
  have := run_makeInterface (P := P) (w := w) S v hS
  simp [execOp, opr, hf.ev hx, this]) next
theorem run_rowA (i : Nat) {A : Option Addr} {m cap U sz : Nat} {xs : List Value} (hi : M[i]? = some (.row A m cap U sz xs)) (h0 : m ≠ 0) (next : ∀ b, A = some ⟨b, 0, none⟩ → Run P n c k Q e M D) : Run P n c k Q e M D := by
 intro a w hf
 have hrow := hf.toFitsW.mem hi
 rcases hrow.2 with ⟨_, h⟩ | ⟨g, cap', cur, hv, _⟩
 ·exact absurd h h0
 ·injection hv with h4
  exact next g h4 a w hf
theorem row_at {w : World} (h : FitsW c M D w) {i j : Nat} {A : Addr} {m cap U : Nat} {xs : List Value} {v : Value} (hi : M[i]? = some (.row (some A) m cap U 1 xs)) (hv : xs[j]? = some v) : w.cell? (A.add (j * 1)) = some v := by
 obtain ⟨_, _, h3⟩ := uW (h.mem hi)
 obtain ⟨a, ha, _, hc⟩ := h3 j v hv
 cases ha
 rw [Nat.mul_one]
 exact hc
theorem row_atA {w : World} (h : FitsW c M D w) {i j : Nat} {A : Option Addr} {m cap U : Nat} {xs : List Value} {v : Value} (hi : M[i]? = some (.row A m cap U 1 xs)) (hv : xs[j]? = some v) : w.cell? (At A (j * 1)) = some v := by
 obtain ⟨_, _, h3⟩ := uW (h.mem hi)
 obtain ⟨a, ha, _, hc⟩ := h3 j v hv
 subst ha
 rw [Nat.mul_one]
 exact hc
end rules
theorem vO {α β : Type} {f : α → β} {ts : List α} {i : Nat} {x : β} (hi : i < ts.length) (hx : x = f ts[i]) : (ts.take i).map f ++ [x] = (ts.take (i + 1)).map f := by
 subst hx; exact tC hi
theorem take_get {α β : Type} {f : α → β} {ds : List α} {i j : Nat} (h : j < i) (hj : j < ds.length) : ((ds.take i).map f)[j]? = some (f ds[j]) := by
 rw [List.getElem?_map, List.getElem?_take, if_pos h, List.getElem?_eq_getElem hj]; rfl
section rules
variable {P : Program} {n : Nat} {F : List Nat} {c : Ctx F} {ops : Array Oper} {k : List KI} {Q : Post} {e : Env} {M : List HA} {D : List DA} {I : List (List Nat)} {S : List (List HA × List DA)} {listed : Array Bool} {fuel : Nat}
end rules

end Go.Jw

namespace Go.Jw
open Go Go.RowKit Go.Proofs
set_option maxRecDepth 8000
def headB (l : List UInt8) : UInt8 := match l with
  | [] => 0
  | b :: _ => b
structure Elem (R : Nat → List UInt8) (j : Nat) : Prop where
 ne : R j ≠ []
 bl : ¬ isBl (headB (R j))
 n93 : headB (R j) ≠ 93

end Go.Jw

namespace Go.Jw
open Go Go.RowKit Go.Proofs
set_option maxRecDepth 8000
end Go.Jw

namespace Go.Jw
open Go Go.RowKit Go.Proofs
set_option maxRecDepth 8000
theorem plain_norm (v : V) : IsShape v → ∀ d, IsPlain d v → IsPlain d (normalV v) := by
  refine V.indS (p := fun v => IsShape v → ∀ d, IsPlain d v → IsPlain d (normalV v)) (fun v IH hs d hp => ?_) v
  have hk5 := hs.kind
  have hfit := ((vF v).1 hs).2
  have hPl : Pl v := ⟨d, hp⟩
  have hko := hPl.keys hk5
  obtain ⟨he, hl, hsort⟩ := qO hPl hk5
  rw [rF]
  unfold filterV
  cases d with
  | zero =>
    obtain ⟨q, m, s, ks, ts⟩ := v
    exact absurd hp (tJ (.inr hk5))
  | succ d =>
    have hpi : v.items.length ≤ 60 ∧ ∀ x ∈ v.items, IsPlain d x := by
      obtain ⟨q, m, s, ks, ts⟩ := v
      exact ((vD (.inr hk5)).1 hp).2
    have hfl : ((v.keys.zip v.items).filter (fun p => isKw p.1)).length ≤ v.items.length := by
      have := List.length_filter_le (fun p : ByteArray × V => isKw p.1) (v.keys.zip v.items)
      rw [List.length_zip] at this
      omega
    refine (vD (.inr rfl)).2 ⟨⟨rfl, rfl, .inr ⟨rfl, by simp, ?_⟩⟩, by rw [List.length_map]; omega, fun x hx => ?_⟩
    · refine keysOk_mk (fun k hk => ?_) ?_
      · obtain ⟨p, hpm, rfl⟩ := List.mem_map.1 hk
        exact keysOk_word hko _ (List.of_mem_zip (List.mem_filter.1 hpm).1).1
      · rw [List.pairwise_map]
        exact (zip_pw hsort).sublist List.filter_sublist
    · obtain ⟨p, hpm, rfl⟩ := List.mem_map.1 hx
      have hz := (List.mem_filter.1 hpm).1
      obtain ⟨j, hj1, hj2⟩ := qB ((vR hPl hk5).1 (show (p.1, p.2) ∈ _ from hz))
      obtain ⟨hf, hkid, _⟩ := hfit j _ _ hj1 hj2
      have hm := List.mem_of_getElem? hj2
      exact plain_turn hf (fun y hy d hd => IH y (Nat.lt_of_le_of_lt (tK hy) (xH hm)) (hkid y hy) d hd) (hpi.2 _ hm)
end Go.Jw

namespace Go.Jw
open Go Go.RowKit
theorem uJ {m : Nat} (h : m < 18446744073709551616) : IntKind.u64.wrap (m : Int) = m := by
 have : ((m : Int) % 18446744073709551616) = m := by omega
 simpa [IntKind.wrap, IntKind.bits, IntKind.signed] using this
theorem eqGuard_float (op : BinOp) (t : TypeId) (x y : Operand) (kd kd' : FloatKind) (m n : Nat) (P : Program) (w : World) : (eqGuard op t x y (.float kd m) (.float kd' n)).run P w = .ok () w := by
 cases op <;> rfl
section rules
variable {P : Program} {n : Nat} {F : List Nat} {c : Ctx F} {ops : Array Oper} {d : Nat} {T : TypeId} {l : List Oper} {k : List KI} {Q : Post} {e : Env} {M : List HA} {D : List DA}
variable {x y : Operand} {S S' : TypeId}
theorem op_fl {op : BinOp} {m m' : Nat} {v : Value} (hd : Nat.blt d n = true) (hx : ev e x = some (.float .f64 m)) (hy : ev e y = some (.float .f64 m')) (hr : ∀ w, (binOp op S (.float .f64 m) (.float .f64 m')).run P w = .ok v w) (next : RunOps P n c ops l k Q ((d, v) :: e) M D) :
  RunOp P n c ops (some d) (.binOp op S x y S') T l k Q e M D :=
 wI hd (fun a w hf => by simp [execOp, opr, hf.ev hx, hf.ev hy, eqGuard_float, hr]) next
theorem op_fquo {m m' r : Nat} (hd : Nat.blt d n = true) (hx : ev e x = some (.float .f64 m)) (hy : ev e y = some (.float .f64 m')) (hr : Ieee.double.div m m' = some r) (next : RunOps P n c ops l k Q ((d, .float .f64 r) :: e) M D) : RunOp P n c ops (some d) (.binOp .quo S x y S') T l k Q e M D :=
 op_fl hd hx hy (fun w => run_float_arith w .quo S .f64 m m' r hr) next
theorem op_fmul {m m' r : Nat} (hd : Nat.blt d n = true) (hx : ev e x = some (.float .f64 m)) (hy : ev e y = some (.float .f64 m')) (hr : Ieee.double.mul m m' = some r) (next : RunOps P n c ops l k Q ((d, .float .f64 r) :: e) M D) : RunOp P n c ops (some d) (.binOp .mul S x y S') T l k Q e M D :=
 op_fl hd hx hy (fun w => run_float_arith w .mul S .f64 m m' r hr) next
theorem op_flss {m m' : Nat} {b : Bool} (hd : Nat.blt d n = true) (hx : ev e x = some (.float .f64 m)) (hy : ev e y = some (.float .f64 m')) (hr : (Ieee.double.order m m' == some .lt) = b) (next : RunOps P n c ops l k Q ((d, .bool b) :: e) M D) : RunOp P n c ops (some d) (.binOp .lss S x y S') T l k Q e M D :=
 op_fl hd hx hy (fun w => by subst hr; simp [binOp, Op.floatCmp, FloatKind.format]) next
theorem op_fgtr {m m' : Nat} {b : Bool} (hd : Nat.blt d n = true) (hx : ev e x = some (.float .f64 m)) (hy : ev e y = some (.float .f64 m')) (hr : (Ieee.double.order m m' == some .gt) = b) (next : RunOps P n c ops l k Q ((d, .bool b) :: e) M D) : RunOp P n c ops (some d) (.binOp .gtr S x y S') T l k Q e M D :=
 op_fl hd hx hy (fun w => by subst hr; simp [binOp, Op.floatCmp, FloatKind.format]) next
theorem op_feql {m m' : Nat} {b : Bool} (hd : Nat.blt d n = true) (hx : ev e x = some (.float .f64 m)) (hy : ev e y = some (.float .f64 m')) (hr : (Ieee.double.order m m' == some .eq) = b) (next : RunOps P n c ops l k Q ((d, .bool b) :: e) M D) : RunOp P n c ops (some d) (.binOp .eql S x y S') T l k Q e M D :=
 op_fl hd hx hy (fun w => by subst hr; simp [binOp, Op.floatCmp, FloatKind.format]) next
theorem op_fneq {m m' : Nat} {b : Bool} (hd : Nat.blt d n = true) (hx : ev e x = some (.float .f64 m)) (hy : ev e y = some (.float .f64 m')) (hr : (Ieee.double.order m m' != some .eq) = b) (next : RunOps P n c ops l k Q ((d, .bool b) :: e) M D) : RunOp P n c ops (some d) (.binOp .neq S x y S') T l k Q e M D :=
 op_fl hd hx hy (fun w => by subst hr; simp [binOp, Op.floatCmp, FloatKind.format]) next
theorem op_fneg {m r : Nat} (hd : Nat.blt d n = true) (hx : ev e x = some (.float .f64 m)) (hr : m ^^^ 2 ^ 63 = r) (next : RunOps P n c ops l k Q ((d, .float .f64 r) :: e) M D) : RunOp P n c ops (some d) (.unOp .neg S x) T l k Q e M D :=
 wI hd (fun a w hf => by
  subst hr
  simp [execOp, opr, hf.ev hx, Op.unary, Op.negFloat, FloatKind.format, Ieee.double]) next
theorem op_convIF {kd : IntKind} {m : Int} (hS : (P.underlying S).isSome = true) (hS' : P.underlying S' = some (.float .f64)) (hd : Nat.blt d n = true) (hx : ev e x = some (.int kd m)) (next : RunOps P n c ops l k Q ((d, .float .f64 (near (decide (m < 0)) m.natAbs 0)) :: e) M D) :
  RunOp P n c ops (some d) (.convert S S' x) T l k Q e M D :=
 wI hd (fun a w hf => by
  have := run_convert_int_float (P := P) (w := w) S S' kd .f64 m hS hS'
  simp [execOp, opr, hf.ev hx, this]
  rfl) next
theorem op_convFI {kd : IntKind} {m : Nat} {r : Int} (hS : (P.underlying S).isSome = true) (hS' : P.underlying S' = some (.int kd)) (hd : Nat.blt d n = true) (hx : ev e x = some (.float .f64 m)) (hr : (Ieee.double.read m).toInt .zero = some r) (h1 : kd.min ≤ r) (h2 : r ≤ kd.max)
  (next : RunOps P n c ops l k Q ((d, .int kd r) :: e) M D) : RunOp P n c ops (some d) (.convert S S' x) T l k Q e M D :=
 wI hd (fun a w hf => by
  have := run_convert_float_int (P := P) w S S' .f64 kd m r hS hS' (by unfold floatToIntVal; show (match (Ieee.double.read m).toInt .zero with | some n => if kd.min ≤ n ∧ n ≤ kd.max then some n else none | none => none) = _; rw [hr]; simp [h1, h2])
  simp [execOp, opr, hf.ev hx, this]) next
theorem op_convII {kd kd' : IntKind} {m r : Int} (hS : P.underlying S = some (.int kd)) (hS' : P.underlying S' = some (.int kd')) (hd : Nat.blt d n = true) (hx : ev e x = some (.int kd m)) (hr : kd'.wrap m = r)
  (next : RunOps P n c ops l k Q ((d, .int kd' r) :: e) M D) : RunOp P n c ops (some d) (.convert S S' x) T l k Q e M D :=
 wI hd (fun a w hf => by
  subst hr
  have : (convert S S' (.int kd m)).run P w = .ok (.int kd' (kd'.wrap m)) w := by simp [convert, run_underlying hS, run_underlying hS', Conv.intToInt]
  simp [execOp, opr, hf.ev hx, this]) next
theorem op_int' {op : BinOp} {kd kd' : IntKind} {m m' : Int} {v : Value} (hd : Nat.blt d n = true) (hx : ev e x = some (.int kd m)) (hy : ev e y = some (.int kd' m')) (hr : ∀ w, (binOp op S (.int kd m) (.int kd' m')).run P w = .ok v w) (next : RunOps P n c ops l k Q ((d, v) :: e) M D) :
  RunOp P n c ops (some d) (.binOp op S x y S') T l k Q e M D :=
 wI hd (fun a w hf => by simp [execOp, opr, hf.ev hx, hf.ev hy, rH, hr]) next
theorem tE {m : Nat} (h : m < 18446744073709551616) : (BitVec.ofInt 64 (m : Int)).toNat = m := by
 rw [BitVec.ofInt_natCast, BitVec.toNat_ofNat]; exact Nat.mod_eq_of_lt h
theorem op_andU {m m' r : Nat} (hd : Nat.blt d n = true) (hx : ev e x = some (.int .u64 (m : Int))) (hy : ev e y = some (.int .u64 (m' : Int))) (hm : m < 18446744073709551616) (hm' : m' < 18446744073709551616) (hr : m &&& m' = r) (next : RunOps P n c ops l k Q ((d, .int .u64 (r : Int)) :: e) M D) :
  RunOp P n c ops (some d) (.binOp .and S x y S') T l k Q e M D :=
 op_int' hd hx hy (fun w => by
  subst hr
  have h1 : m &&& m' < 18446744073709551616 := Nat.lt_of_le_of_lt Nat.and_le_left hm
  have h2 : (BitVec.ofInt IntKind.u64.bits (m : Int) &&& BitVec.ofInt IntKind.u64.bits (m' : Int)).toNat = m &&& m' := by
   have e1 := tE hm; have e2 := tE hm'; rw [BitVec.toNat_and]; show (BitVec.ofInt 64 _).toNat &&& (BitVec.ofInt 64 _).toNat = _; rw [e1, e2]
  simp only [binOp, Op.intBits, h2, uJ h1]
  rfl) next
theorem op_orU {m m' r : Nat} (hd : Nat.blt d n = true) (hx : ev e x = some (.int .u64 (m : Int))) (hy : ev e y = some (.int .u64 (m' : Int))) (hm : m < 18446744073709551616) (hm' : m' < 18446744073709551616) (hr : m ||| m' = r) (next : RunOps P n c ops l k Q ((d, .int .u64 (r : Int)) :: e) M D) :
  RunOp P n c ops (some d) (.binOp .or S x y S') T l k Q e M D :=
 op_int' hd hx hy (fun w => by
  subst hr
  have h1 : m ||| m' < 18446744073709551616 := Nat.or_lt_two_pow (n := 64) hm hm'
  have h2 : (BitVec.ofInt IntKind.u64.bits (m : Int) ||| BitVec.ofInt IntKind.u64.bits (m' : Int)).toNat = m ||| m' := by
   have e1 := tE hm; have e2 := tE hm'; rw [BitVec.toNat_or]; show (BitVec.ofInt 64 _).toNat ||| (BitVec.ofInt 64 _).toNat = _; rw [e1, e2]
  simp only [binOp, Op.intBits, h2, uJ h1]
  rfl) next
theorem op_shlU {yk : IntKind} {m s r : Nat} (hd : Nat.blt d n = true) (hx : ev e x = some (.int .u64 (m : Int))) (hy : ev e y = some (.int yk (s : Int))) (hs : s ≤ 64) (hr : m * 2 ^ s = r) (hr' : r < 18446744073709551616) (next : RunOps P n c ops l k Q ((d, .int .u64 (r : Int)) :: e) M D) :
  RunOp P n c ops (some d) (.binOp .shl S x y S') T l k Q e M D :=
 op_int' hd hx hy (fun w => by
  subst hr
  have h1 : min s IntKind.u64.bits = s := Nat.min_eq_left hs
  have h2 : ((m : Int) * 2 ^ s) = ((m * 2 ^ s : Nat) : Int) := by push_cast; rfl
  simp only [binOp, Op.shift, if_neg (show ¬ ((s : Int) < 0) by omega), Int.toNat_natCast, h1, h2, uJ hr']
  rfl) next
theorem op_shrU {yk : IntKind} {m s r : Nat} (hd : Nat.blt d n = true) (hx : ev e x = some (.int .u64 (m : Int))) (hy : ev e y = some (.int yk (s : Int))) (hs : s ≤ 64) (hr : m / 2 ^ s = r) (next : RunOps P n c ops l k Q ((d, .int .u64 (r : Int)) :: e) M D) :
  RunOp P n c ops (some d) (.binOp .shr S x y S') T l k Q e M D :=
 op_int' hd hx hy (fun w => by
  subst hr
  have h1 : min s IntKind.u64.bits = s := Nat.min_eq_left hs
  have h2 : (m : Int).fdiv (2 ^ s) = ((m / 2 ^ s : Nat) : Int) := by
   rw [Int.fdiv_eq_ediv_of_nonneg _ (by exact_mod_cast Nat.zero_le (2 ^ s))]; push_cast; rfl
  simp only [binOp, Op.shift, if_neg (show ¬ ((s : Int) < 0) by omega), Int.toNat_natCast, h1, h2]
  rfl) next
end rules
end Go.Jw

namespace Go.Jw
open Go Go.RowKit
theorem Kp_goto (P : Program) (Q : Post) (g : Nat) (a : Act) (w : World) : ∀ (k : List KI), Kp P k Q (.goto g) a w → Q (.goto g) a w
  | [], h => h
  | .code _ :: k, h => Kp_goto P Q g a w k h
  | .cont _ :: k, h => Kp_goto P Q g a w k h
  | .blk _ :: k, h => Kp_goto P Q g a w k h
theorem retQ_goto {F : List Nat} (P : Program) (c : Ctx F) (fn : Func) (R : Value → List HA → List DA → Prop) : ∀ g a w, ¬ RetQ P c fn R (.goto g) a w := fun g a w h => h
section rules
variable {P : Program} {n : Nat} {F : List Nat} {c : Ctx F} {ops : Array Oper} {d : Nat} {T : TypeId} {l : List Oper} {k : List KI} {Q : Post} {e : Env} {M : List HA} {D : List DA}
variable {x y : Operand} {S S' : TypeId}
theorem run_scope {z : Code} (hQ : ∀ g a w, ¬ Q (.goto g) a w) (h : Run P n c (.code z :: k) Q e M D) : Run P n c (.code (.scope z) :: k) Q e M D := fun a w hf =>
  wp_scope_straight (wp_mono (h a w hf) (fun e' a' w' h' => by
    cases e' with
    | goto g => exact (hQ g a' w' (Kp_goto P Q g a' w' k h')).elim
    | _ => exact h'))
theorem run_label {g : Nat} (h : Run P n c k Q e M D) : Run P n c (.code (.label g) :: k) Q e M D := fun a w hf => wp_label (h a w hf)
theorem op_eqT {b : Bool} (hS : P.underlying S = some .bool) (hd : Nat.blt d n = true) (hx : ev e x = some (.bool true)) (hy : ev e y = some (.bool b)) (next : RunOps P n c ops l k Q ((d, .bool b) :: e) M D) : RunOp P n c ops (some d) (.binOp .eql S x y S') T l k Q e M D :=
 wI hd (fun a w hf => by
  have h1 : (eqGuard .eql S x y (.bool true) (.bool b)).run P w = .ok () w := rfl
  have h2 : (binOp .eql S (.bool true) (.bool b)).run P w = .ok (.bool b) w := by rw [run_eql_bool w S true b hS]; simp
  simp [execOp, opr, hf.ev hx, hf.ev hy, h1, h2]) next
theorem op_min {m m' s : Int} {ts : Array TypeId} (hd : Nat.blt d n = true) (hx : ev e x = some (.int .i64 m)) (hy : ev e y = some (.int .i64 m')) (hs : min m m' = s) (next : RunOps P n c ops l k Q ((d, .int .i64 s) :: e) M D) :
  RunOp P n c ops (some d) (.call { callee := .builtin .min, args := #[x, y], argTypes := ts }) T l k Q e M D :=
 wI hd (fun a w hf => by
  subst hs
  have h1 : (if m' < m then m' else m) = min m m' := by split <;> omega
  simp [execOp, opr, resolve, invoke, builtin, hf.ev hx, hf.ev hy, run_min_int2, h1]) next
theorem op_max {m m' s : Int} {ts : Array TypeId} (hd : Nat.blt d n = true) (hx : ev e x = some (.int .i64 m)) (hy : ev e y = some (.int .i64 m')) (hs : max m m' = s) (next : RunOps P n c ops l k Q ((d, .int .i64 s) :: e) M D) :
  RunOp P n c ops (some d) (.call { callee := .builtin .max, args := #[x, y], argTypes := ts }) T l k Q e M D :=
 wI hd (fun a w hf => by
  subst hs
  have h1 : (if m < m' then m' else m) = max m m' := by split <;> omega
  simp [execOp, opr, resolve, invoke, builtin, hf.ev hx, hf.ev hy, run_max_int2, h1]) next
theorem op_addU {m m' r : Nat} (hd : Nat.blt d n = true) (hx : ev e x = some (.int .u64 (m : Int))) (hy : ev e y = some (.int .u64 (m' : Int))) (hr : m + m' = r) (hr' : r < 18446744073709551616) (next : RunOps P n c ops l k Q ((d, .int .u64 (r : Int)) :: e) M D) :
  RunOp P n c ops (some d) (.binOp .add S x y S') T l k Q e M D := by
 refine op_add hd hx hy ?_
 subst hr
 rw [show ((m : Int) + m') = ((m + m' : Nat) : Int) by omega, uJ hr']
 exact next
theorem op_subU {m m' r : Nat} (hd : Nat.blt d n = true) (hx : ev e x = some (.int .u64 (m : Int))) (hy : ev e y = some (.int .u64 (m' : Int))) (hle : m' ≤ m) (hr : m - m' = r) (hr' : r < 18446744073709551616) (next : RunOps P n c ops l k Q ((d, .int .u64 (r : Int)) :: e) M D) :
  RunOp P n c ops (some d) (.binOp .sub S x y S') T l k Q e M D := by
 refine op_sub hd hx hy ?_
 subst hr
 rw [show ((m : Int) - m') = ((m - m' : Nat) : Int) by omega, uJ hr']
 exact next
theorem op_mulU {m m' r : Nat} (hd : Nat.blt d n = true) (hx : ev e x = some (.int .u64 (m : Int))) (hy : ev e y = some (.int .u64 (m' : Int))) (hr : m * m' = r) (hr' : r < 18446744073709551616) (next : RunOps P n c ops l k Q ((d, .int .u64 (r : Int)) :: e) M D) :
  RunOp P n c ops (some d) (.binOp .mul S x y S') T l k Q e M D := by
 refine op_mul hd hx hy ?_
 subst hr
 rw [← Int.natCast_mul, uJ hr']
 exact next
theorem wrap_u8 {m : Nat} (h : m < 256) : IntKind.u8.wrap (m : Int) = m := by
 have : ((m : Int) % 256) = m := by omega
 simpa [IntKind.wrap, IntKind.bits, IntKind.signed] using this
theorem op_subU8 {m m' r : Nat} (hd : Nat.blt d n = true) (hx : ev e x = some (.int .u8 (m : Int))) (hy : ev e y = some (.int .u8 (m' : Int))) (hle : m' ≤ m) (hr : m - m' = r) (hr' : r < 256) (next : RunOps P n c ops l k Q ((d, .int .u8 (r : Int)) :: e) M D) :
  RunOp P n c ops (some d) (.binOp .sub S x y S') T l k Q e M D := by
 refine op_sub hd hx hy ?_
 subst hr
 rw [show ((m : Int) - m') = ((m - m' : Nat) : Int) by omega, wrap_u8 hr']
 exact next
theorem op_extern {fo : Operand} {ags : Array Operand} {ts : Array TypeId} {f : FuncId} {fn : Func} {ent : Array Value → Sem Value} {vs : List Value} {v : Value} (hF : P.funcs[f]? = some fn) (hname : (fn.name == "runtime.NumGoroutine") = false) (hb : fn.body.isNone = true) (hn : Extern.findNext fn = none) (he : Extern.find fn = some ent)
  (hd : Nat.blt d n = true) (hfo : ev e fo = some (.func (.func f) #[] #[])) (has : ags.toList.mapM (ev e) = some vs) (hr : ∀ w, (ent vs.toArray).run P w = .ok v w) (next : RunOps P n c ops l k Q ((d, v) :: e) M D) :
  RunOp P n c ops (some d) (.call { callee := .value fo, args := ags, argTypes := ts }) T l k Q e M D :=
 wI hd (fun a w hf => by
  have hargs : ags.map a.eval = vs.toArray := by
   apply Array.ext'
   simpa using mapEv hf has
  have h1 := run_callFunc_extern hF hname hb hn he vs.toArray w
  rw [hr w] at h1
  simp [execOp, opr, resolve, hf.ev hfo, Deferred.ofValue, invoke, hargs, h1]) next
theorem op_makeSliceC (m : Nat) {E sz by_ : Nat} (hS : SliceOf P S E sz by_) (hd : Nat.blt d n = true) (hx : ev e x = some (.int .i64 0)) (hy : ev e y = some (.int .i64 (m : Nat))) (hm : m ≤ 1000000) (hby : m * by_ ≤ 1000000)
  (next : ∀ b, RunOps P n c ops l k Q ((d, .slice (some ⟨b, 0, none⟩) 0 m) :: e) (.row (some ⟨b, 0, none⟩) 0 m E sz [] :: M) D) : RunOp P n c ops (some d) (.makeSlice S x y) T l k Q e M D := by
 obtain ⟨ti, z, hu, hinf, hs1, hb1, hz, hzs, hsz0⟩ := hS
 intro a w hf
 subst hs1; subst hb1
 have h63 : m ≤ maxLen := by unfold maxLen; omega
 have hbb : (ti.bytes : Int) * (m : Int) ≤ 281474976710656 := by
  have h1 : ((ti.bytes * m : Nat) : Int) ≤ 281474976710656 := by rw [Nat.mul_comm]; omega
  rwa [Int.natCast_mul] at h1
 have hr := run_make (P := P) w S E ti z hu hinf hz .i64 .i64 0 (m : Int) (Int.le_refl _) (by omega) hbb (by omega)
 simp only [Int.toNat_zero, Int.toNat_natCast] at hr
 have hrun : (execOp a.eval (opr (some d) (.makeSlice S x y) T)).run P w = .ok (.value (.slice (some ⟨w.heap.size, 0, none⟩) 0 m)) (w.alloc (.cells (madeCells z.cells (m * ti.size)) E)) := by
  simp only [execOp, opr, hf.ev hx, hf.ev hy, Sem.run_bind, hr, Result.andThen_ok, Sem.run_pure]
 unfold Oper.wp
 rw [hrun]
 have hx2 : (HA.row (some ⟨w.heap.size, 0, none⟩) 0 m E ti.size []).holds (w.alloc (.cells (madeCells z.cells (m * ti.size)) E)) := World.ownsRow_made w _ m (Nat.zero_le _) h63 (size_madeCells _ _)
 exact next w.heap.size _ _ ((hf.world (hf.toFitsW.new _ hx2 rfl)).put hd _)
end rules
def DA.cs (l : List (Addr × Value)) : DA := ⟨fun w ok => ∀ q ∈ l, ok q.1.block ∧ w.cell? q.1 = some q.2, fun {w w' ok ok'} h1 h2 h q hq => ⟨h1 _ (h q hq).1, by
 rw [tI (w := w) (w' := w') (a := q.1) (h2 _ (h q hq).1)]; exact (h q hq).2⟩⟩
section rules
variable {P : Program} {n : Nat} {F : List Nat} {c : Ctx F} {ops : Array Oper} {d : Nat} {T : TypeId} {l : List Oper} {k : List KI} {Q : Post} {e : Env} {M : List HA} {D : List DA}
theorem uX (j i : Nat) {x : Operand} {p : Addr} {v : Value} {q : List (Addr × Value)} (hT : Scalar P T) (hd : Nat.blt d n = true) (hx : ev e x = some (.pointer (some p))) (hj : D[j]? = some (.cs q)) (hi : q[i]? = some (p, v))
  (next : RunOps P n c ops l k Q ((d, v) :: e) M D) {T' : TypeId} : RunOp P n c ops (some d) (.load T x) T' l k Q e M D :=
 xD hT hd hx (fun _ h => ((h.dt hj : _) _ (List.mem_of_getElem? hi)).2) next
end rules
end Go.Jw

namespace Go.Jw
open Go Go.RowKit
def CellsOf (P : Program) (E sz : Nat) : Prop := ∃ ti, P.info? E = some ti ∧ ti.size = sz
section rules
variable {P : Program} {n : Nat} {F : List Nat} {c : Ctx F} {ops : Array Oper} {d : Nat} {T : TypeId} {l : List Oper} {k : List KI} {Q : Post} {e : Env} {M : List HA} {D : List DA}
variable {x y : Operand} {S S' : TypeId}
theorem sY {A : Addr} {i N E sz : Nat} {kd : IntKind} (hS : P.underlying S = some (.array N E)) (hE : CellsOf P E sz) (hd : Nat.blt d n = true) (hx : ev e x = some (.pointer (some A))) (hy : ev e y = some (.int kd (i : Nat))) (hi : i < N)
  (next : RunOps P n c ops l k Q ((d, .pointer (some (A.add (i * sz)))) :: e) M D) : RunOp P n c ops (some d) (.indexAddr S x y) T l k Q e M D := by
 obtain ⟨ti, hinf, hs⟩ := hE
 refine wI hd (fun a w hfit => ?_) next
 simp [execOp, opr, hfit.ev hx, hfit.ev hy, Instr.indexAt, Instr.sureAddr, asIntOf, run_underlying hS, wM hinf, hs, hi]
theorem op_sliceArr {A : Addr} {N E sz : Nat} (hS : P.underlying S = some (.array N E)) (hE : CellsOf P E sz) (hd : Nat.blt d n = true) (hx : ev e x = some (.pointer (some A)))
  (next : RunOps P n c ops l k Q ((d, .slice (some A) N N) :: e) M D) : RunOp P n c ops (some d) (.slice S x none none none) T l k Q e M D := by
 obtain ⟨ti, hinf, hs⟩ := hE
 refine wI hd (fun a w hfit => ?_) next
 have h0 : A.add 0 = A := by simp [Addr.add]
 simp [execOp, opr, hfit.ev hx, Instr.sliceAt, Instr.sureAddr, Instr.sliceBounds, run_underlying hS, wM hinf, h0]
theorem op_sliceHi {A : Option Addr} {m cap h E sz by_ : Nat} {kd : IntKind} (hS : SliceOf P S E sz by_) (hd : Nat.blt d n = true) (hx : ev e x = some (.slice A m cap)) (hy : ev e y = some (.int kd (h : Nat))) (hh : h ≤ cap) (h0 : 0 < cap)
  (next : RunOps P n c ops l k Q ((d, .slice A h cap) :: e) M D) : RunOp P n c ops (some d) (.slice S x none (some y) none) T l k Q e M D := by
 obtain ⟨ti, z, hu, hinf, hs, _⟩ := hS
 refine wI hd (fun a w hfit => ?_) next
 have hmap : A.map (fun q => q.add 0) = A := by cases A <;> simp [Addr.add]
 simp [execOp, opr, hfit.ev hx, hfit.ev hy, Instr.sliceAt, Instr.slice, Instr.sliceBounds, Instr.sliceBound, asIntOf, run_underlying hu, wM hinf, hh, hmap]
theorem op_shrI {yk : IntKind} {m r : Int} {s : Nat} (hd : Nat.blt d n = true) (hx : ev e x = some (.int .i64 m)) (hy : ev e y = some (.int yk (s : Nat))) (hs : s ≤ 64) (hr : m.fdiv (2 ^ s) = r) (next : RunOps P n c ops l k Q ((d, .int .i64 r) :: e) M D) :
  RunOp P n c ops (some d) (.binOp .shr S x y S') T l k Q e M D :=
 op_int' hd hx hy (fun w => by
  subst hr
  have h1 : min s IntKind.i64.bits = s := Nat.min_eq_left hs
  simp only [binOp, Op.shift, if_neg (show ¬ ((s : Int) < 0) by omega), Int.toNat_natCast, h1]
  rfl) next
end rules
end Go.Jw

namespace Go.Jw
open Go Go.RowKit
section bins
variable {P : Program} {S : TypeId}
theorem bin_quoU {m m' r : Nat} (h0 : m' ≠ 0) (hr : m / m' = r) (hr' : r < 18446744073709551616) (w : World) : (binOp .quo S (.int .u64 (m : Int)) (.int .u64 (m' : Int))).run P w = .ok (.int .u64 (r : Int)) w := by
 subst hr
 have h1 : ((m' : Int) = 0) = False := eq_false (by omega)
 have h2 : (m : Int).tdiv m' = ((m / m' : Nat) : Int) := (Int.ofNat_tdiv ..).symm
 simp [binOp, Op.intDiv, h0, h2]
 simpa using uJ hr'
theorem bin_remU {m m' r : Nat} (h0 : m' ≠ 0) (hr : m % m' = r) (w : World) : (binOp .rem S (.int .u64 (m : Int)) (.int .u64 (m' : Int))).run P w = .ok (.int .u64 (r : Int)) w := by
 subst hr
 have h2 : (m : Int).tmod m' = ((m % m' : Nat) : Int) := (Int.ofNat_tmod ..).symm
 simp [binOp, Op.intDiv, h0, h2]
theorem bin_andU {m m' r : Nat} (hm : m < 18446744073709551616) (hm' : m' < 18446744073709551616) (hr : m &&& m' = r) (w : World) : (binOp .and S (.int .u64 (m : Int)) (.int .u64 (m' : Int))).run P w = .ok (.int .u64 (r : Int)) w := by
 subst hr
 have h1 : m &&& m' < 18446744073709551616 := Nat.lt_of_le_of_lt Nat.and_le_left hm
 have h2 : (BitVec.ofInt IntKind.u64.bits (m : Int) &&& BitVec.ofInt IntKind.u64.bits (m' : Int)).toNat = m &&& m' := by
  have e1 := tE hm; have e2 := tE hm'; rw [BitVec.toNat_and]; show (BitVec.ofInt 64 _).toNat &&& (BitVec.ofInt 64 _).toNat = _; rw [e1, e2]
 simp only [binOp, Op.intBits, h2, uJ h1]
 rfl
theorem bin_orU {m m' r : Nat} (hm : m < 18446744073709551616) (hm' : m' < 18446744073709551616) (hr : m ||| m' = r) (w : World) : (binOp .or S (.int .u64 (m : Int)) (.int .u64 (m' : Int))).run P w = .ok (.int .u64 (r : Int)) w := by
 subst hr
 have h1 : m ||| m' < 18446744073709551616 := Nat.or_lt_two_pow (n := 64) hm hm'
 have h2 : (BitVec.ofInt IntKind.u64.bits (m : Int) ||| BitVec.ofInt IntKind.u64.bits (m' : Int)).toNat = m ||| m' := by
  have e1 := tE hm; have e2 := tE hm'; rw [BitVec.toNat_or]; show (BitVec.ofInt 64 _).toNat ||| (BitVec.ofInt 64 _).toNat = _; rw [e1, e2]
 simp only [binOp, Op.intBits, h2, uJ h1]
 rfl
theorem bin_andI {m m' r : Nat} (hm : m < 4294967296) (hm' : m' < 4294967296) (hr : m &&& m' = r) (w : World) : (binOp .and S (.int .i64 (m : Int)) (.int .i64 (m' : Int))).run P w = .ok (.int .i64 (r : Int)) w := by
 subst hr
 have h1 : m &&& m' < 4294967296 := Nat.lt_of_le_of_lt Nat.and_le_left hm
 have h2 : (BitVec.ofInt IntKind.i64.bits (m : Int) &&& BitVec.ofInt IntKind.i64.bits (m' : Int)).toNat = m &&& m' := by
  have e1 := tE (m := m) (by omega); have e2 := tE (m := m') (by omega); rw [BitVec.toNat_and]; show (BitVec.ofInt 64 _).toNat &&& (BitVec.ofInt 64 _).toNat = _; rw [e1, e2]
 simp only [binOp, Op.intBits, h2, uO (show -9223372036854775808 ≤ ((m &&& m' : Nat) : Int) by omega) (by omega)]
 rfl
theorem bin_shrU {yk : IntKind} {m s r : Nat} (hs : s ≤ 64) (hr : m / 2 ^ s = r) (w : World) : (binOp .shr S (.int .u64 (m : Int)) (.int yk (s : Int))).run P w = .ok (.int .u64 (r : Int)) w := by
 subst hr
 have h1 : min s IntKind.u64.bits = s := Nat.min_eq_left hs
 have h2 : (m : Int).fdiv (2 ^ s) = ((m / 2 ^ s : Nat) : Int) := by
  rw [Int.fdiv_eq_ediv_of_nonneg _ (by exact_mod_cast Nat.zero_le (2 ^ s))]; push_cast; rfl
 simp only [binOp, Op.shift, if_neg (show ¬ ((s : Int) < 0) by omega), Int.toNat_natCast, h1, h2]
 rfl
theorem bin_shlI {yk : IntKind} {m s r : Nat} (hs : s ≤ 64) (hr : m * 2 ^ s = r) (hr' : r < 4294967296) (w : World) : (binOp .shl S (.int .i64 (m : Int)) (.int yk (s : Int))).run P w = .ok (.int .i64 (r : Int)) w := by
 subst hr
 have h1 : min s IntKind.i64.bits = s := Nat.min_eq_left hs
 have h2 : ((m : Int) * 2 ^ s) = ((m * 2 ^ s : Nat) : Int) := by push_cast; rfl
 simp only [binOp, Op.shift, if_neg (show ¬ ((s : Int) < 0) by omega), Int.toNat_natCast, h1, h2, uO (show -9223372036854775808 ≤ ((m * 2 ^ s : Nat) : Int) by omega) (by omega)]
 rfl
theorem bin_subU {m m' r : Nat} (hle : m' ≤ m) (hr : m - m' = r) (hr' : r < 18446744073709551616) (w : World) : (binOp .sub S (.int .u64 (m : Int)) (.int .u64 (m' : Int))).run P w = .ok (.int .u64 (r : Int)) w := by
 subst hr
 have : IntKind.u64.wrap ((m : Int) - m') = ((m - m' : Nat) : Int) := by rw [show ((m : Int) - m') = ((m - m' : Nat) : Int) by omega, uJ hr']
 simp [binOp, Op.intArith, this]
end bins
section rules
variable {P : Program} {n : Nat} {F : List Nat} {c : Ctx F} {ops : Array Oper} {d : Nat} {T : TypeId} {l : List Oper} {k : List KI} {Q : Post} {e : Env} {M : List HA} {D : List DA}
variable {x y : Operand} {S S' : TypeId}
theorem op_bin {op : BinOp} {kd kd' : IntKind} {m m' : Int} {v : Value} (hr : ∀ w, (binOp op S (.int kd m) (.int kd' m')).run P w = .ok v w) (hd : Nat.blt d n = true) (hx : ev e x = some (.int kd m)) (hy : ev e y = some (.int kd' m')) (next : RunOps P n c ops l k Q ((d, v) :: e) M D) :
  RunOp P n c ops (some d) (.binOp op S x y S') T l k Q e M D := op_int' hd hx hy hr next
theorem sA {op : BinOp} {kd kd' : IntKind} {m m' : Int} {v : Value} (hr : ∀ w, (binOp op S (.int kd m) (.int kd' m')).run P w = .ok v w) (hx : ev e x = some (.int kd m)) (hy : ev e y = some (.int kd' m')) :
  St P n c (.binOp op S x y S') T e M D v :=
 fun _ a w hf => by simp [execOp, opr, hf.ev hx, hf.ev hy, rH, hr]
theorem st_convII {kd kd' : IntKind} {m r : Int} (hS : P.underlying S = some (.int kd)) (hS' : P.underlying S' = some (.int kd')) (hx : ev e x = some (.int kd m)) (hr : kd'.wrap m = r) : St P n c (.convert S S' x) T e M D (.int kd' r) :=
 fun _ a w hf => by
  subst hr
  have : (convert S S' (.int kd m)).run P w = .ok (.int kd' (kd'.wrap m)) w := by simp [convert, run_underlying hS, run_underlying hS', Conv.intToInt]
  simp [execOp, opr, hf.ev hx, this]
theorem st_sliceArr {A : Addr} {N E sz : Nat} (hS : P.underlying S = some (.array N E)) (hE : CellsOf P E sz) (hx : ev e x = some (.pointer (some A))) : St P n c (.slice S x none none none) T e M D (.slice (some A) N N) := by
 obtain ⟨ti, hinf, hs⟩ := hE
 intro _ a w hfit
 have h0 : A.add 0 = A := by simp [Addr.add]
 simp [execOp, opr, hfit.ev hx, Instr.sliceAt, Instr.sureAddr, Instr.sliceBounds, run_underlying hS, wM hinf, h0]
end rules
end Go.Jw

namespace Go.Jw
open Go Go.Lib
abbrev RSt := Nat × Nat × Int × Bool
def rfStep (st : RSt) (c : UInt8) : RSt :=
 if c = 46 then (st.1, st.2.1, (st.2.1 : Int), true) else if c = 48 ∧ st.2.1 = 0 then (st.1, st.2.1, st.2.2.1 - 1, st.2.2.2) else (st.1 * 10 + (c.toNat - 48), st.2.1 + 1, st.2.2.1, st.2.2.2)
def rf (l : List UInt8) : RSt := l.foldl rfStep (0, 0, 0, false)
theorem rf_snoc (l : List UInt8) (c : UInt8) : rf (l ++ [c]) = rfStep (rf l) c := by unfold rf; rw [List.foldl_append]; rfl
theorem rf_take {l : List UInt8} {i : Nat} (h : i < l.length) : rf (l.take (i + 1)) = rfStep (rf (l.take i)) l[i] := by
 rw [List.take_succ_eq_append_getElem h, rf_snoc]
def Dgt (c : UInt8) : Prop := 48 ≤ c.toNat ∧ c.toNat ≤ 57
theorem Dgt.ne {c : UInt8} (h : Dgt c) : c ≠ 46 := by rintro rfl; exact absurd h.1 (by decide)
structure Dec (l : List UInt8) : Prop where
 all : ∀ c ∈ l, c = 46 ∨ Dgt c
 one : l.count 46 ≤ 1
 len : l.length ≤ 18
theorem snocInd {α : Type} {p : List α → Prop} (h0 : p []) (h1 : ∀ l a, p l → p (l ++ [a])) (l : List α) : p l := by
  have : ∀ r : List α, p r.reverse := fun r => by
    induction r with
    | nil => exact h0
    | cons a r ih => rw [List.reverse_cons]; exact h1 _ _ ih
  have h := this l.reverse
  rwa [List.reverse_reverse] at h
theorem rf_app_lt : ∀ (l : List UInt8) (h : ∀ c ∈ l, c = 46 ∨ Dgt c), (rf l).1 < 10 ^ (rf l).2.1 ∧ (rf l).2.1 ≤ l.length ∧ ((rf l).2.2.2 = decide (46 ∈ l)) ∧ -(l.length : Int) ≤ (rf l).2.2.1 ∧ (rf l).2.2.1 ≤ l.length := by
  refine snocInd (fun _ => by simp [rf]) (fun l c ih h => ?_)
  · obtain ⟨h1, h2, h3, h4, h5⟩ := ih fun x hx => h x (by simp [hx])
    rw [rf_snoc]
    unfold rfStep
    rcases h c (by simp) with rfl | hd
    · rw [if_pos rfl]
      refine ⟨h1, by simp; omega, by simp, ?_, ?_⟩ <;> simp <;> omega
    · rw [if_neg hd.ne]
      have hne : (46 : UInt8) ≠ c := fun e => hd.ne e.symm
      split
      · refine ⟨h1, by simp; omega, by simp [h3, hne], ?_, ?_⟩ <;> simp <;> omega
      · refine ⟨?_, by simp; omega, by simp [h3, hne], ?_, ?_⟩
        · simp only [Nat.pow_succ]
          have := hd.2
          omega
        · simp; omega
        · simp; omega
theorem Dec.take {l : List UInt8} (h : Dec l) (i : Nat) : ∀ c ∈ l.take i, c = 46 ∨ Dgt c := fun c hc => h.all c (List.mem_of_mem_take hc)
theorem Dec.lt {l : List UInt8} (h : Dec l) (i : Nat) : (rf (l.take i)).1 < 1000000000000000000 ∧ (rf (l.take i)).2.1 ≤ 18 ∧ -18 ≤ (rf (l.take i)).2.2.1 ∧ (rf (l.take i)).2.2.1 ≤ 18 := by
 obtain ⟨h1, h2, _, h4, h5⟩ := rf_app_lt _ (h.take i)
 have h6 : (l.take i).length ≤ 18 := by rw [List.length_take]; have := h.len; omega
 have h7 : 10 ^ (rf (l.take i)).2.1 ≤ 10 ^ 18 := Nat.pow_le_pow_right (by omega) (by omega)
 exact ⟨by omega, by omega, by omega, by omega⟩
theorem Dec.nodot {l : List UInt8} (h : Dec l) {i : Nat} (hi : i < l.length) (hc : l[i] = 46) : (rf (l.take i)).2.2.2 = false := by
 rw [(rf_app_lt _ (h.take i)).2.2.1]
 simp only [decide_eq_false_iff_not]
 intro hm
 have h1 : l.count 46 = (l.take i).count 46 + (l.drop i).count 46 := by rw [← List.count_append, List.take_append_drop]
 have h2 : 0 < (l.take i).count 46 := List.count_pos_iff.2 hm
 have h3 : 0 < (l.drop i).count 46 := List.count_pos_iff.2 (by rw [List.drop_eq_getElem_cons hi, hc]; exact List.mem_cons_self)
 have := h.one
 omega
theorem qQ {d : Nat} (h : d < 10) : (UInt8.ofNat (48 + d)).toNat = 48 + d := by
 rw [UInt8.toNat_ofNat']; omega
theorem dig_dgt {d : Nat} (h : d < 10) : Dgt (UInt8.ofNat (48 + d)) := by unfold Dgt; rw [qQ h]; omega
theorem rP (u : Nat) : ∀ c ∈ decDigits u, Dgt c := by
  induction u using Nat.strongRecOn with
  | _ u ih =>
    rw [decDigits]
    split
    · rename_i h
      intro c hc
      rw [List.mem_singleton] at hc
      subst hc
      exact dig_dgt h
    · rename_i h
      intro c hc
      rcases List.mem_append.1 hc with hc | hc
      · exact ih (u / 10) (by omega) c hc
      · rw [List.mem_singleton] at hc
        subst hc
        exact dig_dgt (Nat.mod_lt _ (by omega))
theorem rf_dec (u : Nat) : rf (decDigits u) = if u = 0 then (0, 0, -1, false) else (u, nDigits u, 0, false) := by
  induction u using Nat.strongRecOn with
  | _ u ih =>
    rw [decDigits]
    split
    · rename_i h
      rw [nDigits_small h, ← List.nil_append [_], rf_snoc]
      unfold rfStep
      rw [if_neg (dig_dgt h).ne]
      by_cases h0 : u = 0
      · subst h0
        rfl
      · rw [if_neg (fun hh => h0 (by have := congrArg UInt8.toNat hh.1; rw [qQ h] at this; have h48 : (48 : UInt8).toNat = 48 := rfl; omega)), if_neg h0, qQ h]
        simp [rf]
    · rename_i h
      rw [rf_snoc, ih (u / 10) (by omega), if_neg (by omega), if_neg (by omega), nDigits_big h]
      have hm : u % 10 < 10 := Nat.mod_lt _ (by omega)
      unfold rfStep
      rw [if_neg (dig_dgt hm).ne, if_neg (fun hh => by have := nDigits_pos (u / 10); have h2 : nDigits (u / 10) = 0 := hh.2; omega), qQ hm]
      simp only [Prod.mk.injEq, and_true]
      omega
theorem rf_app (a b : List UInt8) : rf (a ++ b) = b.foldl rfStep (rf a) := by unfold rf; rw [List.foldl_append]
structure Frac (fr : List UInt8) (q k : Nat) : Prop where
 q3 : 0 < q ∧ q < 4
 k6 : 0 < k ∧ k ≤ 6
 all : ∀ c ∈ fr, c = 46 ∨ Dgt c
 one : fr.count 46 = 1
 len : fr.length = k + 1
 hd : fr.head? = some 46
 get : ∃ fv, 4 * fv = 10 ^ k * q ∧ ∀ (u n : Nat) (p : Int), fr.foldl rfStep (u, n, p, false) = (u * 10 ^ k + fv, n + k, (n : Int), true)
theorem all_dgt (l : List UInt8) (h : l.all (fun c => c == 46 || decide (48 ≤ c.toNat) && decide (c.toNat ≤ 57)) = true) : ∀ c ∈ l, c = 46 ∨ Dgt c := fun c hc => by
 have := List.all_eq_true.1 h c hc
 simp only [Bool.or_eq_true, beq_iff_eq, Bool.and_eq_true, decide_eq_true_eq] at this
 exact this
theorem frac_frac {q : Nat} (h0 : 0 < q) (h : q < 4) : ∃ k, Frac (frac q).data.toList q k ∧ (k = 1 ∨ k = 2) := by
  match q, h0, h with
  | 1, _, _ => exact ⟨2, ⟨by omega, by omega, all_dgt _ rfl, rfl, rfl, rfl, 25, rfl, fun u n p => by
      show List.foldl rfStep _ [46, 50, 53] = _
      simp [rfStep]; omega⟩, by omega⟩
  | 2, _, _ => exact ⟨1, ⟨by omega, by omega, all_dgt _ rfl, rfl, rfl, rfl, 5, rfl, fun u n p => by
      show List.foldl rfStep _ [46, 53] = _
      simp [rfStep]⟩, by omega⟩
  | 3, _, _ => exact ⟨2, ⟨by omega, by omega, all_dgt _ rfl, rfl, rfl, rfl, 75, rfl, fun u n p => by
      show List.foldl rfStep _ [46, 55, 53] = _
      simp [rfStep]; omega⟩, by omega⟩
theorem frac_frac6 {q : Nat} (h0 : 0 < q) (h : q < 4) : Frac (frac6 q).data.toList q 6 := by
  match q, h0, h with
  | 1, _, _ => exact ⟨by omega, by omega, all_dgt _ rfl, rfl, rfl, rfl, 250000, rfl, fun u n p => by
      show List.foldl rfStep _ [46, 50, 53, 48, 48, 48, 48] = _
      simp [rfStep]; omega⟩
  | 2, _, _ => exact ⟨by omega, by omega, all_dgt _ rfl, rfl, rfl, rfl, 500000, rfl, fun u n p => by
      show List.foldl rfStep _ [46, 53, 48, 48, 48, 48, 48] = _
      simp [rfStep]; omega⟩
  | 3, _, _ => exact ⟨by omega, by omega, all_dgt _ rfl, rfl, rfl, rfl, 750000, rfl, fun u n p => by
      show List.foldl rfStep _ [46, 55, 53, 48, 48, 48, 48] = _
      simp [rfStep]; omega⟩
theorem nDigits_le {u k : Nat} (h : u < 10 ^ k) (hk : 0 < k) : nDigits u ≤ k := by
  induction k generalizing u with
  | zero => omega
  | succ k ih =>
    by_cases h9 : u < 10
    · rw [nDigits_small h9]; omega
    · rw [nDigits_big h9]
      rcases Nat.eq_zero_or_pos k with rfl | hk'
      · omega
      · have := ih (u := u / 10) (by rw [Nat.pow_succ] at h; omega) hk'
        omega
theorem rf_quart {A : Nat} {fr : List UInt8} {k : Nat} (hA : A < 1000000000) (hf : Frac fr (A % 4) k) : Dec (decDigits (A / 4) ++ fr) ∧ ∃ m n : Nat, rf (decDigits (A / 4) ++ fr) = (m, n + k, (n : Int), true) ∧ m * 4 = 10 ^ k * A ∧ 0 < m ∧ m < 2 ^ 52 ∧ n ≤ 9 := by
 have hn : nDigits (A / 4) ≤ 9 := nDigits_le (by omega) (by omega)
 refine ⟨⟨fun c hc => ?_, ?_, ?_⟩, ?_⟩
 ·rcases List.mem_append.1 hc with hc | hc
  ·exact .inr (rP _ c hc)
  ·exact hf.all c hc
 ·rw [List.count_append, hf.one, List.count_eq_zero.2 (fun hm => (rP _ _ hm).ne rfl)]
  omega
 ·rw [List.length_append, decDigits_length, hf.len]
  have := hf.k6
  omega
 ·obtain ⟨fv, h4, hg⟩ := hf.get
  have hpk : 10 ^ k ≤ 10 ^ 6 := Nat.pow_le_pow_right (by omega) hf.k6.2
  have hp0 : 0 < 10 ^ k := Nat.pow_pos (by omega)
  have hm : (A / 4 * 10 ^ k + fv) * 4 = 10 ^ k * A := by
   rw [Nat.add_mul, Nat.mul_comm fv 4, h4, Nat.mul_comm (A / 4), Nat.mul_assoc, ← Nat.mul_add]
   congr 1; omega
  have hA0 : 0 < A := by have := hf.q3; omega
  have hm0 := Nat.mul_pos hp0 hA0
  have hm1 : 10 ^ k * A ≤ 10 ^ 6 * A := Nat.mul_le_mul_right A hpk
  rw [rf_app, rf_dec]
  split
  ·rename_i hz
   rw [hg]
   refine ⟨_, 0, rfl, ?_, ?_, ?_, by omega⟩
   ·rw [hz] at hm; exact hm
   ·rw [hz] at hm; omega
   ·rw [hz] at hm; omega
  ·rw [hg]
   exact ⟨_, _, rfl, hm, by omega, by omega, hn⟩
end Go.Jw

namespace Go.Jw
open Go Go.RowKit Go.Proofs
theorem inf342 : Tryz.prog.info? 342 = some Tryz.t342 := yB Tryz.typeInfo342
theorem ze342 : Zero Tryz.prog 342 (match Tryz.t342.zero with | some z => z.cells.toList | none => []) := ⟨Tryz.t342, _, inf342, rfl, rfl⟩
theorem fo342_0 : FieldOff Tryz.prog 342 0 0 := ⟨_, _, Tryz.t235, 0, Tryz.underlying342, rfl, rfl, yB Tryz.typeInfo235, rfl⟩
theorem fo342_1 : FieldOff Tryz.prog 342 1 1 := ⟨_, _, Tryz.t235, 0, Tryz.underlying342, rfl, rfl, yB Tryz.typeInfo235, rfl⟩
theorem fo342_2 : FieldOff Tryz.prog 342 2 2 := ⟨_, _, Tryz.t3, 0, Tryz.underlying342, rfl, rfl, yB Tryz.typeInfo3, rfl⟩
theorem inf359 : Tryz.prog.info? 359 = some Tryz.t359 := yB Tryz.typeInfo359
theorem si359 : ∃ i, Tryz.prog.info? 359 = some i ∧ i.size = 2 := ⟨_, inf359, rfl⟩
theorem fo359_0 : FieldOff Tryz.prog 359 0 0 := ⟨_, _, Tryz.t235, 0, Tryz.underlying359, rfl, rfl, yB Tryz.typeInfo235, rfl⟩
theorem fo359_1 : FieldOff Tryz.prog 359 1 1 := ⟨_, _, Tryz.t235, 0, Tryz.underlying359, rfl, rfl, yB Tryz.typeInfo235, rfl⟩
end Go.Jw

namespace Go.Jw
open Go Go.RowKit Go.Proofs
set_option maxRecDepth 8000
theorem ext_get {s : ByteArray} {i : Nat} (h : i < s.size) : ∃ h' : 0 < (s.extract i s.size).size, (s.extract i s.size)[0] = s[i] := by
 have hs : (s.extract i s.size).size = s.size - i := by simp
 refine ⟨by omega, ?_⟩
 simp [ByteArray.getElem_extract]
theorem dgt_int {c : UInt8} (h : Dgt c) : (48 : Int) ≤ (c.toNat : Int) ∧ (c.toNat : Int) ≤ 57 := by unfold Dgt at h; omega
def ftL (fb : Addr) : List (Addr × Value) := [(⟨4, 0, none⟩, .bool true), (⟨5, 0, none⟩, .int .u64 52), (⟨10, 0, none⟩, .slice (some fb) 23 23),
 (fb.add 1, .float .f64 4621819117588971520), (fb.add 2, .float .f64 4636737291354636288), (fb.add 6, .float .f64 4696837146684686336),
 (⟨11, 708, none⟩, .int .u64 17592186044416000000), (⟨11, 709, none⟩, .int .u64 0), (⟨11, 710, none⟩, .int .u64 10995116277760000000), (⟨11, 711, none⟩, .int .u64 0)] ++ (List.range 20).map fun i => (⟨0, i, none⟩, .int .u64 ((10 ^ i : Nat) : Int))
abbrev ftD (fb : Addr) : DA := .cs (ftL fb)

theorem c256 : CtV Tryz.prog 256 #[.int .u8 46] [] (.int .u8 46) := by
 refine Ct.of_run (args := [.int .u8 46]) Tryz.func256 (by kernel_rfl) rfl Tryz.ntmps256 rfl (fun c => ?_)
 refine zD (zB ?_)
 refine zA (zE rfl rfl ?_)
 refine zC (zD ?_)
 refine zB (zA ?_)
 refine zF rfl rfl (zA ?_)
 refine tY rfl rfl rfl (fun w => rfl) (zA ?_)
 refine zE rfl rfl (zC ?_)
 exact zK Tryz.results256 rfl ⟨rfl, rfl, rfl⟩ nS (fun _ h => by cases h)
theorem c292 (s p : ByteArray) (h : 0 < s.size) (hd : Dgt s[0]) (hp : 0 < p.size) (hp2 : ¬ Dgt p[0]) : CtV Tryz.prog 292 #[.string s, .string p] [] (.int .i64 0) := by
 refine Ct.of_run (args := [.string s, .string p]) Tryz.func292 (by kernel_rfl) rfl Tryz.ntmps292 rfl (fun c => ?_)
 have hd2 := dgt_int hd
 refine zD (zB ?_)
 refine zA (zE rfl rfl ?_)
 refine zC (zD ?_)
 refine zB (zA ?_)
 refine zF rfl rfl (zA ?_)
 refine vC st9 rfl rfl (zA ?_)
 refine zF rfl rfl (zA ?_)
 refine vC st9 rfl rfl (zA ?_)
 refine op_min rfl rfl rfl rfl (zA ?_)
 refine zE rfl rfl (zC ?_)
 refine zD (zD ?_)
 refine zB (zA ?_)
 refine zE rfl rfl (zC ?_)
 refine zO (zG [6, 5, 0, 1] ?_)
 change Run _ _ _ _ _ [(6, _), (5, _), (0, _), (1, _)] _ _
 refine wN 1 (fun (i : Nat) => i = 0) (fun (i : Nat) => [(6, .int .i64 ((i : Nat) : Int))]) (fun (i : Nat) => 0) 0 (rfl) (eC rfl (eN _)) ?_ (eC rfl (eC rfl (eC rfl (eN _))))
 intro i hI K hK
 change Run _ _ _ _ _ [(6, _), (5, _), (0, _), (1, _)] _ _
 subst hI
 refine zD (zD ?_)
 refine zB (zA ?_)
 refine zF rfl rfl (zA ?_)
 refine zF rfl rfl (zA ?_)
 refine vY rfl rfl rfl (zC ?_)
 refine yG rfl (decide_eq_true (by omega)) (zL ?_)
 refine zD (zO ?_)
 refine zD (zB ?_)
 refine zA (zF rfl rfl ?_)
 refine zA (zF rfl rfl ?_)
 refine zA (tA st9 rfl rfl rfl (by omega) ?_)
 refine zA (zE rfl rfl ?_)
 refine zC (zD ?_)
 refine zD (zB ?_)
 refine zA (zF rfl rfl ?_)
 refine zA (op_leq rfl rfl rfl ?_)
 refine zA (zF rfl rfl ?_)
 refine vG (s := 23) rfl (decide_eq_false (by omega)) (zI rfl rfl rfl rfl ?_)
 refine zI rfl rfl rfl rfl (zA ?_)
 refine zR rfl rfl rfl (zC ?_)
 refine zG [26, 7, 6, 5, 0, 1] ?_
 change Run _ _ _ _ _ [(26, _), (7, _), (6, _), (5, _), (0, _), (1, _)] _ _
 refine vB rfl (zL ?_)
 refine zD (zB ?_)
 refine zA (zF rfl rfl ?_)
 refine zA (zF rfl rfl ?_)
 refine zA (zF rfl rfl ?_)
 refine zA (tA st9 rfl rfl rfl (by omega) ?_)
 refine zA (op_neqN rfl rfl rfl ?_)
 refine zC (yG rfl (decide_eq_true (fun he => hp2 (by unfold Dgt at hd ⊢; omega))) ?_)
 refine zD (zB ?_)
 refine zA (zF rfl rfl ?_)
 refine zA (zE rfl rfl ?_)
 refine zC (zG [4] ?_)
 change Run _ _ _ _ _ [(4, _)] _ _
 exact zK Tryz.results292 rfl ⟨rfl, rfl, rfl⟩ nS (fun _ h => by cases h)
theorem c265d (s : ByteArray) (h : 0 < s.size) (hd : Dgt s[0]) : CtV Tryz.prog 265 #[.string s] [] (.tuple #[.float .f64 0, .int .i64 0, .bool false]) := by
 refine Ct.of_run (args := [.string s]) Tryz.func265 (by kernel_rfl) rfl Tryz.ntmps265 rfl (fun c => ?_)
 have hd2 := dgt_int hd
 refine zD (zB ?_)
 refine zA (zE rfl rfl ?_)
 refine zA (zE rfl rfl ?_)
 refine zA (zE rfl rfl ?_)
 refine zC (zD ?_)
 refine zD (zB ?_)
 refine zA (zF rfl rfl ?_)
 refine zA (vC st9 rfl rfl ?_)
 refine zA (yA rfl rfl rfl ?_)
 refine zC (yE rfl (decide_eq_false (by omega)) ?_)
 refine zL (zD ?_)
 refine zB (zA ?_)
 refine zE rfl rfl (zC ?_)
 refine zD (zB ?_)
 refine zA (zE rfl rfl ?_)
 refine zC (zD ?_)
 refine zD (zB ?_)
 refine zA (zF rfl rfl ?_)
 refine zA (tA (i := 0) st9 rfl rfl rfl h ?_)
 refine zC (zO ?_)
 refine zD (zO ?_)
 refine zD (zO ?_)
 refine zD (zO ?_)
 refine zD (zD ?_)
 refine zD (zD ?_)
 refine zB (zA ?_)
 refine yA rfl rfl rfl (zA ?_)
 refine zE rfl rfl (zC ?_)
 refine yE rfl (decide_eq_false (by omega)) (zB ?_)
 refine zA (yA rfl rfl rfl ?_)
 refine zA (zE rfl rfl ?_)
 refine zC (zG [13, 12, 6, 5, 0] ?_)
 change Run _ _ _ _ _ [(13, _), (12, _), (6, _), (5, _), (0, _)] _ _
 refine yE rfl (decide_eq_false (by omega)) (zL ?_)
 refine zD (zD ?_)
 refine zD (zB ?_)
 refine zA (yA rfl rfl rfl ?_)
 refine zA (zE rfl rfl ?_)
 refine zC (yE rfl (decide_eq_false (by omega)) ?_)
 refine zB (zA ?_)
 refine yA rfl rfl rfl (zA ?_)
 refine zE rfl rfl (zC ?_)
 refine yE rfl (decide_eq_false (by omega)) (zL ?_)
 refine zD (zD ?_)
 refine zB (zA ?_)
 refine yA rfl rfl rfl (zA ?_)
 refine zE rfl rfl (zC ?_)
 refine yE rfl (decide_eq_false (by omega)) (zB ?_)
 refine zA (yA rfl rfl rfl ?_)
 refine zA (zE rfl rfl ?_)
 refine zC (zG [19, 0] ?_)
 change Run _ _ _ _ _ [(19, _), (0, _)] _ _
 refine yE rfl (decide_eq_false (by omega)) (zL ?_)
 refine yL rfl (zD ?_)
 refine zB (zA ?_)
 refine zE rfl rfl (zA ?_)
 refine zE rfl rfl (zA ?_)
 refine zE rfl rfl (zC ?_)
 exact run_ret3 Tryz.results265 rfl rfl rfl ⟨rfl, rfl, rfl⟩ nS (fun _ h => by cases h)
theorem c265m (s : ByteArray) (h : 1 < s.size) (h0 : s[0] = 45) (hd : Dgt s[1]) : CtV Tryz.prog 265 #[.string s] [] (.tuple #[.float .f64 0, .int .i64 0, .bool false]) := by
 refine Ct.of_run (args := [.string s]) Tryz.func265 (by kernel_rfl) rfl Tryz.ntmps265 rfl (fun c => ?_)
 have hd2 := dgt_int hd
 have h45 : ((s[0].toNat : Nat) : Int) = 45 := by rw [h0]; rfl
 obtain ⟨hx1, hx2⟩ := ext_get h
 refine zD (zB ?_)
 refine zA (zE rfl rfl ?_)
 refine zA (zE rfl rfl ?_)
 refine zA (zE rfl rfl ?_)
 refine zC (zD ?_)
 refine zD (zB ?_)
 refine zA (zF rfl rfl ?_)
 refine zA (vC st9 rfl rfl ?_)
 refine zA (yA rfl rfl rfl ?_)
 refine zC (yE rfl (decide_eq_false (by omega)) ?_)
 refine zL (zD ?_)
 refine zB (zA ?_)
 refine zE rfl rfl (zC ?_)
 refine zD (zB ?_)
 refine zA (zE rfl rfl ?_)
 refine zC (zD ?_)
 refine zD (zB ?_)
 refine zA (zF rfl rfl ?_)
 refine zA (tA (i := 0) st9 rfl rfl rfl (by omega) ?_)
 refine zC (zO ?_)
 refine zD (zO ?_)
 refine zD (zO ?_)
 refine zD (zO ?_)
 refine zD (zD ?_)
 refine zD (zD ?_)
 refine zB (zA ?_)
 refine yA rfl rfl rfl (zA ?_)
 refine zE rfl rfl (zC ?_)
 refine yE rfl (decide_eq_false (by omega)) (zB ?_)
 refine zA (yA rfl rfl rfl ?_)
 refine zA (zE rfl rfl ?_)
 refine zC (zG [13, 12, 6, 5, 0] ?_)
 change Run _ _ _ _ _ [(13, _), (12, _), (6, _), (5, _), (0, _)] _ _
 refine yG rfl (decide_eq_true h45) (yL rfl ?_)
 refine zD (zD ?_)
 refine zB (zA ?_)
 refine zF rfl rfl (zA ?_)
 refine tA (i := 0) st9 rfl rfl rfl (by omega) (zA ?_)
 refine yA rfl rfl rfl (zC ?_)
 refine yG rfl (decide_eq_true h45) (zB ?_)
 refine zA (zE rfl rfl ?_)
 refine zC (zD ?_)
 refine zB (zA ?_)
 refine zE rfl rfl (zC ?_)
 refine zB (zA ?_)
 refine zF rfl rfl (zA ?_)
 refine op_sliceStrLo (i := 1) st9 rfl rfl rfl (by omega) (zA ?_)
 refine zE rfl rfl (zC ?_)
 refine zQ (zD ?_)
 refine zD (zB ?_)
 refine zA (zF rfl rfl ?_)
 refine zA (zY rfl rfl rfl (c292 (s.extract 1 s.size) ⟨#[105, 110, 102, 105, 110, 105, 116, 121]⟩ hx1 (by rw [hx2]; exact hd) (by decide) (by unfold Dgt; decide)) sub0 ?_)
 refine zA (zE rfl rfl ?_)
 refine zC (zG [7, 6, 5] ?_)
 change Run _ _ _ _ _ [(7, _), (6, _), (5, _)] _ _
 refine zD (zD ?_)
 refine zB (zA ?_)
 refine zF rfl rfl (zA ?_)
 refine vY rfl rfl rfl (zA ?_)
 refine zF rfl rfl (vG (s := 31) rfl (rfl) ?_)
 refine zI rfl rfl rfl rfl (zI rfl rfl rfl rfl ?_)
 refine zA (zR rfl rfl rfl ?_)
 refine zC (vB rfl ?_)
 refine zL (zD ?_)
 refine zB (zA ?_)
 refine zF rfl rfl (zA ?_)
 refine yA rfl rfl rfl (zA ?_)
 refine zF rfl rfl (vG (s := 37) rfl (rfl) ?_)
 refine zM rfl rfl (zF rfl rfl ?_)
 refine zM rfl rfl (yA rfl rfl rfl ?_)
 refine zA (zR rfl rfl rfl ?_)
 refine zC (zG [40, 7, 6, 5] ?_)
 change Run _ _ _ _ _ [(40, _), (7, _), (6, _), (5, _)] _ _
 refine yE rfl (rfl) (zL ?_)
 refine yL rfl (zD ?_)
 refine zB (zA ?_)
 refine zE rfl rfl (zA ?_)
 refine zE rfl rfl (zA ?_)
 refine zE rfl rfl (zC ?_)
 exact run_ret3 Tryz.results265 rfl rfl rfl ⟨rfl, rfl, rfl⟩ nS (fun _ h => by cases h)
end Go.Jw

namespace Go.Jw
open Go Go.RowKit Go.Proofs
set_option maxRecDepth 8000
theorem results_tmp7 {fn : Func} {t1 t2 t3 t4 t5 t6 t7 : Tmp} (h : fn.results = #[.tmp t1, .tmp t2, .tmp t3, .tmp t4, .tmp t5, .tmp t6, .tmp t7]) (tmps : Array Value) (P : Program) (w : World) :
  (results fn tmps).run P w = .ok (.tuple #[tmps.getD t1 undef, tmps.getD t2 undef, tmps.getD t3 undef, tmps.getD t4 undef, tmps.getD t5 undef, tmps.getD t6 undef, tmps.getD t7 undef]) w := by
 simp [results, h]
section rules
variable {P : Program} {n : Nat} {F : List Nat} {c : Ctx F} {k : List KI} {e : Env} {M : List HA} {D : List DA}
theorem run_ret7 {fn : Func} {R : Value → List HA → List DA → Prop} {t1 t2 t3 t4 t5 t6 t7 : Nat} {v1 v2 v3 v4 v5 v6 v7 : Value} {M' : List HA} {D' : List DA} (hr : fn.results = #[.tmp t1, .tmp t2, .tmp t3, .tmp t4, .tmp t5, .tmp t6, .tmp t7])
  (h1 : look e t1 = some v1) (h2 : look e t2 = some v2) (h3 : look e t3 = some v3) (h4 : look e t4 = some v4) (h5 : look e t5 = some v5) (h6 : look e t6 = some v6) (h7 : look e t7 = some v7) (hR : R (.tuple #[v1, v2, v3, v4, v5, v6, v7]) M' D') (hM : List.Sublist M' M) (hD : ∀ d ∈ D', d ∈ D) :
  Run P n c (.code .ret :: k) (RetQ P c fn R) e M D :=
 rQ (fun a w hf => by
  have := results_tmp7 hr a.tmps P w
  rw [this, vZ hf h1, vZ hf h2, vZ hf h3, vZ hf h4, vZ hf h5, vZ hf h6, vZ hf h7]) hR hM hD
end rules
structure NumTxt (s : ByteArray) (neg : Bool) (l : List UInt8) : Prop where
 at_ : Sf s neg.toNat l
 sign : ∀ h : 0 < s.size, s[0] = 45 ↔ neg = true
 dec : Dec l
 ne : 0 < l.length
 d0 : ∀ h : 0 < l.length, Dgt l[0]
 z : ∀ h : 1 < l.length, l[0] = 48 → l[1] = 46
theorem NumTxt.sz {s : ByteArray} {neg : Bool} {l : List UInt8} (h : NumTxt s neg l) : s.size = neg.toNat + l.length ∧ s.size ≤ 19 ∧ 0 < l.length ∧ l.length ≤ 18 := by
 have h1 := h.at_.size
 have h2 := h.dec.len
 have h3 := h.ne
 have : neg.toNat ≤ 1 := by cases neg <;> decide
 exact ⟨h1, by omega, h3, h2⟩
theorem NumTxt.c {s : ByteArray} {neg : Bool} {l : List UInt8} (h : NumTxt s neg l) {j : Nat} (hj : j < l.length) : ∃ hs : neg.toNat + j < s.size, s[neg.toNat + j] = l[j] := by
 have h1 := h.at_.size
 exact ⟨by omega, h.at_.get hj (by omega)⟩
theorem rfStep_dot (st : RSt) : rfStep st 46 = (st.1, st.2.1, (st.2.1 : Int), true) := rfl
theorem rfStep_zero {st : RSt} (h : st.2.1 = 0) : rfStep st 48 = (st.1, st.2.1, st.2.2.1 - 1, st.2.2.2) := by
 unfold rfStep
 rw [if_neg (by decide), if_pos ⟨rfl, h⟩]
theorem rfStep_dig {st : RSt} {c : UInt8} (h : Dgt c) (hz : ¬ (c = 48 ∧ st.2.1 = 0)) : rfStep st c = (st.1 * 10 + (c.toNat - 48), st.2.1 + 1, st.2.2.1, st.2.2.2) := by
 unfold rfStep
 rw [if_neg h.ne, if_neg hz]
theorem u8_eq {c : UInt8} {n : Nat} (hn : n < 256) (h : (c.toNat : Int) = (n : Int)) : c = UInt8.ofNat n := by
 apply UInt8.toNat_inj.1
 rw [UInt8.toNat_ofNat']
 omega

theorem no43 {c : UInt8} {neg : Bool} (h : (neg = true ∧ c = 45) ∨ (neg = false ∧ Dgt c)) : ¬ ((c.toNat : Int) = 43) := by
 rcases h with ⟨_, rfl⟩ | ⟨_, h⟩
 ·decide
 ·unfold Dgt at h; omega
theorem no95 {c : UInt8} (h : c = 46 ∨ Dgt c) : ¬ ((c.toNat : Int) = 95) := by
 rcases h with rfl | h
 ·decide
 ·unfold Dgt at h; omega
set_option maxHeartbeats 4000000 in
theorem c266 (s : ByteArray) (neg : Bool) (l : List UInt8) (hN : NumTxt s neg l) (m n k : Nat) (hr : rf l = (m, n + k, (n : Int), true)) (hm : 0 < m) (hnk : n + k ≤ 18) : CtV Tryz.prog 266 #[.string s] [] (.tuple #[.int .u64 (m : Int), .int .i64 (-((k : Nat) : Int)), .bool neg, .bool false, .bool false, .int .i64 (s.size : Int), .bool true]) := by
 refine Ct.of_run (args := [.string s]) Tryz.func266 (by kernel_rfl) rfl Tryz.ntmps266 rfl (fun c => ?_)
 obtain ⟨hsz, hs19, hln, hl18⟩ := hN.sz
 have hs0 := hN.sign (by omega)
 have hnt : neg.toNat ≤ 1 := by cases neg <;> decide
 have hf0 : (neg = true ∧ s[0] = 45) ∨ (neg = false ∧ Dgt s[0]) := by
  cases neg with
  | true => exact .inl ⟨rfl, hs0.2 rfl⟩
  | false =>
   obtain ⟨h1, h2⟩ := hN.c (j := 0) hln
   exact .inr ⟨rfl, by have h3 : s[0] = l[0] := h2; rw [h3]; exact hN.d0 hln⟩
 refine zD (zB ?_)
 refine zA (zE rfl rfl ?_)
 refine zA (zE rfl rfl ?_)
 refine zA (zE rfl rfl ?_)
 refine zA (zE rfl rfl ?_)
 refine zA (zE rfl rfl ?_)
 refine zA (zE rfl rfl ?_)
 refine zA (zE rfl rfl ?_)
 refine zC (run_scope (retQ_goto _ _ _ _) ?_)
 refine zD (zB ?_)
 refine zA (zE rfl rfl ?_)
 refine zC (zD ?_)
 refine zD (zB ?_)
 refine zA (zF rfl rfl ?_)
 refine zA (zF rfl rfl ?_)
 refine zA (vC st9 rfl rfl ?_)
 refine zA (qW rfl rfl rfl ?_)
 refine zC (yE rfl (decide_eq_false (by omega)) ?_)
 refine zL (zD ?_)
 refine zD (zB ?_)
 refine zA (zF rfl rfl ?_)
 refine zA (zF rfl rfl ?_)
 refine zA (tA (i := 0) st9 rfl rfl rfl (by omega) ?_)
 refine zC (zG [27, 9, 8, 7, 6, 5, 4, 3, 2, 0] ?_)
 change Run _ _ _ _ _ [(27, _), (9, _), (8, _), (7, _), (6, _), (5, _), (4, _), (3, _), (2, _), (0, _)] _ _
 refine zG [27, 9, 8, 7, 6, 5, 4, 3, 2, 0] ?_
 change Run _ _ _ _ _ [(27, _), (9, _), (8, _), (7, _), (6, _), (5, _), (4, _), (3, _), (2, _), (0, _)] _ _
 refine xA [9, 8, 6, 5, 3, 2, 0] (fun (u : Unit) => True) (fun (u : Unit) => [(7, .int .i64 ((neg.toNat : Nat) : Int)), (4, .bool neg)]) (fun (u : Unit) => []) (fun (u : Unit) => []) ?_ ?_
 ·intro K hK
  refine zO (zD ?_)
  refine zB (zA ?_)
  refine yA rfl rfl rfl (zA ?_)
  refine zE rfl rfl (zC ?_)
  refine yE rfl (decide_eq_false (no43 hf0)) (zD ?_)
  refine zB (zA ?_)
  refine yA rfl rfl rfl (zA ?_)
  refine zE rfl rfl (zC ?_)
  refine zT rfl (fun h32 => ?_) (fun h32 => ?_)
  ·refine zD (zB ?_)
   refine zA (zF rfl rfl ?_)
   refine zA (yR (s := 1) rfl rfl rfl rfl (by omega) (by omega) ?_)
   refine zA (zE rfl rfl ?_)
   refine zC (zG [7, 9, 8, 6, 5, 3, 2, 0] ?_)
   change Run _ _ _ _ _ [(7, _), (9, _), (8, _), (6, _), (5, _), (3, _), (2, _), (0, _)] _ _
   refine zB (zA ?_)
   refine zE rfl rfl (zC ?_)
   refine zQ ?_
   obtain rfl : neg = true := hs0.1 (u8_eq (n := 45) (by omega) h32)
   exact kQ (hK () trivial) (eC rfl (eC rfl (eC rfl (eC rfl (eC rfl (eC rfl (eC rfl (eC rfl (eC rfl (eN _)))))))))) (hD := (by intro d hd; exact hd))
  refine zL (zQ ?_)
  obtain rfl : neg = false := by
   cases neg with
   | false => rfl
   | true => exact absurd (by rw [hs0.2 rfl]; rfl) h32
  exact kQ (hK () trivial) (eC rfl (eC rfl (eC rfl (eC rfl (eC rfl (eC rfl (eC rfl (eC rfl (eC rfl (eN _)))))))))) (hD := (by intro d hd; exact hd))
 intro u hI
 replace hI : True := hI
 change Run _ _ _ _ _ [(7, .int .i64 ((neg.toNat : Nat) : Int)), (4, .bool neg), (9, _), (8, _), (6, _), (5, _), (3, _), (2, _), (0, _)] ([]) ([])
 refine zD (zB ?_)
 refine zA (zE rfl rfl ?_)
 refine zC (zD ?_)
 refine zB (zA ?_)
 refine zE rfl rfl (zC ?_)
 refine zD (zB ?_)
 refine zA (zE rfl rfl ?_)
 refine zC (zD ?_)
 refine zD (zG [12, 11, 10, 7, 4, 9, 8, 6, 5, 3, 2, 0] ?_)
 change Run _ _ _ _ _ [(12, _), (11, _), (10, _), (7, _), (4, _), (9, _), (8, _), (6, _), (5, _), (3, _), (2, _), (0, _)] _ _
 refine pQ (fun (u : Unit) => True) (fun (u : Unit) => [(54, .bool false)]) ?_ ?_
 ·intro K hK
  refine zB (zA ?_)
  refine zF rfl rfl (zA ?_)
  refine yR (s := ((neg.toNat + 2 : Nat) : Int)) rfl rfl rfl (by omega) (by omega) (by omega) (zA ?_)
  refine zF rfl rfl (zA ?_)
  refine vC st9 rfl rfl (zA ?_)
  refine xX rfl rfl rfl (zA ?_)
  refine zF rfl rfl (xB (s := 41) rfl (fun h41 => ?_) (fun h41 => ?_))
  ·obtain ⟨hs1, hc1⟩ := hN.c (j := 0) hln
   rw [Nat.add_zero] at hs1
   have hc1a : s[neg.toNat] = l[0] := hc1
   refine zM rfl rfl (zF rfl rfl ?_)
   refine zM rfl rfl (zF rfl rfl ?_)
   refine zM rfl rfl (tA (i := neg.toNat) st9 rfl rfl rfl hs1 ?_)
   refine zM rfl rfl (yA rfl rfl rfl ?_)
   refine zA (zR rfl rfl rfl ?_)
   refine zA (zF rfl rfl ?_)
   refine xB (s := 47) rfl (fun h47 => ?_) (fun h47 => ?_)
   ·have hl1 : 1 < l.length := by omega
    obtain ⟨hs2, hc2⟩ := hN.c (j := 1) hl1
    have hz := hN.z hl1 (by rw [← hc1a]; exact u8_eq (n := 48) (by omega) h47)
    rw [hz] at hc2
    refine zM rfl rfl (zF rfl rfl ?_)
    refine zM rfl rfl (zF rfl rfl ?_)
    refine zM rfl rfl (yR (s := ((neg.toNat + 1 : Nat) : Int)) rfl rfl rfl (by omega) (by omega) (by omega) ?_)
    refine zM rfl rfl (tA (i := neg.toNat + 1) st9 rfl rfl rfl hs2 ?_)
    rw [hc2]
    refine zM rfl rfl (zY rfl rfl rfl c256 sub0 ?_)
    refine zM rfl rfl (yA rfl rfl rfl ?_)
    refine zA (zR rfl rfl rfl ?_)
    refine zC (zG [54, 12, 11, 10, 7, 4, 9, 8, 6, 5, 3, 2, 0] ?_)
    change Run _ _ _ _ _ [(54, _), (12, _), (11, _), (10, _), (7, _), (4, _), (9, _), (8, _), (6, _), (5, _), (3, _), (2, _), (0, _)] _ _
    exact kQ (hK () (trivial)) (eC rfl (eC rfl (eC rfl (eC rfl (eC rfl (eC rfl (eC rfl (eC rfl (eC rfl (eC rfl (eC rfl (eC rfl (eC rfl (eN _))))))))))))))
   refine zI rfl rfl rfl rfl (zI rfl rfl rfl rfl ?_)
   refine zI rfl rfl rfl rfl (zI rfl rfl rfl rfl ?_)
   refine zI rfl rfl rfl rfl (zI rfl rfl rfl rfl ?_)
   refine zA (zR rfl rfl rfl ?_)
   refine zC (zG [54, 12, 11, 10, 7, 4, 9, 8, 6, 5, 3, 2, 0] ?_)
   change Run _ _ _ _ _ [(54, _), (12, _), (11, _), (10, _), (7, _), (4, _), (9, _), (8, _), (6, _), (5, _), (3, _), (2, _), (0, _)] _ _
   exact kQ (hK () (trivial)) (eC rfl (eC rfl (eC rfl (eC rfl (eC rfl (eC rfl (eC rfl (eC rfl (eC rfl (eC rfl (eC rfl (eC rfl (eC rfl (eN _))))))))))))))
  refine zI rfl rfl rfl rfl (zI rfl rfl rfl rfl ?_)
  refine zI rfl rfl rfl rfl (zI rfl rfl rfl rfl ?_)
  refine zA (zR rfl rfl rfl ?_)
  refine zA (zF rfl rfl ?_)
  refine zI rfl rfl rfl rfl (zI rfl rfl rfl rfl ?_)
  refine zI rfl rfl rfl rfl (zI rfl rfl rfl rfl ?_)
  refine zI rfl rfl rfl rfl (zI rfl rfl rfl rfl ?_)
  refine zA (zR rfl rfl rfl ?_)
  refine zC (zG [54, 12, 11, 10, 7, 4, 9, 8, 6, 5, 3, 2, 0] ?_)
  change Run _ _ _ _ _ [(54, _), (12, _), (11, _), (10, _), (7, _), (4, _), (9, _), (8, _), (6, _), (5, _), (3, _), (2, _), (0, _)] _ _
  exact kQ (hK () (trivial)) (eC rfl (eC rfl (eC rfl (eC rfl (eC rfl (eC rfl (eC rfl (eC rfl (eC rfl (eC rfl (eC rfl (eC rfl (eC rfl (eN _))))))))))))))
 intro u hI
 replace hI : True := hI
 change Run _ _ _ _ _ [(54, .bool false), (12, _), (11, _), (10, _), (7, _), (4, _), (9, _), (8, _), (6, _), (5, _), (3, _), (2, _), (0, _)] (_) (_)
 refine yE rfl (rfl) (zL ?_)
 refine zD (zB ?_)
 refine zA (zE rfl rfl ?_)
 refine zC (zD ?_)
 refine zB (zA ?_)
 refine zE rfl rfl (zC ?_)
 refine zG [14, 13, 12, 11, 10, 7, 4, 9, 8, 6, 5, 3, 2, 0] ?_
 change Run _ _ _ _ _ [(14, _), (13, _), (12, _), (11, _), (10, _), (7, _), (4, _), (9, _), (8, _), (6, _), (5, _), (3, _), (2, _), (0, _)] _ _
 refine zD (zB ?_)
 refine zA (zE rfl rfl ?_)
 refine zC (zG [15, 14, 13, 12, 11, 10, 7, 4, 9, 8, 6, 5, 3, 2, 0] ?_)
 change Run _ _ _ _ _ [(15, _), (14, _), (13, _), (12, _), (11, _), (10, _), (7, _), (4, _), (9, _), (8, _), (6, _), (5, _), (3, _), (2, _), (0, _)] _ _
 refine zD (zB ?_)
 refine zA (zE rfl rfl ?_)
 refine zC (zG [16, 15, 14, 13, 12, 11, 10, 7, 4, 9, 8, 6, 5, 3, 2, 0] ?_)
 change Run _ _ _ _ _ [(16, _), (15, _), (14, _), (13, _), (12, _), (11, _), (10, _), (7, _), (4, _), (9, _), (8, _), (6, _), (5, _), (3, _), (2, _), (0, _)] _ _
 refine zD (zB ?_)
 refine zA (zE rfl rfl ?_)
 refine zC (zG [17, 16, 15, 14, 13, 12, 11, 10, 7, 4, 9, 8, 6, 5, 3, 2, 0] ?_)
 change Run _ _ _ _ _ [(17, _), (16, _), (15, _), (14, _), (13, _), (12, _), (11, _), (10, _), (7, _), (4, _), (9, _), (8, _), (6, _), (5, _), (3, _), (2, _), (0, _)] _ _
 refine zD (run_label ?_)
 refine zD (zO ?_)
 refine zG [7, 2, 13, 14, 15, 16, 17, 12, 11, 10, 4, 9, 8, 6, 5, 3, 0] ?_
 change Run _ _ _ _ _ [(7, _), (2, _), (13, _), (14, _), (15, _), (16, _), (17, _), (12, _), (11, _), (10, _), (4, _), (9, _), (8, _), (6, _), (5, _), (3, _), (0, _)] _ _
 refine wN 7 (fun (j : Nat) => j ≤ l.length) (fun (j : Nat) => [(7, .int .i64 ((neg.toNat + j : Nat) : Int)), (2, .int .u64 ((rf (l.take j)).1 : Int)), (13, .bool (rf (l.take j)).2.2.2), (14, .bool (decide (0 < j))), (15, .int .i64 ((rf (l.take j)).2.1 : Int)), (16, .int .i64 ((rf (l.take j)).2.1 : Int)), (17, .int .i64 (rf (l.take j)).2.2.1)]) (fun (j : Nat) => l.length - j) 0 ((by show 0 ≤ _; omega)) (eC rfl (eC rfl (eC rfl (eC rfl (eC rfl (eC rfl (eC rfl (eN _)))))))) ?_ (eC rfl (eC rfl (eC rfl (eC rfl (eC rfl (eC rfl (eC rfl (eC rfl (eC rfl (eC rfl (eN _)))))))))))
 intro j hI K hK
 change Run _ _ _ _ _ [(7, _), (2, _), (13, _), (14, _), (15, _), (16, _), (17, _), (12, _), (11, _), (10, _), (4, _), (9, _), (8, _), (6, _), (5, _), (3, _), (0, _)] _ _
 replace hI : j ≤ l.length := hI
 obtain ⟨hb1, hb2, hb3, hb4⟩ := hN.dec.lt j
 refine zD (zD ?_)
 refine zB (zA ?_)
 refine zF rfl rfl (zA ?_)
 refine zF rfl rfl (zA ?_)
 refine vC st9 rfl rfl (zA ?_)
 refine vY rfl rfl rfl (zC ?_)
 refine zG [60, 7, 2, 13, 14, 15, 16, 17, 12, 11, 10, 4, 9, 8, 6, 5, 3, 0] ?_
 change Run _ _ _ _ _ [(60, _), (7, _), (2, _), (13, _), (14, _), (15, _), (16, _), (17, _), (12, _), (11, _), (10, _), (4, _), (9, _), (8, _), (6, _), (5, _), (3, _), (0, _)] _ _
 refine zT rfl (fun h60 => ?_) (fun h60 => ?_)
 ·have hlt : j < l.length := by omega
  obtain ⟨hsj, hcj⟩ := hN.c hlt
  have hall := hN.dec.all l[j] (List.getElem_mem hlt)
  refine zL (zD ?_)
  refine zO (zD ?_)
  refine zD (zB ?_)
  refine zA (zF rfl rfl ?_)
  refine zA (zF rfl rfl ?_)
  refine zA (tA (i := neg.toNat + j) st9 rfl rfl rfl hsj ?_)
  rw [hcj]
  refine zA (zE rfl rfl ?_)
  refine zC (zG [18, 7, 2, 13, 14, 15, 16, 17, 12, 11, 10, 4, 9, 8, 6, 5, 3, 0] ?_)
  change Run _ _ _ _ _ [(18, _), (7, _), (2, _), (13, _), (14, _), (15, _), (16, _), (17, _), (12, _), (11, _), (10, _), (4, _), (9, _), (8, _), (6, _), (5, _), (3, _), (0, _)] _ _
  refine zO (zD ?_)
  refine zB (zA ?_)
  refine zF rfl rfl (zA ?_)
  refine yA rfl rfl rfl (zA ?_)
  refine op_eqT Tryz.underlying4 rfl rfl rfl (zA ?_)
  refine zE rfl rfl (zC ?_)
  refine zG [66, 18, 7, 2, 13, 14, 15, 16, 17, 12, 11, 10, 4, 9, 8, 6, 5, 3, 0] ?_
  change Run _ _ _ _ _ [(66, _), (18, _), (7, _), (2, _), (13, _), (14, _), (15, _), (16, _), (17, _), (12, _), (11, _), (10, _), (4, _), (9, _), (8, _), (6, _), (5, _), (3, _), (0, _)] _ _
  refine yE rfl (decide_eq_false (no95 hall)) (zD ?_)
  refine zB (zA ?_)
  refine zF rfl rfl (zA ?_)
  refine yA rfl rfl rfl (zA ?_)
  refine op_eqT Tryz.underlying4 rfl rfl rfl (zA ?_)
  refine zE rfl rfl (zC ?_)
  refine zG [70, 18, 7, 2, 13, 14, 15, 16, 17, 12, 11, 10, 4, 9, 8, 6, 5, 3, 0] ?_
  change Run _ _ _ _ _ [(70, _), (18, _), (7, _), (2, _), (13, _), (14, _), (15, _), (16, _), (17, _), (12, _), (11, _), (10, _), (4, _), (9, _), (8, _), (6, _), (5, _), (3, _), (0, _)] _ _
  refine zT rfl (fun h70 => ?_) (fun h70 => ?_)
  ·have hc46 : l[j] = 46 := u8_eq (n := 46) (by omega) h70
   have hj0 : 0 < j := by
    rcases Nat.eq_zero_or_pos j with rfl | h
    ·exact absurd hc46 (hN.d0 hln).ne
    ·exact h
   refine zD (zD ?_)
   refine zB (zA ?_)
   refine zF rfl rfl (zC ?_)
   refine zG [74, 7, 2, 13, 14, 15, 16, 17, 12, 11, 10, 4, 9, 8, 6, 5, 3, 0] ?_
   change Run _ _ _ _ _ [(74, _), (7, _), (2, _), (13, _), (14, _), (15, _), (16, _), (17, _), (12, _), (11, _), (10, _), (4, _), (9, _), (8, _), (6, _), (5, _), (3, _), (0, _)] _ _
   refine yE rfl (hN.dec.nodot hlt hc46) (zL ?_)
   refine zD (zB ?_)
   refine zA (zE rfl rfl ?_)
   refine zC (zG [13, 7, 2, 14, 15, 16, 12, 11, 10, 4, 9, 8, 6, 5, 3, 0] ?_)
   change Run _ _ _ _ _ [(13, _), (7, _), (2, _), (14, _), (15, _), (16, _), (12, _), (11, _), (10, _), (4, _), (9, _), (8, _), (6, _), (5, _), (3, _), (0, _)] _ _
   refine zD (zB ?_)
   refine zA (zF rfl rfl ?_)
   refine zA (zE rfl rfl ?_)
   refine zC (zG [17, 13, 7, 2, 14, 15, 16, 12, 11, 10, 4, 9, 8, 6, 5, 3, 0] ?_)
   change Run _ _ _ _ _ [(17, _), (13, _), (7, _), (2, _), (14, _), (15, _), (16, _), (12, _), (11, _), (10, _), (4, _), (9, _), (8, _), (6, _), (5, _), (3, _), (0, _)] _ _
   refine yL rfl (zB ?_)
   refine zA (zF rfl rfl ?_)
   refine zA (yR (s := ((neg.toNat + (j + 1) : Nat) : Int)) rfl rfl rfl (by omega) (by omega) (by omega) ?_)
   refine zA (zE rfl rfl ?_)
   refine zC (zG [7, 17, 13, 2, 14, 15, 16, 12, 11, 10, 4, 9, 8, 6, 5, 3, 0] ?_)
   change Run _ _ _ _ _ [(7, _), (17, _), (13, _), (2, _), (14, _), (15, _), (16, _), (12, _), (11, _), (10, _), (4, _), (9, _), (8, _), (6, _), (5, _), (3, _), (0, _)] _ _
   have hst := rf_take hlt
   rw [hc46, rfStep_dot] at hst
   exact sP (hK (j + 1) (by show j + 1 ≤ _; omega) (by show l.length - (j + 1) < l.length - j; omega)) (by rw [hst]; exact (eC rfl (eC rfl (eC rfl (eC (by first | rfl | exact congrArg some (congrArg Value.bool (decide_eq_true (Nat.succ_pos _)).symm) | exact congrArg some (congrArg Value.bool ((decide_eq_true hj0).trans (decide_eq_true (Nat.succ_pos _)).symm))) (eC rfl (eC rfl (eC rfl (eC rfl (eC rfl (eC rfl (eC rfl (eC rfl (eC rfl (eC rfl (eC rfl (eC rfl (eC rfl (eN _))))))))))))))))))) (wJ _) (by intro d hd; exact hd)
  have hdg : Dgt l[j] := hall.resolve_left (fun h => h70 (by rw [h]; rfl))
  have hdi := dgt_int hdg
  refine zD (zB ?_)
  refine zA (zF rfl rfl ?_)
  refine zA (op_leq rfl rfl rfl ?_)
  refine zA (zF rfl rfl ?_)
  refine pP (s := 79) rfl (decide_eq_true (by omega)) (zM rfl rfl ?_)
  refine zF rfl rfl (zM rfl rfl ?_)
  refine op_leq rfl rfl rfl (zA ?_)
  refine zR rfl rfl rfl (zA ?_)
  refine op_eqT Tryz.underlying4 rfl rfl rfl (zA ?_)
  refine zE rfl rfl (zC ?_)
  refine zG [76, 18, 7, 2, 13, 14, 15, 16, 17, 12, 11, 10, 4, 9, 8, 6, 5, 3, 0] ?_
  change Run _ _ _ _ _ [(76, _), (18, _), (7, _), (2, _), (13, _), (14, _), (15, _), (16, _), (17, _), (12, _), (11, _), (10, _), (4, _), (9, _), (8, _), (6, _), (5, _), (3, _), (0, _)] _ _
  refine yG rfl (decide_eq_true (by omega)) (zD ?_)
  refine zB (zA ?_)
  refine zE rfl rfl (zC ?_)
  refine zG [14, 18, 7, 2, 13, 15, 16, 17, 12, 11, 10, 4, 9, 8, 6, 5, 3, 0] ?_
  change Run _ _ _ _ _ [(14, _), (18, _), (7, _), (2, _), (13, _), (15, _), (16, _), (17, _), (12, _), (11, _), (10, _), (4, _), (9, _), (8, _), (6, _), (5, _), (3, _), (0, _)] _ _
  refine zD (zD ?_)
  refine zB (zA ?_)
  refine zF rfl rfl (zA ?_)
  refine yA rfl rfl rfl (zA ?_)
  refine zF rfl rfl (xB (s := 86) rfl (fun h86 => ?_) (fun h86 => ?_))
  ·refine zM rfl rfl (zF rfl rfl ?_)
   refine zM rfl rfl (yA rfl rfl rfl ?_)
   refine zA (zR rfl rfl rfl ?_)
   refine zC (zG [89, 14, 18, 7, 2, 13, 15, 16, 17, 12, 11, 10, 4, 9, 8, 6, 5, 3, 0] ?_)
   change Run _ _ _ _ _ [(89, _), (14, _), (18, _), (7, _), (2, _), (13, _), (15, _), (16, _), (17, _), (12, _), (11, _), (10, _), (4, _), (9, _), (8, _), (6, _), (5, _), (3, _), (0, _)] _ _
   refine zT rfl (fun h89 => ?_) (fun h89 => ?_)
   ·refine zD (zB ?_)
    refine zA (zF rfl rfl ?_)
    refine zA (wE (s := (rf (l.take j)).2.2.1 - 1) rfl rfl rfl rfl (by omega) (by omega) ?_)
    refine zA (zE rfl rfl ?_)
    refine zC (zG [17, 14, 7, 2, 13, 15, 16, 12, 11, 10, 4, 9, 8, 6, 5, 3, 0] ?_)
    change Run _ _ _ _ _ [(17, _), (14, _), (7, _), (2, _), (13, _), (15, _), (16, _), (12, _), (11, _), (10, _), (4, _), (9, _), (8, _), (6, _), (5, _), (3, _), (0, _)] _ _
    refine yL rfl (zB ?_)
    refine zA (zF rfl rfl ?_)
    refine zA (yR (s := ((neg.toNat + (j + 1) : Nat) : Int)) rfl rfl rfl (by omega) (by omega) (by omega) ?_)
    refine zA (zE rfl rfl ?_)
    refine zC (zG [7, 17, 14, 2, 13, 15, 16, 12, 11, 10, 4, 9, 8, 6, 5, 3, 0] ?_)
    change Run _ _ _ _ _ [(7, _), (17, _), (14, _), (2, _), (13, _), (15, _), (16, _), (12, _), (11, _), (10, _), (4, _), (9, _), (8, _), (6, _), (5, _), (3, _), (0, _)] _ _
    have hc48 : l[j] = 48 := u8_eq (n := 48) (by omega) h86
    have hst := rf_take hlt
    rw [hc48, rfStep_zero (by omega)] at hst
    exact sP (hK (j + 1) (by show j + 1 ≤ _; omega) (by show l.length - (j + 1) < l.length - j; omega)) (by rw [hst]; exact (eC rfl (eC rfl (eC rfl (eC (by first | rfl | exact congrArg some (congrArg Value.bool (decide_eq_true (Nat.succ_pos _)).symm) | exact congrArg some (congrArg Value.bool ((decide_eq_true hj0).trans (decide_eq_true (Nat.succ_pos _)).symm))) (eC rfl (eC rfl (eC rfl (eC rfl (eC rfl (eC rfl (eC rfl (eC rfl (eC rfl (eC rfl (eC rfl (eC rfl (eC rfl (eN _))))))))))))))))))) (wJ _) (by intro d hd; exact hd)
   refine zL (zD ?_)
   refine zB (zA ?_)
   refine zF rfl rfl (zA ?_)
   refine yR (s := (((rf (l.take j)).2.1 + 1 : Nat) : Int)) rfl rfl rfl (by omega) (by omega) (by omega) (zA ?_)
   refine zE rfl rfl (zC ?_)
   refine zG [15, 14, 18, 7, 2, 13, 16, 17, 12, 11, 10, 4, 9, 8, 6, 5, 3, 0] ?_
   change Run _ _ _ _ _ [(15, _), (14, _), (18, _), (7, _), (2, _), (13, _), (16, _), (17, _), (12, _), (11, _), (10, _), (4, _), (9, _), (8, _), (6, _), (5, _), (3, _), (0, _)] _ _
   refine zD (zD ?_)
   refine zB (zA ?_)
   refine zF rfl rfl (zA ?_)
   refine zF rfl rfl (zA ?_)
   refine vY rfl rfl rfl (zC ?_)
   refine zG [96, 15, 14, 18, 7, 2, 13, 16, 17, 12, 11, 10, 4, 9, 8, 6, 5, 3, 0] ?_
   change Run _ _ _ _ _ [(96, _), (15, _), (14, _), (18, _), (7, _), (2, _), (13, _), (16, _), (17, _), (12, _), (11, _), (10, _), (4, _), (9, _), (8, _), (6, _), (5, _), (3, _), (0, _)] _ _
   refine yG rfl (decide_eq_true (by omega)) (zD ?_)
   refine zB (zA ?_)
   refine zF rfl rfl (zA ?_)
   refine zF rfl rfl (zA ?_)
   refine op_mulU (r := (rf (l.take j)).1 * 10) rfl rfl rfl rfl (by omega) (zA ?_)
   refine zE rfl rfl (zC ?_)
   refine zG [2, 15, 14, 18, 7, 13, 16, 17, 12, 11, 10, 4, 9, 8, 6, 5, 3, 0] ?_
   change Run _ _ _ _ _ [(2, _), (15, _), (14, _), (18, _), (7, _), (13, _), (16, _), (17, _), (12, _), (11, _), (10, _), (4, _), (9, _), (8, _), (6, _), (5, _), (3, _), (0, _)] _ _
   refine zD (zB ?_)
   refine zA (zF rfl rfl ?_)
   refine zA (zF rfl rfl ?_)
   refine zA (op_subU8 (m' := 48) (r := l[j].toNat - 48) rfl rfl rfl (by unfold Dgt at hdg; omega) rfl (by unfold Dgt at hdg; omega) ?_)
   refine zA (op_convII Tryz.underlying5 Tryz.underlying235 rfl rfl (uJ (m := l[j].toNat - 48) (by unfold Dgt at hdg; omega)) ?_)
   refine zA (op_addU (r := (rf (l.take j)).1 * 10 + (l[j].toNat - 48)) rfl rfl rfl rfl (by unfold Dgt at hdg; omega) ?_)
   refine zA (zE rfl rfl ?_)
   refine zC (zG [2, 15, 14, 7, 13, 16, 17, 12, 11, 10, 4, 9, 8, 6, 5, 3, 0] ?_)
   change Run _ _ _ _ _ [(2, _), (15, _), (14, _), (7, _), (13, _), (16, _), (17, _), (12, _), (11, _), (10, _), (4, _), (9, _), (8, _), (6, _), (5, _), (3, _), (0, _)] _ _
   refine zB (zA ?_)
   refine zF rfl rfl (zA ?_)
   refine yR (s := (((rf (l.take j)).2.1 + 1 : Nat) : Int)) rfl rfl rfl (by omega) (by omega) (by omega) (zA ?_)
   refine zE rfl rfl (zC ?_)
   refine zG [16, 2, 15, 14, 7, 13, 17, 12, 11, 10, 4, 9, 8, 6, 5, 3, 0] ?_
   change Run _ _ _ _ _ [(16, _), (2, _), (15, _), (14, _), (7, _), (13, _), (17, _), (12, _), (11, _), (10, _), (4, _), (9, _), (8, _), (6, _), (5, _), (3, _), (0, _)] _ _
   refine yL rfl (zB ?_)
   refine zA (zF rfl rfl ?_)
   refine zA (yR (s := ((neg.toNat + (j + 1) : Nat) : Int)) rfl rfl rfl (by omega) (by omega) (by omega) ?_)
   refine zA (zE rfl rfl ?_)
   refine zC (zG [7, 16, 2, 15, 14, 13, 17, 12, 11, 10, 4, 9, 8, 6, 5, 3, 0] ?_)
   change Run _ _ _ _ _ [(7, _), (16, _), (2, _), (15, _), (14, _), (13, _), (17, _), (12, _), (11, _), (10, _), (4, _), (9, _), (8, _), (6, _), (5, _), (3, _), (0, _)] _ _
   have hst := rf_take hlt
   rw [rfStep_dig hdg (fun hh => h89 (by have := hh.2; omega))] at hst
   exact sP (hK (j + 1) (by show j + 1 ≤ _; omega) (by show l.length - (j + 1) < l.length - j; omega)) (by rw [hst]; exact (eC rfl (eC rfl (eC rfl (eC (by first | rfl | exact congrArg some (congrArg Value.bool (decide_eq_true (Nat.succ_pos _)).symm) | exact congrArg some (congrArg Value.bool ((decide_eq_true hj0).trans (decide_eq_true (Nat.succ_pos _)).symm))) (eC rfl (eC rfl (eC rfl (eC rfl (eC rfl (eC rfl (eC rfl (eC rfl (eC rfl (eC rfl (eC rfl (eC rfl (eC rfl (eN _))))))))))))))))))) (wJ _) (by intro d hd; exact hd)
  refine zI rfl rfl rfl rfl (zI rfl rfl rfl rfl ?_)
  refine zA (zR rfl rfl rfl ?_)
  refine zC (zG [89, 14, 18, 7, 2, 13, 15, 16, 17, 12, 11, 10, 4, 9, 8, 6, 5, 3, 0] ?_)
  change Run _ _ _ _ _ [(89, _), (14, _), (18, _), (7, _), (2, _), (13, _), (15, _), (16, _), (17, _), (12, _), (11, _), (10, _), (4, _), (9, _), (8, _), (6, _), (5, _), (3, _), (0, _)] _ _
  refine vB rfl (zL ?_)
  refine zD (zB ?_)
  refine zA (zF rfl rfl ?_)
  refine zA (yR (s := (((rf (l.take j)).2.1 + 1 : Nat) : Int)) rfl rfl rfl (by omega) (by omega) (by omega) ?_)
  refine zA (zE rfl rfl ?_)
  refine zC (zG [15, 14, 18, 7, 2, 13, 16, 17, 12, 11, 10, 4, 9, 8, 6, 5, 3, 0] ?_)
  change Run _ _ _ _ _ [(15, _), (14, _), (18, _), (7, _), (2, _), (13, _), (16, _), (17, _), (12, _), (11, _), (10, _), (4, _), (9, _), (8, _), (6, _), (5, _), (3, _), (0, _)] _ _
  refine zD (zD ?_)
  refine zB (zA ?_)
  refine zF rfl rfl (zA ?_)
  refine zF rfl rfl (zA ?_)
  refine vY rfl rfl rfl (zC ?_)
  refine zG [96, 15, 14, 18, 7, 2, 13, 16, 17, 12, 11, 10, 4, 9, 8, 6, 5, 3, 0] ?_
  change Run _ _ _ _ _ [(96, _), (15, _), (14, _), (18, _), (7, _), (2, _), (13, _), (16, _), (17, _), (12, _), (11, _), (10, _), (4, _), (9, _), (8, _), (6, _), (5, _), (3, _), (0, _)] _ _
  refine yG rfl (decide_eq_true (by omega)) (zD ?_)
  refine zB (zA ?_)
  refine zF rfl rfl (zA ?_)
  refine zF rfl rfl (zA ?_)
  refine op_mulU (r := (rf (l.take j)).1 * 10) rfl rfl rfl rfl (by omega) (zA ?_)
  refine zE rfl rfl (zC ?_)
  refine zG [2, 15, 14, 18, 7, 13, 16, 17, 12, 11, 10, 4, 9, 8, 6, 5, 3, 0] ?_
  change Run _ _ _ _ _ [(2, _), (15, _), (14, _), (18, _), (7, _), (13, _), (16, _), (17, _), (12, _), (11, _), (10, _), (4, _), (9, _), (8, _), (6, _), (5, _), (3, _), (0, _)] _ _
  refine zD (zB ?_)
  refine zA (zF rfl rfl ?_)
  refine zA (zF rfl rfl ?_)
  refine zA (op_subU8 (m' := 48) (r := l[j].toNat - 48) rfl rfl rfl (by unfold Dgt at hdg; omega) rfl (by unfold Dgt at hdg; omega) ?_)
  refine zA (op_convII Tryz.underlying5 Tryz.underlying235 rfl rfl (uJ (m := l[j].toNat - 48) (by unfold Dgt at hdg; omega)) ?_)
  refine zA (op_addU (r := (rf (l.take j)).1 * 10 + (l[j].toNat - 48)) rfl rfl rfl rfl (by unfold Dgt at hdg; omega) ?_)
  refine zA (zE rfl rfl ?_)
  refine zC (zG [2, 15, 14, 7, 13, 16, 17, 12, 11, 10, 4, 9, 8, 6, 5, 3, 0] ?_)
  change Run _ _ _ _ _ [(2, _), (15, _), (14, _), (7, _), (13, _), (16, _), (17, _), (12, _), (11, _), (10, _), (4, _), (9, _), (8, _), (6, _), (5, _), (3, _), (0, _)] _ _
  refine zB (zA ?_)
  refine zF rfl rfl (zA ?_)
  refine yR (s := (((rf (l.take j)).2.1 + 1 : Nat) : Int)) rfl rfl rfl (by omega) (by omega) (by omega) (zA ?_)
  refine zE rfl rfl (zC ?_)
  refine zG [16, 2, 15, 14, 7, 13, 17, 12, 11, 10, 4, 9, 8, 6, 5, 3, 0] ?_
  change Run _ _ _ _ _ [(16, _), (2, _), (15, _), (14, _), (7, _), (13, _), (17, _), (12, _), (11, _), (10, _), (4, _), (9, _), (8, _), (6, _), (5, _), (3, _), (0, _)] _ _
  refine yL rfl (zB ?_)
  refine zA (zF rfl rfl ?_)
  refine zA (yR (s := ((neg.toNat + (j + 1) : Nat) : Int)) rfl rfl rfl (by omega) (by omega) (by omega) ?_)
  refine zA (zE rfl rfl ?_)
  refine zC (zG [7, 16, 2, 15, 14, 13, 17, 12, 11, 10, 4, 9, 8, 6, 5, 3, 0] ?_)
  change Run _ _ _ _ _ [(7, _), (16, _), (2, _), (15, _), (14, _), (13, _), (17, _), (12, _), (11, _), (10, _), (4, _), (9, _), (8, _), (6, _), (5, _), (3, _), (0, _)] _ _
  have hst := rf_take hlt
  rw [rfStep_dig hdg (fun hh => h86 (by rw [hh.1]; rfl))] at hst
  exact sP (hK (j + 1) (by show j + 1 ≤ _; omega) (by show l.length - (j + 1) < l.length - j; omega)) (by rw [hst]; exact (eC rfl (eC rfl (eC rfl (eC (by first | rfl | exact congrArg some (congrArg Value.bool (decide_eq_true (Nat.succ_pos _)).symm) | exact congrArg some (congrArg Value.bool ((decide_eq_true hj0).trans (decide_eq_true (Nat.succ_pos _)).symm))) (eC rfl (eC rfl (eC rfl (eC rfl (eC rfl (eC rfl (eC rfl (eC rfl (eC rfl (eC rfl (eC rfl (eC rfl (eC rfl (eN _))))))))))))))))))) (wJ _) (by intro d hd; exact hd)
 obtain rfl : j = l.length := by omega
 have e1 : (rf l).1 = m := by rw [hr]
 have e2 : (rf l).2.1 = n + k := by rw [hr]
 have e3 : (rf l).2.2.1 = (n : Int) := by rw [hr]
 have e4 : (rf l).2.2.2 = true := by rw [hr]
 rw [List.take_length, e1, e2, e3, e4, ← hsz]
 refine yL rfl (zD ?_)
 refine zD (zB ?_)
 refine zA (zF rfl rfl ?_)
 refine zA (vH rfl rfl ?_)
 refine zC (zG [140, 7, 2, 13, 15, 16, 17, 12, 10, 4, 9, 8, 6, 5, 3, 0] ?_)
 change Run _ _ _ _ _ [(140, _), (7, _), (2, _), (13, _), (15, _), (16, _), (17, _), (12, _), (10, _), (4, _), (9, _), (8, _), (6, _), (5, _), (3, _), (0, _)] _ _
 refine yE rfl (by simp [hln]) (zL ?_)
 refine zD (zD ?_)
 refine zB (zA ?_)
 refine zF rfl rfl (zA ?_)
 refine vH rfl rfl (zC ?_)
 refine zG [142, 7, 2, 15, 16, 17, 12, 10, 4, 9, 8, 6, 5, 3, 0] ?_
 change Run _ _ _ _ _ [(142, _), (7, _), (2, _), (15, _), (16, _), (17, _), (12, _), (10, _), (4, _), (9, _), (8, _), (6, _), (5, _), (3, _), (0, _)] _ _
 refine yE rfl (rfl) (zL ?_)
 refine zD (zD ?_)
 refine zB (zA ?_)
 refine zF rfl rfl (zA ?_)
 refine yA rfl rfl rfl (zC ?_)
 refine zG [145, 7, 2, 16, 17, 12, 10, 4, 9, 8, 6, 5, 3, 0] ?_
 change Run _ _ _ _ _ [(145, _), (7, _), (2, _), (16, _), (17, _), (12, _), (10, _), (4, _), (9, _), (8, _), (6, _), (5, _), (3, _), (0, _)] _ _
 refine yE rfl (rfl) (zL ?_)
 refine zD (zD ?_)
 refine zB (zA ?_)
 refine zF rfl rfl (zA ?_)
 refine zF rfl rfl (zA ?_)
 refine vC st9 rfl rfl (zA ?_)
 refine xX rfl rfl rfl (zA ?_)
 refine zF rfl rfl (vG (s := 154) rfl (decide_eq_false (by omega)) ?_)
 refine zI rfl rfl rfl rfl (zI rfl rfl rfl rfl ?_)
 refine zI rfl rfl rfl rfl (zI rfl rfl rfl rfl ?_)
 refine zI rfl rfl rfl rfl (zI rfl rfl rfl rfl ?_)
 refine zA (zR rfl rfl rfl ?_)
 refine zC (zG [161, 7, 2, 16, 17, 10, 4, 9, 8, 6, 5, 3, 0] ?_)
 change Run _ _ _ _ _ [(161, _), (7, _), (2, _), (16, _), (17, _), (10, _), (4, _), (9, _), (8, _), (6, _), (5, _), (3, _), (0, _)] _ _
 refine vB rfl (zD ?_)
 refine zB (zA ?_)
 refine zF rfl rfl (zA ?_)
 refine yA rfl rfl rfl (zC ?_)
 refine zG [239, 7, 2, 16, 17, 4, 9, 8, 6, 5, 3, 0] ?_
 change Run _ _ _ _ _ [(239, _), (7, _), (2, _), (16, _), (17, _), (4, _), (9, _), (8, _), (6, _), (5, _), (3, _), (0, _)] _ _
 refine yE rfl (rfl) (zL ?_)
 refine zD (zD ?_)
 refine zB (zA ?_)
 refine zF rfl rfl (zA ?_)
 refine tG rfl rfl rfl (zC ?_)
 refine yG rfl (decide_eq_true (by omega)) (zB ?_)
 refine zA (zF rfl rfl ?_)
 refine zA (zF rfl rfl ?_)
 refine zA (wE (s := -((k : Nat) : Int)) rfl rfl rfl (by omega) (by omega) (by omega) ?_)
 refine zA (zE rfl rfl ?_)
 refine zC (zG [3, 7, 2, 4, 9, 8, 6, 5, 0] ?_)
 change Run _ _ _ _ _ [(3, _), (7, _), (2, _), (4, _), (9, _), (8, _), (6, _), (5, _), (0, _)] _ _
 refine zD (zD ?_)
 refine zB (zA ?_)
 refine zF rfl rfl (zA ?_)
 refine zF rfl rfl (zI rfl rfl rfl rfl ?_)
 refine zI rfl rfl rfl rfl (zI rfl rfl rfl rfl ?_)
 refine zI rfl rfl rfl rfl (zI rfl rfl rfl rfl ?_)
 refine zA (zR rfl rfl rfl ?_)
 refine zC (zG [252, 3, 7, 2, 4, 8, 6, 5] ?_)
 change Run _ _ _ _ _ [(252, _), (3, _), (7, _), (2, _), (4, _), (8, _), (6, _), (5, _)] _ _
 refine vB rfl (zL ?_)
 refine zD (zB ?_)
 refine zA (zE rfl rfl ?_)
 refine zC ?_
 exact run_ret7 Tryz.results266 rfl rfl rfl rfl rfl rfl rfl ⟨rfl, rfl, rfl⟩ nS (fun _ h => by cases h)
end Go.Jw

namespace Go.Jw
open Go Go.RowKit Go.Proofs
set_option maxRecDepth 8000
section rules
variable {P : Program} {n : Nat} {F : List Nat} {c : Ctx F} {ops : Array Oper} {d : Nat} {T : TypeId} {l : List Oper} {k : List KI} {Q : Post} {e : Env} {M : List HA} {D : List DA}
variable {x y : Operand} {S S' : TypeId}
theorem op_neqNN (hS : P.underlying S = some (.interface (P.methodsAt S))) (hd : Nat.blt d n = true) (hx : ev e x = some .nilIface) (next : RunOps P n c ops l k Q ((d, .bool false) :: e) M D) : RunOp P n c ops (some d) (.binOp .neq S x (.const .nilIface) S') T l k Q e M D :=
 wI hd (fun a w hf => by
  have h1 := run_neq_nil_nil (P := P) (w := w) S hS
  have h2 : a.eval (.const .nilIface) = .nilIface := rfl
  simp only [execOp, opr, hf.ev hx, h2, eqGuard_nil_constR, Sem.run_bind, Sem.run_pure, Result.andThen_ok, h1]) next
theorem op_convNF {kd : IntKind} {m : Nat} (hS : (P.underlying S).isSome = true) (hS' : P.underlying S' = some (.float .f64)) (hd : Nat.blt d n = true) (hx : ev e x = some (.int kd (m : Nat))) (next : RunOps P n c ops l k Q ((d, .float .f64 (near false m 0)) :: e) M D) :
  RunOp P n c ops (some d) (.convert S S' x) T l k Q e M D := by
 refine op_convIF hS hS' hd hx ?_
 rw [show decide ((m : Int) < 0) = false from decide_eq_false (by omega), Int.natAbs_natCast]
 exact next
end rules
theorem if77 : Tryz.prog.underlying 77 = some (.interface (Tryz.prog.methodsAt 77)) := by kernel_rfl
theorem ft_pow {F : List Nat} {c : Ctx F} {M : List HA} {D : List DA} {w : World} (h : FitsW c M D w) {j k : Nat} {fb : Addr} (hj : D[j]? = some (ftD fb)) (hk : k = 1 ∨ k = 2 ∨ k = 6) : w.cell? (fb.add (k * 1)) = some (.float .f64 (near false (10 ^ k) 0)) := by
 have hd : ∀ q ∈ ftL fb, _ ∧ w.cell? q.1 = some q.2 := h.dt hj
 rcases hk with rfl | rfl | rfl
 ·rw [c_10]; exact (hd (fb.add 1, _) (by simp [ftL])).2
 ·rw [c_100]; exact (hd (fb.add 2, _) (by simp [ftL])).2
 ·rw [c_1000000]; exact (hd (fb.add 6, _) (by simp [ftL])).2
theorem pow53 {k : Nat} (hk : k = 1 ∨ k = 2 ∨ k = 6) : 10 ^ k < 2 ^ 53 := by rcases hk with rfl | rfl | rfl <;> decide
structure QTxt (s : ByteArray) (n : Int) : Prop where
 ok : ∃ (l : List UInt8) (m nn k : Nat), NumTxt s (decide (n < 0)) l ∧ rf l = (m, nn + k, (nn : Int), true) ∧ 0 < m ∧ m < 2 ^ 52 ∧ (k = 1 ∨ k = 2 ∨ k = 6) ∧ nn + k ≤ 18 ∧ m * 4 = 10 ^ k * n.natAbs ∧ 0 < n.natAbs ∧ n.natAbs < 2 ^ 53

theorem c274 (b : Bool) : CtV Tryz.prog 274 #[.bool b] [] (.int .u64 ((b.toNat : Nat) : Int)) := by
 refine Ct.of_run (args := [.bool b]) Tryz.func274 (by kernel_rfl) rfl Tryz.ntmps274 rfl (fun c => ?_)
 refine zD (zB ?_)
 refine zA (zE rfl rfl ?_)
 refine zC (zD ?_)
 refine zD (zB ?_)
 refine zA (zF rfl rfl ?_)
 refine zC (yM rfl (fun h3 => ?_) (fun h3 => ?_))
 ·subst h3
  refine zD (zB ?_)
  refine zA (zE rfl rfl ?_)
  refine zC ?_
  exact zK Tryz.results274 rfl ⟨rfl, rfl, rfl⟩ nS (fun _ h => by cases h)
 subst h3
 refine zL (zD ?_)
 refine zB (zA ?_)
 refine zE rfl rfl (zC ?_)
 exact zK Tryz.results274 rfl ⟨rfl, rfl, rfl⟩ nS (fun _ h => by cases h)
theorem c276 (fb : Addr) (neg : Bool) (m A k : Nat) (hm : 0 < m) (hm2 : m < 2 ^ 52) (hk : k = 1 ∨ k = 2 ∨ k = 6) (hA : 0 < A) (hA2 : A < 2 ^ 53) (h4 : m * 4 = 10 ^ k * A) : CtV Tryz.prog 276 #[.int .u64 (m : Int), .int .i64 (-((k : Nat) : Int)), .bool neg] [ftD fb] (.tuple #[.float .f64 (near neg A (-2)), .bool true]) := by
 refine Ct.of_run (args := [.int .u64 (m : Int), .int .i64 (-((k : Nat) : Int)), .bool neg]) Tryz.func276 (by kernel_rfl) rfl Tryz.ntmps276 rfl (fun c => ?_)
 have hk6 : 1 ≤ k ∧ k ≤ 6 := by omega
 refine zD (zB ?_)
 refine zA (zE rfl rfl ?_)
 refine zA (zE rfl rfl ?_)
 refine zC (zD ?_)
 refine zD (zB ?_)
 refine zA (zF rfl rfl ?_)
 refine zA (zJ fo305_0 rfl rfl ?_)
 refine zA (uX 0 1 sc206 rfl rfl rfl rfl ?_)
 refine zA (op_shrU (m := m) (s := 52) (r := 0) rfl rfl rfl (by omega) (Nat.div_eq_of_lt hm2) ?_)
 refine zA (tG rfl rfl rfl ?_)
 refine zC (yE rfl (rfl) ?_)
 refine zL (zD ?_)
 refine zB (zA ?_)
 refine zF rfl rfl (zA ?_)
 refine op_convNF (by rw [Tryz.underlying235]; rfl) Tryz.underlying214 rfl rfl (zA ?_)
 refine zE rfl rfl (zC ?_)
 refine zD (zD ?_)
 refine zB (zA ?_)
 refine zF rfl rfl (zC ?_)
 refine zG [15, 6, 7, 1] ?_
 change Run _ _ _ _ _ [(15, _), (6, _), (7, _), (1, _)] _ _
 refine yM rfl (fun h15 => ?_) (fun h15 => ?_)
 ·subst h15
  refine zB (zA ?_)
  refine zF rfl rfl (zA ?_)
  refine op_fneg rfl rfl (neg_near hm (by omega) (by omega) (by omega)) (zA ?_)
  refine zE rfl rfl (zC ?_)
  refine zD (zO ?_)
  refine zD (zB ?_)
  refine zA (zF rfl rfl ?_)
  refine zA (yA rfl rfl rfl ?_)
  refine zA (zE rfl rfl ?_)
  refine zC (yE rfl (decide_eq_false (by omega)) ?_)
  refine zD (zB ?_)
  refine zA (zF rfl rfl ?_)
  refine zA (vI rfl rfl rfl ?_)
  refine zA (zF rfl rfl ?_)
  refine vG (s := 25) rfl (decide_eq_false (by omega)) (zI rfl rfl rfl rfl ?_)
  refine zI rfl rfl rfl rfl (zA ?_)
  refine zR rfl rfl rfl (zA ?_)
  refine zE rfl rfl (zC ?_)
  refine zG [22, 6, 7, 1] ?_
  change Run _ _ _ _ _ [(22, _), (6, _), (7, _), (1, _)] _ _
  refine vB rfl (zD ?_)
  refine zB (zA ?_)
  refine zF rfl rfl (zA ?_)
  refine vY rfl rfl rfl (zA ?_)
  refine zF rfl rfl (pP (s := 53) rfl (decide_eq_true (by omega)) ?_)
  refine zM rfl rfl (zF rfl rfl ?_)
  refine zM rfl rfl (qW rfl rfl rfl ?_)
  refine zA (zR rfl rfl rfl ?_)
  refine zA (zE rfl rfl ?_)
  refine zC (yG rfl (decide_eq_true (by omega)) ?_)
  refine zD (zB ?_)
  refine zA (zF rfl rfl ?_)
  refine zA (uX 0 2 sc349 rfl rfl rfl rfl ?_)
  refine zA (zF rfl rfl ?_)
  refine zA (sE (s := ((k : Nat) : Int)) rfl rfl (by omega) (by omega) (by omega) ?_)
  refine zA (wU sl349 rfl rfl rfl (by omega) ?_)
  refine zA (xD sc214 rfl rfl (fun _ h => ft_pow h (j := 0) rfl hk) ?_)
  refine zA (op_fquo rfl rfl rfl (qw_parse _ hA hA2 (by omega) (pow53 hk) h4) ?_)
  refine zA (zE rfl rfl ?_)
  refine zA (zE rfl rfl ?_)
  refine zC (zG [7, 6] ?_)
  change Run _ _ _ _ _ [(7, _), (6, _)] _ _
  exact sF Tryz.results276 rfl rfl ⟨rfl, rfl, rfl⟩ nS (fun _ h => by cases h)
 subst h15
 refine zL (zD ?_)
 refine zO (zD ?_)
 refine zB (zA ?_)
 refine zF rfl rfl (zA ?_)
 refine yA rfl rfl rfl (zA ?_)
 refine zE rfl rfl (zC ?_)
 refine yE rfl (decide_eq_false (by omega)) (zD ?_)
 refine zB (zA ?_)
 refine zF rfl rfl (zA ?_)
 refine vI rfl rfl rfl (zA ?_)
 refine zF rfl rfl (vG (s := 25) rfl (decide_eq_false (by omega)) ?_)
 refine zI rfl rfl rfl rfl (zI rfl rfl rfl rfl ?_)
 refine zA (zR rfl rfl rfl ?_)
 refine zA (zE rfl rfl ?_)
 refine zC (zG [22, 6, 7, 1] ?_)
 change Run _ _ _ _ _ [(22, _), (6, _), (7, _), (1, _)] _ _
 refine vB rfl (zD ?_)
 refine zB (zA ?_)
 refine zF rfl rfl (zA ?_)
 refine vY rfl rfl rfl (zA ?_)
 refine zF rfl rfl (pP (s := 53) rfl (decide_eq_true (by omega)) ?_)
 refine zM rfl rfl (zF rfl rfl ?_)
 refine zM rfl rfl (qW rfl rfl rfl ?_)
 refine zA (zR rfl rfl rfl ?_)
 refine zA (zE rfl rfl ?_)
 refine zC (yG rfl (decide_eq_true (by omega)) ?_)
 refine zD (zB ?_)
 refine zA (zF rfl rfl ?_)
 refine zA (uX 0 2 sc349 rfl rfl rfl rfl ?_)
 refine zA (zF rfl rfl ?_)
 refine zA (sE (s := ((k : Nat) : Int)) rfl rfl (by omega) (by omega) (by omega) ?_)
 refine zA (wU sl349 rfl rfl rfl (by omega) ?_)
 refine zA (xD sc214 rfl rfl (fun _ h => ft_pow h (j := 0) rfl hk) ?_)
 refine zA (op_fquo rfl rfl rfl (qw_parse _ hA hA2 (by omega) (pow53 hk) h4) ?_)
 refine zA (zE rfl rfl ?_)
 refine zA (zE rfl rfl ?_)
 refine zC (zG [7, 6] ?_)
 change Run _ _ _ _ _ [(7, _), (6, _)] _ _
 exact sF Tryz.results276 rfl rfl ⟨rfl, rfl, rfl⟩ nS (fun _ h => by cases h)
theorem c265 {s : ByteArray} {neg : Bool} {l : List UInt8} (hN : NumTxt s neg l) : CtV Tryz.prog 265 #[.string s] [] (.tuple #[.float .f64 0, .int .i64 0, .bool false]) := by
  obtain ⟨hsz, hs19, hln, hl18⟩ := hN.sz
  have hs0 := hN.sign (by omega)
  obtain ⟨h1, h2⟩ := hN.c (j := 0) hln
  have hd := hN.d0 hln
  cases neg with
  | false => exact c265d s (by omega) (by have h3 : s[0] = l[0] := h2; rw [h3]; exact hd)
  | true => exact c265m s (by have : true.toNat = 1 := rfl; omega) (hs0.2 rfl) (by have h3 : s[1] = l[0] := h2; rw [h3]; exact hd)
theorem c253 (s : ByteArray) (l : List UInt8) (nn : Nat) (fb : Addr) (neg : Bool) (m A k : Nat) (hm : 0 < m) (hm2 : m < 2 ^ 52) (hk : k = 1 ∨ k = 2 ∨ k = 6) (hA : 0 < A) (hA2 : A < 2 ^ 53) (h4 : m * 4 = 10 ^ k * A) (hN : NumTxt s neg l) (hr : rf l = (m, nn + k, (nn : Int), true)) (hnk : nn + k ≤ 18) : CtV Tryz.prog 253 #[.string s] [ftD fb] (.tuple #[.float .f64 (near neg A (-2)), .int .i64 ((s.size : Nat) : Int), .nilIface]) := by
 refine Ct.of_run (args := [.string s]) Tryz.func253 (by kernel_rfl) rfl Tryz.ntmps253 rfl (fun c => ?_)
 have hk6 : 1 ≤ k ∧ k ≤ 6 := by omega
 refine zD (zB ?_)
 refine zA (zE rfl rfl ?_)
 refine zA (zE rfl rfl ?_)
 refine zA (zE rfl rfl ?_)
 refine zC (zD ?_)
 refine zD (zB ?_)
 refine zA (zF rfl rfl ?_)
 refine zA (zY rfl rfl rfl (c265 hN) sub0 ?_)
 refine zA (zF rfl rfl ?_)
 refine zA (yD rfl rfl rfl ?_)
 refine zA (yD rfl rfl rfl ?_)
 refine zA (yD rfl rfl rfl ?_)
 refine zA (zE rfl rfl ?_)
 refine zA (zE rfl rfl ?_)
 refine zA (zE rfl rfl ?_)
 refine zC (zD ?_)
 refine zB (zA ?_)
 refine zF rfl rfl (zC ?_)
 refine zG [32, 6, 5, 4, 0] ?_
 change Run _ _ _ _ _ [(32, _), (6, _), (5, _), (4, _), (0, _)] _ _
 refine yE rfl (rfl) (zL ?_)
 refine zD (zB ?_)
 refine zA (zF rfl rfl ?_)
 refine zA (zY rfl rfl rfl (c266 s neg l hN m nn k hr hm hnk) sub0 ?_)
 refine zA (zF rfl rfl ?_)
 refine zA (yD rfl rfl rfl ?_)
 refine zA (yD rfl rfl rfl ?_)
 refine zA (yD rfl rfl rfl ?_)
 refine zA (yD rfl rfl rfl ?_)
 refine zA (yD rfl rfl rfl ?_)
 refine zA (yD rfl rfl rfl ?_)
 refine zA (yD rfl rfl rfl ?_)
 refine zA (zE rfl rfl ?_)
 refine zA (zE rfl rfl ?_)
 refine zA (zE rfl rfl ?_)
 refine zA (zE rfl rfl ?_)
 refine zA (zE rfl rfl ?_)
 refine zA (zE rfl rfl ?_)
 refine zA (zE rfl rfl ?_)
 refine zC (zG [13, 3, 12, 11, 10, 9, 8, 4, 0] ?_)
 change Run _ _ _ _ _ [(13, _), (3, _), (12, _), (11, _), (10, _), (9, _), (8, _), (4, _), (0, _)] _ _
 refine zD (zD ?_)
 refine zB (zA ?_)
 refine zF rfl rfl (zA ?_)
 refine vH rfl rfl (zC ?_)
 refine yE rfl (rfl) (zL ?_)
 refine zD (zD ?_)
 refine zB (zA ?_)
 refine zF rfl rfl (zC ?_)
 refine yE rfl (rfl) (zL ?_)
 refine zD (zD ?_)
 refine zB (zA ?_)
 refine uX 0 0 sc4 rfl rfl rfl rfl (zC ?_)
 refine yG rfl (rfl) (zD ?_)
 refine zB (zA ?_)
 refine zF rfl rfl (zA ?_)
 refine zY rfl rfl rfl (c274 neg) sub0 (zA ?_)
 refine op_shlU (m := neg.toNat) (s := 63) (r := neg.toNat * 2 ^ 63) rfl rfl rfl (by omega) rfl (by cases neg <;> decide) (zA ?_)
 refine zE rfl rfl (zC ?_)
 refine zG [16, 3, 11, 10, 9, 8, 4, 0] ?_
 change Run _ _ _ _ _ [(16, _), (3, _), (11, _), (10, _), (9, _), (8, _), (4, _), (0, _)] _ _
 refine zD (zD ?_)
 refine zB (zA ?_)
 refine zF rfl rfl (zA ?_)
 refine yA rfl rfl rfl (zC ?_)
 refine yE rfl (decide_eq_false (by omega)) (zL ?_)
 refine zD (zD ?_)
 refine zB (zA ?_)
 refine zF rfl rfl (zA ?_)
 refine vI rfl rfl rfl (zC ?_)
 refine yE rfl (decide_eq_false (by omega)) (zL ?_)
 refine zD (zD ?_)
 refine zB (zA ?_)
 refine zF rfl rfl (zA ?_)
 refine vY rfl rfl rfl (zC ?_)
 refine yE rfl (decide_eq_false (by omega)) (zL ?_)
 refine zD (zD ?_)
 refine zB (zA ?_)
 refine zF rfl rfl (zA ?_)
 refine vH rfl rfl (zC ?_)
 refine zG [88, 16, 3, 11, 10, 9, 8, 4, 0] ?_
 change Run _ _ _ _ _ [(88, _), (16, _), (3, _), (11, _), (10, _), (9, _), (8, _), (4, _), (0, _)] _ _
 refine yG rfl (rfl) (zD ?_)
 refine zB (zA ?_)
 refine zF rfl rfl (zA ?_)
 refine zF rfl rfl (zA ?_)
 refine zF rfl rfl (zA ?_)
 refine zY rfl rfl rfl (c276 fb neg m A k hm hm2 hk hA hA2 h4) (sub1 0 rfl) (zA ?_)
 refine zF rfl rfl (zA ?_)
 refine yD rfl rfl rfl (zA ?_)
 refine yD rfl rfl rfl (zA ?_)
 refine zE rfl rfl (zA ?_)
 refine zE rfl rfl (zC ?_)
 refine zG [18, 17, 16, 3, 11, 9, 8, 4, 0] ?_
 change Run _ _ _ _ _ [(18, _), (17, _), (16, _), (3, _), (11, _), (9, _), (8, _), (4, _), (0, _)] _ _
 refine zD (zB ?_)
 refine zA (zF rfl rfl ?_)
 refine zC (yG rfl (rfl) ?_)
 refine zD (zB ?_)
 refine zA (zF rfl rfl ?_)
 refine zA (zF rfl rfl ?_)
 refine zA (zE rfl rfl ?_)
 refine zA (zE rfl rfl ?_)
 refine zA (zE rfl rfl ?_)
 refine zC (zG [4, 3, 2] ?_)
 change Run _ _ _ _ _ [(4, _), (3, _), (2, _)] _ _
 exact run_ret3 Tryz.results253 rfl rfl rfl ⟨rfl, rfl, rfl⟩ nS (fun _ h => by cases h)
theorem c236 (fb : Addr) (s : ByteArray) (n : Int) (hq : QTxt s n) : CtV Tryz.prog 236 #[.string s, .int .i64 64] [ftD fb] (.tuple #[.float .f64 (qw n), .int .i64 ((s.size : Nat) : Int), .nilIface]) := by
 refine Ct.of_run (args := [.string s, .int .i64 64]) Tryz.func236 (by kernel_rfl) rfl Tryz.ntmps236 rfl (fun c => ?_)
 obtain ⟨l, m, nn, k, hN, hr, hm, hm2, hk, hnk, h4, hA, hA2⟩ := hq.ok
 refine zD (zB ?_)
 refine zA (zE rfl rfl ?_)
 refine zA (zE rfl rfl ?_)
 refine zA (zE rfl rfl ?_)
 refine zC (zD ?_)
 refine zD (zB ?_)
 refine zA (zF rfl rfl ?_)
 refine zA (yA rfl rfl rfl ?_)
 refine zC (yE rfl (rfl) ?_)
 refine zL (zD ?_)
 refine zB (zA ?_)
 refine zF rfl rfl (zA ?_)
 refine zY rfl rfl rfl (c253 s l nn fb (decide (n < 0)) m n.natAbs k hm hm2 hk hA hA2 h4 hN hr hnk) (sub1 0 rfl) (zA ?_)
 refine yD rfl rfl rfl (zA ?_)
 refine yD rfl rfl rfl (zA ?_)
 refine yD rfl rfl rfl (zA ?_)
 refine zE rfl rfl (zA ?_)
 refine zE rfl rfl (zA ?_)
 refine zE rfl rfl (zC ?_)
 refine zG [6, 5, 4] ?_
 change Run _ _ _ _ _ [(6, _), (5, _), (4, _)] _ _
 exact run_ret3 Tryz.results236 rfl rfl rfl ⟨rfl, rfl, rfl⟩ nS (fun _ h => by cases h)
theorem c215 (fb : Addr) (s : ByteArray) (n : Int) (hq : QTxt s n) : CtV Tryz.prog 215 #[.string s, .int .i64 64] [ftD fb] (.tuple #[.float .f64 (qw n), .nilIface]) := by
 refine Ct.of_run (args := [.string s, .int .i64 64]) Tryz.func215 (by kernel_rfl) rfl Tryz.ntmps215 rfl (fun c => ?_)
 refine zD (zB ?_)
 refine zA (zE rfl rfl ?_)
 refine zA (zE rfl rfl ?_)
 refine zC (zD ?_)
 refine zB (zA ?_)
 refine zF rfl rfl (zA ?_)
 refine zF rfl rfl (zA ?_)
 refine zY rfl rfl rfl (c236 fb s n hq) (sub1 0 rfl) (zA ?_)
 refine zF rfl rfl (zA ?_)
 refine yD rfl rfl rfl (zA ?_)
 refine yD rfl rfl rfl (zA ?_)
 refine yD rfl rfl rfl (zA ?_)
 refine zE rfl rfl (zA ?_)
 refine zE rfl rfl (zA ?_)
 refine zE rfl rfl (zC ?_)
 refine zG [8, 7, 6, 0] ?_
 change Run _ _ _ _ _ [(8, _), (7, _), (6, _), (0, _)] _ _
 refine zD (zD ?_)
 refine zB (zA ?_)
 refine zF rfl rfl (zA ?_)
 refine zF rfl rfl (zA ?_)
 refine vC st9 rfl rfl (zA ?_)
 refine tG rfl rfl rfl (zC ?_)
 refine yE rfl (decide_eq_false (fun h => h rfl)) (zL ?_)
 refine zD (zB ?_)
 refine zA (zF rfl rfl ?_)
 refine zA (zF rfl rfl ?_)
 refine zA (zE rfl rfl ?_)
 refine zA (zE rfl rfl ?_)
 refine zC (zG [5, 4] ?_)
 change Run _ _ _ _ _ [(5, _), (4, _)] _ _
 exact sF Tryz.results215 rfl rfl ⟨rfl, rfl, rfl⟩ nS (fun _ h => by cases h)
theorem c179 (fb : Addr) (s : ByteArray) (n : Int) (hq : QTxt s n) : CtV Tryz.prog 179 #[.string s, .int .i64 64] [ftD fb] (.tuple #[.float .f64 (qw n), .nilIface]) := by
 refine Ct.of_run (args := [.string s, .int .i64 64]) Tryz.func179 (by kernel_rfl) rfl Tryz.ntmps179 rfl (fun c => ?_)
 refine zD (zB ?_)
 refine zA (zE rfl rfl ?_)
 refine zA (zE rfl rfl ?_)
 refine zC (zD ?_)
 refine zB (zA ?_)
 refine zF rfl rfl (zA ?_)
 refine zF rfl rfl (zA ?_)
 refine zY rfl rfl rfl (c215 fb s n hq) (sub1 0 rfl) (zA ?_)
 refine zF rfl rfl (zA ?_)
 refine yD rfl rfl rfl (zA ?_)
 refine yD rfl rfl rfl (zA ?_)
 refine zE rfl rfl (zA ?_)
 refine zE rfl rfl (zC ?_)
 refine zD (zD ?_)
 refine zB (zA ?_)
 refine zF rfl rfl (zA ?_)
 refine op_neqNN if77 rfl rfl (zC ?_)
 refine zG [15, 7, 6, 0, 1] ?_
 change Run _ _ _ _ _ [(15, _), (7, _), (6, _), (0, _), (1, _)] _ _
 refine yE rfl (rfl) (zL ?_)
 refine zD (zB ?_)
 refine zA (zF rfl rfl ?_)
 refine zA (zE rfl rfl ?_)
 refine zA (zE rfl rfl ?_)
 refine zC ?_
 exact sF Tryz.results179 rfl rfl ⟨rfl, rfl, rfl⟩ nS (fun _ h => by cases h)
end Go.Jw

namespace Go.Jw
open Go Go.Lib
theorem dec_ne (u : Nat) : decDigits u ≠ [] := fun h => by
 have h1 := decDigits_length u
 have h2 := nDigits_pos u
 rw [h] at h1
 simp only [List.length_nil] at h1
 omega
theorem dec_head (u : Nat) (h0 : u ≠ 0) : ∀ c r, decDigits u = c :: r → c ≠ 48 := by
  induction u using Nat.strongRecOn with
  | _ u ih =>
    intro c r h
    rw [decDigits] at h
    split at h
    · rename_i h9
      injection h with h1 h2
      subst h1
      intro he
      have := congrArg UInt8.toNat he
      rw [qQ h9] at this
      have h48 : (48 : UInt8).toNat = 48 := rfl
      omega
    · rename_i h9
      cases hd : decDigits (u / 10) with
      | nil => exact absurd hd (dec_ne _)
      | cons c' r' =>
        rw [hd, List.cons_append] at h
        injection h with h1 h2
        subst h1
        exact ih (u / 10) (by omega) (by omega) _ _ hd
theorem dec_zero : decDigits 0 = [48] := by rw [decDigits]; rfl
theorem numTxt_of {s : ByteArray} {neg : Bool} {A k : Nat} {fr : List UInt8} (hs : rl s = (if neg then [45] else []) ++ (decDigits (A / 4) ++ fr)) (hA : A < 1000000000) (hf : Frac fr (A % 4) k) : NumTxt s neg (decDigits (A / 4) ++ fr) := by
  obtain ⟨hdec, _⟩ := rf_quart hA hf
  have hsz : s.size = (rl s).length := rfl
  have hne : 0 < (decDigits (A / 4)).length := List.length_pos_iff.2 (dec_ne _)
  have hd0 : ∀ h : 0 < (decDigits (A / 4) ++ fr).length, Dgt (decDigits (A / 4) ++ fr)[0] := fun h => by
    rw [List.getElem_append_left hne]
    exact rP _ _ (List.getElem_mem _)
  have hat : Sf s neg.toNat (decDigits (A / 4) ++ fr) := by
    refine ⟨?_, ?_⟩
    · rw [hs]; cases neg <;> rfl
    · rw [hsz, hs]; cases neg <;> simp
  have hn0 : 0 < (decDigits (A / 4) ++ fr).length := by rw [List.length_append]; omega
  refine ⟨hat, fun h => ?_, hdec, hn0, hd0, fun h h48 => ?_⟩
  · have hg : s[0] = (rl s)[0]'(by rw [← hsz]; exact h) := rfl
    rw [hg]
    cases neg with
    | true => simp [hs]
    | false =>
      have h2 : (rl s)[0]'(by rw [← hsz]; exact h) = (decDigits (A / 4) ++ fr)[0] := by simp [hs]
      rw [h2]
      have h3 := hd0 hn0
      constructor
      · intro he
        rw [he] at h3
        exact absurd h3.1 (by decide)
      · intro he; cases he
  · rw [List.getElem_append_left hne] at h48
    have hz : A / 4 = 0 := Classical.byContradiction fun hz => by
      cases hd : decDigits (A / 4) with
      | nil => exact dec_ne _ hd
      | cons c r => exact dec_head _ hz _ _ hd (by simp only [hd] at h48; exact h48)
    have hl1 : (decDigits (A / 4)).length = 1 := by rw [hz, dec_zero]; rfl
    rw [List.getElem_append_right (by omega)]
    have hh := hf.hd
    cases fr with
    | nil => cases hh
    | cons c r =>
      simp only [List.head?_cons, Option.some.injEq] at hh
      subst hh
      simp [hl1]
theorem quart_of {s : ByteArray} {n : Int} {k : Nat} {fr : List UInt8} (h1 : -1000000000 < n) (h2 : n < 1000000000) (hs : rl s = (if decide (n < 0) then [45] else []) ++ (decDigits (n.natAbs / 4) ++ fr)) (hf : Frac fr (n.natAbs % 4) k) (hk : k = 1 ∨ k = 2 ∨ k = 6) : QTxt s n := by
 have hA : n.natAbs < 1000000000 := by omega
 obtain ⟨_, m, nn, hr, h4, hm, hm2, hn9⟩ := rf_quart hA hf
 have := hf.q3
 exact ⟨_, m, nn, k, numTxt_of hs hA hf, hr, hm, hm2, hk, by omega, h4, by omega, by omega⟩
theorem rl_itoa (m : Nat) : rl (itoaB (m : Int)) = decDigits m := by
 show Lib.itoa (m : Int) = _
 unfold Lib.itoa
 rw [if_neg (by omega), Int.toNat_natCast]
theorem rl_sign (b : Bool) : rl (if b = true then (⟨#[45]⟩ : ByteArray) else ⟨#[]⟩) = if b then [45] else [] := by cases b <;> rfl
theorem tmod4 {n : Int} (h : n.tmod 4 ≠ 0) : 0 < n.natAbs % 4 ∧ n.natAbs % 4 < 4 := by
 refine ⟨?_, Nat.mod_lt _ (by omega)⟩
 have h1 : (n.tmod 4).natAbs = n.natAbs % 4 := Int.natAbs_tmod n 4
 omega
theorem qtxt_V {n : Int} (h0 : n.tmod 4 ≠ 0) (h1 : -1000000000 < n) (h2 : n < 1000000000) : QTxt (quartV n) n := by
 obtain ⟨a1, a2⟩ := tmod4 h0
 obtain ⟨k, hf, hk⟩ := frac_frac a1 a2
 refine quart_of h1 h2 ?_ hf (by omega)
 unfold quartV quartS
 rw [rl_app, rl_app, rl_itoa, rl_sign, List.append_assoc]
 rfl
theorem qtxt_F {n : Int} (h0 : n.tmod 4 ≠ 0) (h1 : -1000000000 < n) (h2 : n < 1000000000) : QTxt (quartF n) n := by
 obtain ⟨a1, a2⟩ := tmod4 h0
 refine quart_of h1 h2 ?_ (frac_frac6 a1 a2) (by omega)
 unfold quartF
 rw [rl_app, rl_app, rl_itoa, rl_sign, List.append_assoc]
 rfl
end Go.Jw

