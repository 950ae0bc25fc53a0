/- FnTextedUptoCardSaid, for every input within the row's bound: the JSON text of a schema without numbers has its keywords, part 5: the proof's texts, made small by a program. -/
import Derived.Test.YtlcfillobkdnmaaGreatDoorTa4
import Derived.Deep.QuietTactic
import Derived.Lib.RowBridge
import Derived.Lib.SortBridge
import Derived.Sort.LotA
import Derived.WalkKit
set_option linter.unusedVariables false
set_option linter.unusedSimpArgs false
namespace Go.Jw
open Go Go.RowKit Go.Proofs
set_option maxRecDepth 8000
theorem c152f (s : ByteArray) (hs : s.size ≤ maxLen) (hf : IsFourth s) : ∃ T : ByteArray, (T = ⟨#[104, 116, 116, 112, 58, 47, 47, 106, 115, 111, 110, 45, 115, 99, 104, 101, 109, 97, 46, 111, 114, 103, 47, 100, 114, 97, 102, 116, 45, 48, 52, 47, 115, 99, 104, 101, 109, 97]⟩ ∨ T = ⟨#[35]⟩ ∨ T = ⟨#[]⟩) ∧ CtV Tryz.prog 152 #[.string s, .string ⟨#[35]⟩] [] (.string T) := by
  refine ⟨_, ?_, c152 s hs⟩
  rcases hf with rfl | rfl | rfl | rfl | rfl
  · exact .inl (by decide +kernel)
  · exact .inl (by decide +kernel)
  · exact .inr (.inr (by decide +kernel))
  · exact .inr (.inr (by decide +kernel))
  · exact .inr (.inl (by decide +kernel))
set_option maxHeartbeats 4000000 in
theorem c105w (ft : DA) (mb : Nat) (G : Gr) (v : V) (HF : ∀ key x, getV v key = some x → kwIdx key ≠ 0 → Fld ft mb G (shIdx (kwIdx key)) x) (hid : ∀ x, getV v kId = some x → ∃ u, getV v kSchema = some u ∧ IsFourth u.text) : C105 ft mb G v := by
  intro b hb
  refine Ct.of_run (args := [ptr b]) Tryz.func105 (by kernel_rfl) rfl Tryz.ntmps105 rfl (fun c => ?_)
  obtain ⟨f, ⟨cs, hg⟩, hU⟩ := (unf_iff G v b).1 hb
  refine run_gr 0 rfl hg (fun hcl => ?_)
  refine xA 1 33 rfl (by decide) (by decide) (fun p33 hc33 hp33 => ?_)
  refine xA 1 2 rfl (by decide) (by decide) (fun p2 hc2 hp2 => ?_)
  refine xA 1 1 rfl (by decide) (by decide) (fun p1 hc1 hp1 => ?_)
  refine xA 1 4 rfl (by decide) (by decide) (fun p4 hc4 hp4 => ?_)
  have hn4 : p4.isSome = false := by rw [hp4, ro_none hU 4 (by decide) (by decide) (by decide) (by decide)]; rfl
  refine xA 1 5 rfl (by decide) (by decide) (fun p5 hc5 hp5 => ?_)
  have hn5 : p5.isSome = false := by rw [hp5, ro_none hU 5 (by decide) (by decide) (by decide) (by decide)]; rfl
  refine xA 1 27 rfl (by decide) (by decide) (fun p27 hc27 hp27 => ?_)
  refine xA 1 15 rfl (by decide) (by decide) (fun p15 hc15 hp15 => ?_)
  refine xA 1 34 rfl (by decide) (by decide) (fun p34 hc34 hp34 => ?_)
  refine xA 1 21 rfl (by decide) (by decide) (fun p21 hc21 hp21 => ?_)
  refine xA 1 22 rfl (by decide) (by decide) (fun p22 hc22 hp22 => ?_)
  refine xA 1 24 rfl (by decide) (by decide) (fun p24 hc24 hp24 => ?_)
  refine xA 1 23 rfl (by decide) (by decide) (fun p23 hc23 hp23 => ?_)
  refine xA 1 25 rfl (by decide) (by decide) (fun p25 hc25 hp25 => ?_)
  refine xA 1 3 rfl (by decide) (by decide) (fun p3 hc3 hp3 => ?_)
  refine xA 1 6 rfl (by decide) (by decide) (fun p6 hc6 hp6 => ?_)
  refine xA 1 7 rfl (by decide) (by decide) (fun p7 hc7 hp7 => ?_)
  refine xA 1 8 rfl (by decide) (by decide) (fun p8 hc8 hp8 => ?_)
  refine xA 1 9 rfl (by decide) (by decide) (fun p9 hc9 hp9 => ?_)
  refine xA 1 10 rfl (by decide) (by decide) (fun p10 hc10 hp10 => ?_)
  refine xA 1 11 rfl (by decide) (by decide) (fun p11 hc11 hp11 => ?_)
  refine xA 1 12 rfl (by decide) (by decide) (fun p12 hc12 hp12 => ?_)
  refine xA 1 13 rfl (by decide) (by decide) (fun p13 hc13 hp13 => ?_)
  refine xA 1 14 rfl (by decide) (by decide) (fun p14 hc14 hp14 => ?_)
  refine xA 1 16 rfl (by decide) (by decide) (fun p16 hc16 hp16 => ?_)
  refine xA 1 17 rfl (by decide) (by decide) (fun p17 hc17 hp17 => ?_)
  refine xA 1 18 rfl (by decide) (by decide) (fun p18 hc18 hp18 => ?_)
  refine xA 1 19 rfl (by decide) (by decide) (fun p19 hc19 hp19 => ?_)
  refine xA 1 20 rfl (by decide) (by decide) (fun p20 hc20 hp20 => ?_)
  refine xA 1 26 rfl (by decide) (by decide) (fun p26 hc26 hp26 => ?_)
  refine xA 1 28 rfl (by decide) (by decide) (fun p28 hc28 hp28 => ?_)
  refine xA 1 29 rfl (by decide) (by decide) (fun p29 hc29 hp29 => ?_)
  refine xA 1 30 rfl (by decide) (by decide) (fun p30 hc30 hp30 => ?_)
  refine xA 1 31 rfl (by decide) (by decide) (fun p31 hc31 hp31 => ?_)
  refine xA 1 32 rfl (by decide) (by decide) (fun p32 hc32 hp32 => ?_)
  refine xA 1 35 rfl (by decide) (by decide) (fun p35 hc35 hp35 => ?_)
  refine xA 1 36 rfl (by decide) (by decide) (fun p36 hc36 hp36 => ?_)
  refine xD (.ptrs [] (([] : List (ByteArray × Y)).flatMap prY)) (fun w ok h => rfl) (zD ?_)
  refine zB (zA ?_)
  refine zE rfl rfl (zC ?_)
  refine zD (zB ?_)
  refine zA (xR rfl rfl (bu150_0 ..) ?_)
  refine zA (xP rfl rfl rfl (fun b6 => ?_))
  refine zA (zE rfl rfl ?_)
  refine zC (zD ?_)
  refine zB (zA ?_)
  refine xT sl148 rfl rfl rfl (fun b7 => ?_)
  refine zA (zE rfl rfl ?_)
  refine zC (zD ?_)
  refine zD (zB ?_)
  refine zA (zF rfl rfl ?_)
  refine zA (zH rfl rfl ?_)
  refine zA (zJ fo124_33 rfl rfl ?_)
  refine zA (zN 1 sc111 rfl rfl rfl hc33 ?_)
  refine zA (yE pn111 rfl rfl ?_)
  refine zC (zG [12, 4, 3, 0] ?_)
  change Run _ _ _ _ _ [(12, _), (4, _), (3, _), (0, _)] _ _
  refine yU [3, 0] (fun (⟨m, A, ca, xs, L⟩ : Nat × Option Addr × Nat × List Value × List (ByteArray × Y)) => WI v f [33] L ∧ m ≤ 2) (fun (⟨m, A, ca, xs, L⟩ : Nat × Option Addr × Nat × List Value × List (ByteArray × Y)) => [(4, .slice A m ca)]) (fun (⟨m, A, ca, xs, L⟩ : Nat × Option Addr × Nat × List Value × List (ByteArray × Y)) => HA.row A m ca 102 1 xs :: HA.blk b6 (ycells 4 ⟨#[]⟩ ⟨#[]⟩ none 0 0) 150 :: []) (fun (⟨m, A, ca, xs, L⟩ : Nat × Option Addr × Nat × List Value × List (ByteArray × Y)) => .ptrs xs (L.flatMap prY) :: .dblk b cs 124 :: .flds mb cs f :: .gr mb G :: .tab :: ft :: []) ?_ ?_
  · intro K hK
    refine yH rfl (fun h12 => ?_) (fun h12 => ?_)
    · refine xQ 2 33 rfl (by decide) (by decide) hc33 hp33 h12 hU (fun fv x a hpa hfv hgx hkw hr => ?_)
      subst hpa
      have hF := HF _ _ hgx (by rw [hkw]; decide)
      rw [hkw] at hF
      change Fld ft mb G 1 x at hF
      change FvRel _ 1 x fv at hr
      obtain rfl := text_of hr
      refine run_text 0 rfl (fun p hp hs => ?_)
      cases hp
      refine zB (zA ?_)
      refine zF rfl rfl (zA ?_)
      refine zF rfl rfl (zA ?_)
      refine zH rfl rfl (zA ?_)
      refine zJ fo124_33 rfl rfl (zA ?_)
      refine zN 3 sc111 rfl rfl rfl hc33 (zA ?_)
      refine zH rfl rfl (zA ?_)
      refine yQ 0 sc9 rfl rfl rfl (zA ?_)
      refine zV rfl rfl rfl (c151 _ hs) sub0 (fun u20 D20 hv20 => ?_)
      obtain ⟨b20, rfl, rfl⟩ := hv20
      refine zA ?_
      refine zY 0 rfl rfl rfl (c150 _ _ _ _ _ _ (by decide) (by omega)) rfl sub0 (fun u21 M21 D21 hv21 => ?_)
      obtain ⟨A21, c21, b21, rfl, rfl, rfl⟩ := hv21
      refine zA (zE rfl rfl ?_)
      refine zC (zG [4, 3, 0] ?_)
      change Run _ _ _ _ _ [(4, _), (3, _), (0, _)] _ _
      refine yP (L := []) 4 0 1 rfl rfl rfl ?_
      exact kQ (hK (_, _, _, _, [] ++ [(keyOf 33, _)]) ⟨(WI.nil v f).add rfl hkw (by decide) (by decide) hgx (.inl ⟨rfl, rfl⟩), by show _ + 2 ≤ _; omega⟩) (EnvLe.cons rfl (EnvLe.cons rfl (EnvLe.cons rfl (EnvLe.nil _)))) (hD := (subc 0 rfl (by intro d hd; repeat (first | exact hd | apply List.mem_cons_of_mem))))
    refine zL ?_
    exact kQ (hK (_, _, _, _, []) ⟨(WI.nil v f).skip (none_of hp33 h12), by show _ ≤ _; omega⟩) (EnvLe.cons rfl (EnvLe.cons rfl (EnvLe.cons rfl (EnvLe.nil _))))
  intro ⟨m, A, ca, xs, L⟩ hI
  replace hI : WI v f [33] L ∧ m ≤ 2 := hI
  change Run _ _ _ _ _ [(4, .slice A m ca), (3, _), (0, _)] (HA.row A m ca 102 1 xs :: HA.blk b6 (ycells 4 ⟨#[]⟩ ⟨#[]⟩ none 0 0) 150 :: []) (.ptrs xs (L.flatMap prY) :: .dblk b cs 124 :: .flds mb cs f :: .gr mb G :: .tab :: ft :: [])
  obtain ⟨hW, hm⟩ := hI
  refine zD (zD ?_)
  refine zB (zA ?_)
  refine zF rfl rfl (zA ?_)
  refine zH rfl rfl (zA ?_)
  refine zJ fo124_2 rfl rfl (zA ?_)
  refine zN 1 sc111 rfl rfl rfl hc2 (zA ?_)
  refine yE pn111 rfl rfl (zC ?_)
  refine zG [26, 4, 3, 0] ?_
  change Run _ _ _ _ _ [(26, _), (4, _), (3, _), (0, _)] _ _
  refine yU [3, 0] (fun (⟨m, A, ca, xs, L⟩ : Nat × Option Addr × Nat × List Value × List (ByteArray × Y)) => WI v f [2, 33] L ∧ m ≤ 4) (fun (⟨m, A, ca, xs, L⟩ : Nat × Option Addr × Nat × List Value × List (ByteArray × Y)) => [(4, .slice A m ca)]) (fun (⟨m, A, ca, xs, L⟩ : Nat × Option Addr × Nat × List Value × List (ByteArray × Y)) => HA.row A m ca 102 1 xs :: HA.blk b6 (ycells 4 ⟨#[]⟩ ⟨#[]⟩ none 0 0) 150 :: []) (fun (⟨m, A, ca, xs, L⟩ : Nat × Option Addr × Nat × List Value × List (ByteArray × Y)) => .ptrs xs (L.flatMap prY) :: .dblk b cs 124 :: .flds mb cs f :: .gr mb G :: .tab :: ft :: []) ?_ ?_
  · intro Kj2 hKj2
    refine yH rfl (fun h26 => ?_) (fun h26 => ?_)
    · refine xQ 2 2 rfl (by decide) (by decide) hc2 hp2 h26 hU (fun fv x a hpa hfv hgx hkw hr => ?_)
      subst hpa
      have hF := HF _ _ hgx (by rw [hkw]; decide)
      rw [hkw] at hF
      change Fld ft mb G 1 x at hF
      change FvRel _ 1 x fv at hr
      obtain rfl := text_of hr
      refine run_text 0 rfl (fun p hp hs => ?_)
      cases hp
      obtain ⟨u1, hu1, hfo⟩ := hid x hgx
      have hb1 : p1.isSome = true := by
        cases hq1 : p1.isSome with
        | true => rfl
        | false =>
          have := hU 1 (by decide) (by decide)
          rw [none_of hp1 hq1] at this
          rw [show getV v kSchema = none from this kSchema (by decide +kernel)] at hu1
          cases hu1
      refine xQ 4 1 rfl (by decide) (by decide) hc1 hp1 hb1 hU (fun fv1 x1 a1 hpa1 hfv1 hgx1 hkw1 hr1 => ?_)
      subst hpa1
      change FvRel _ 1 x1 fv1 at hr1
      obtain rfl := text_of hr1
      refine run_text 0 rfl (fun p1 hq1 hs1 => ?_)
      cases hq1
      rw [show getV v kSchema = some x1 from hgx1] at hu1
      cases hu1
      obtain ⟨T, hT, hcT⟩ := c152f _ hs1 hfo
      refine zD (zB ?_)
      refine zA (zF rfl rfl ?_)
      refine zA (zH rfl rfl ?_)
      refine zA (zJ fo124_1 rfl rfl ?_)
      refine zA (zN 5 sc111 rfl rfl rfl hc1 ?_)
      refine zA (zH rfl rfl ?_)
      refine zA (yQ 0 sc9 rfl rfl rfl ?_)
      refine zA (yF rfl rfl rfl hcT sub0 ?_)
      refine zC (zP ?_)
      refine zD (zP ?_)
      refine zD (zP ?_)
      refine zP (zP ?_)
      refine zD (zD ?_)
      refine zD (zB ?_)
      refine zA (yA rfl rfl rfl ?_)
      refine zA (zE rfl rfl ?_)
      refine zC (zT rfl (fun h34 => ?_) (fun h34 => ?_))
      · refine yL rfl (zQ ?_)
        refine zQ (zD ?_)
        refine zB (zA ?_)
        refine zF rfl rfl (zA ?_)
        refine zF rfl rfl (zA ?_)
        refine zH rfl rfl (zA ?_)
        refine zJ fo124_2 rfl rfl (zA ?_)
        refine zN 5 sc111 rfl rfl rfl hc2 (zA ?_)
        refine zH rfl rfl (zA ?_)
        refine yQ 2 sc9 rfl rfl rfl (zA ?_)
        refine zV rfl rfl rfl (c151 _ hs) sub0 (fun u47 D47 hv47 => ?_)
        obtain ⟨b47, rfl, rfl⟩ := hv47
        refine zA ?_
        refine zY 0 rfl rfl rfl (c150 _ _ _ _ _ _ (by decide) (by omega)) rfl sub0 (fun u48 M48 D48 hv48 => ?_)
        obtain ⟨A48, c48, b48, rfl, rfl, rfl⟩ := hv48
        refine zA (zE rfl rfl ?_)
        refine zC (zG [4, 3, 0] ?_)
        change Run _ _ _ _ _ [(4, _), (3, _), (0, _)] _ _
        refine yL rfl (yP (L := L) 6 0 1 rfl rfl rfl ?_)
        exact kQ (hKj2 (_, _, _, _, L ++ [(keyOf 2, _)]) ⟨hW.add rfl hkw (by decide) (by decide) hgx (.inl ⟨rfl, rfl⟩), by show _ + 2 ≤ _; omega⟩) (EnvLe.cons rfl (EnvLe.cons rfl (EnvLe.cons rfl (EnvLe.nil _)))) (hD := (subc 0 rfl (by intro d hd; repeat (first | exact hd | apply List.mem_cons_of_mem))))
      refine zL (zD ?_)
      refine zD (zB ?_)
      refine zA (yA rfl rfl rfl ?_)
      refine zA (zE rfl rfl ?_)
      refine zC (zG [36, 33, 4, 3, 0] ?_)
      change Run _ _ _ _ _ [(36, _), (33, _), (4, _), (3, _), (0, _)] _ _
      refine zT rfl (fun h36 => ?_) (fun h36 => ?_)
      · refine yL rfl (zQ ?_)
        refine zD (zB ?_)
        refine zA (zF rfl rfl ?_)
        refine zA (zF rfl rfl ?_)
        refine zA (zH rfl rfl ?_)
        refine zA (zJ fo124_2 rfl rfl ?_)
        refine zA (zN 5 sc111 rfl rfl rfl hc2 ?_)
        refine zA (zH rfl rfl ?_)
        refine zA (yQ 2 sc9 rfl rfl rfl ?_)
        refine zA (zV rfl rfl rfl (c151 _ hs) sub0 (fun u47 D47 hv47 => ?_))
        obtain ⟨b47, rfl, rfl⟩ := hv47
        refine zA ?_
        refine zY 0 rfl rfl rfl (c150 _ _ _ _ _ _ (by decide) (by omega)) rfl sub0 (fun u48 M48 D48 hv48 => ?_)
        obtain ⟨A48, c48, b48, rfl, rfl, rfl⟩ := hv48
        refine zA (zE rfl rfl ?_)
        refine zC (zG [4, 3, 0] ?_)
        change Run _ _ _ _ _ [(4, _), (3, _), (0, _)] _ _
        refine yL rfl (yP (L := L) 6 0 1 rfl rfl rfl ?_)
        exact kQ (hKj2 (_, _, _, _, L ++ [(keyOf 2, _)]) ⟨hW.add rfl hkw (by decide) (by decide) hgx (.inl ⟨rfl, rfl⟩), by show _ + 2 ≤ _; omega⟩) (EnvLe.cons rfl (EnvLe.cons rfl (EnvLe.cons rfl (EnvLe.nil _)))) (hD := (subc 0 rfl (by intro d hd; repeat (first | exact hd | apply List.mem_cons_of_mem))))
      refine zL (zD ?_)
      refine zB (zA ?_)
      refine yA rfl rfl rfl (zA ?_)
      refine zE rfl rfl (zC ?_)
      refine zT rfl (fun h38 => ?_) (fun h38 => ?_)
      · refine yL rfl (zD ?_)
        refine zB (zA ?_)
        refine zF rfl rfl (zA ?_)
        refine zF rfl rfl (zA ?_)
        refine zH rfl rfl (zA ?_)
        refine zJ fo124_2 rfl rfl (zA ?_)
        refine zN 5 sc111 rfl rfl rfl hc2 (zA ?_)
        refine zH rfl rfl (zA ?_)
        refine yQ 2 sc9 rfl rfl rfl (zA ?_)
        refine zV rfl rfl rfl (c151 _ hs) sub0 (fun u47 D47 hv47 => ?_)
        obtain ⟨b47, rfl, rfl⟩ := hv47
        refine zA ?_
        refine zY 0 rfl rfl rfl (c150 _ _ _ _ _ _ (by decide) (by omega)) rfl sub0 (fun u48 M48 D48 hv48 => ?_)
        obtain ⟨A48, c48, b48, rfl, rfl, rfl⟩ := hv48
        refine zA (zE rfl rfl ?_)
        refine zC (zG [4, 3, 0] ?_)
        change Run _ _ _ _ _ [(4, _), (3, _), (0, _)] _ _
        refine yL rfl (yP (L := L) 6 0 1 rfl rfl rfl ?_)
        exact kQ (hKj2 (_, _, _, _, L ++ [(keyOf 2, _)]) ⟨hW.add rfl hkw (by decide) (by decide) hgx (.inl ⟨rfl, rfl⟩), by show _ + 2 ≤ _; omega⟩) (EnvLe.cons rfl (EnvLe.cons rfl (EnvLe.cons rfl (EnvLe.nil _)))) (hD := (subc 0 rfl (by intro d hd; repeat (first | exact hd | apply List.mem_cons_of_mem))))
      exact (hT.elim h34 (fun h => h.elim h36 h38)).elim
    refine zL ?_
    exact kQ (hKj2 (_, _, _, _, L) ⟨hW.skip (none_of hp2 h26), by show _ ≤ _; omega⟩) (EnvLe.cons rfl (EnvLe.cons rfl (EnvLe.cons rfl (EnvLe.nil _))))
  intro ⟨m, A, ca, xs, L⟩ hI
  replace hI : WI v f [2, 33] L ∧ m ≤ 4 := hI
  change Run _ _ _ _ _ [(4, .slice A m ca), (3, _), (0, _)] (HA.row A m ca 102 1 xs :: HA.blk b6 (ycells 4 ⟨#[]⟩ ⟨#[]⟩ none 0 0) 150 :: []) (.ptrs xs (L.flatMap prY) :: .dblk b cs 124 :: .flds mb cs f :: .gr mb G :: .tab :: ft :: [])
  obtain ⟨hW, hm⟩ := hI
  refine zD (zD ?_)
  refine zB (zA ?_)
  refine zF rfl rfl (zA ?_)
  refine zH rfl rfl (zA ?_)
  refine zJ fo124_1 rfl rfl (zA ?_)
  refine zN 1 sc111 rfl rfl rfl hc1 (zA ?_)
  refine yE pn111 rfl rfl (zC ?_)
  refine zG [62, 4, 3, 0] ?_
  change Run _ _ _ _ _ [(62, _), (4, _), (3, _), (0, _)] _ _
  refine yU [3, 0] (fun (⟨m, A, ca, xs, L⟩ : Nat × Option Addr × Nat × List Value × List (ByteArray × Y)) => WI v f [1, 2, 33] L ∧ m ≤ 6) (fun (⟨m, A, ca, xs, L⟩ : Nat × Option Addr × Nat × List Value × List (ByteArray × Y)) => [(4, .slice A m ca)]) (fun (⟨m, A, ca, xs, L⟩ : Nat × Option Addr × Nat × List Value × List (ByteArray × Y)) => HA.row A m ca 102 1 xs :: HA.blk b6 (ycells 4 ⟨#[]⟩ ⟨#[]⟩ none 0 0) 150 :: []) (fun (⟨m, A, ca, xs, L⟩ : Nat × Option Addr × Nat × List Value × List (ByteArray × Y)) => .ptrs xs (L.flatMap prY) :: .dblk b cs 124 :: .flds mb cs f :: .gr mb G :: .tab :: ft :: []) ?_ ?_
  · intro Kj3 hKj3
    refine yH rfl (fun h62 => ?_) (fun h62 => ?_)
    · refine xQ 2 1 rfl (by decide) (by decide) hc1 hp1 h62 hU (fun fv x a hpa hfv hgx hkw hr => ?_)
      subst hpa
      have hF := HF _ _ hgx (by rw [hkw]; decide)
      rw [hkw] at hF
      change Fld ft mb G 1 x at hF
      change FvRel _ 1 x fv at hr
      obtain rfl := text_of hr
      refine run_text 0 rfl (fun p hp hs => ?_)
      cases hp
      refine zB (zA ?_)
      refine zF rfl rfl (zA ?_)
      refine zF rfl rfl (zA ?_)
      refine zH rfl rfl (zA ?_)
      refine zJ fo124_1 rfl rfl (zA ?_)
      refine zN 3 sc111 rfl rfl rfl hc1 (zA ?_)
      refine zH rfl rfl (zA ?_)
      refine yQ 0 sc9 rfl rfl rfl (zA ?_)
      refine zV rfl rfl rfl (c151 _ hs) sub0 (fun u70 D70 hv70 => ?_)
      obtain ⟨b70, rfl, rfl⟩ := hv70
      refine zA ?_
      refine zY 0 rfl rfl rfl (c150 _ _ _ _ _ _ (by decide) (by omega)) rfl sub0 (fun u71 M71 D71 hv71 => ?_)
      obtain ⟨A71, c71, b71, rfl, rfl, rfl⟩ := hv71
      refine zA (zE rfl rfl ?_)
      refine zC (zG [4, 3, 0] ?_)
      change Run _ _ _ _ _ [(4, _), (3, _), (0, _)] _ _
      refine yP (L := L) 4 0 1 rfl rfl rfl ?_
      exact kQ (hKj3 (_, _, _, _, L ++ [(keyOf 1, _)]) ⟨hW.add rfl hkw (by decide) (by decide) hgx (.inl ⟨rfl, rfl⟩), by show _ + 2 ≤ _; omega⟩) (EnvLe.cons rfl (EnvLe.cons rfl (EnvLe.cons rfl (EnvLe.nil _)))) (hD := (subc 0 rfl (by intro d hd; repeat (first | exact hd | apply List.mem_cons_of_mem))))
    refine zL ?_
    exact kQ (hKj3 (_, _, _, _, L) ⟨hW.skip (none_of hp1 h62), by show _ ≤ _; omega⟩) (EnvLe.cons rfl (EnvLe.cons rfl (EnvLe.cons rfl (EnvLe.nil _))))
  intro ⟨m, A, ca, xs, L⟩ hI
  replace hI : WI v f [1, 2, 33] L ∧ m ≤ 6 := hI
  change Run _ _ _ _ _ [(4, .slice A m ca), (3, _), (0, _)] (HA.row A m ca 102 1 xs :: HA.blk b6 (ycells 4 ⟨#[]⟩ ⟨#[]⟩ none 0 0) 150 :: []) (.ptrs xs (L.flatMap prY) :: .dblk b cs 124 :: .flds mb cs f :: .gr mb G :: .tab :: ft :: [])
  obtain ⟨hW, hm⟩ := hI
  refine zD (zD ?_)
  refine zB (zA ?_)
  refine zF rfl rfl (zA ?_)
  refine zH rfl rfl (zA ?_)
  refine zJ fo124_4 rfl rfl (zA ?_)
  refine zN 1 sc112 rfl rfl rfl hc4 (zA ?_)
  refine yE pn112 rfl rfl (zA ?_)
  refine zF rfl rfl (run_knowF (s := 77) rfl (hn4) ?_)
  refine zI rfl rfl rfl rfl (zI rfl rfl rfl rfl ?_)
  refine zI rfl rfl rfl rfl (zI rfl rfl rfl rfl ?_)
  refine zI rfl rfl rfl rfl (zI rfl rfl rfl rfl ?_)
  refine zA (zR rfl rfl rfl ?_)
  refine zC (zG [84, 4, 3, 0] ?_)
  change Run _ _ _ _ _ [(84, _), (4, _), (3, _), (0, _)] _ _
  refine run_false rfl (zL ?_)
  refine zD (zD ?_)
  refine zB (zA ?_)
  refine zF rfl rfl (zA ?_)
  refine zH rfl rfl (zA ?_)
  refine zJ fo124_5 rfl rfl (zA ?_)
  refine zN 1 sc112 rfl rfl rfl hc5 (zA ?_)
  refine yE pn112 rfl rfl (zA ?_)
  refine zF rfl rfl (run_knowF (s := 99) rfl (hn5) ?_)
  refine zI rfl rfl rfl rfl (zI rfl rfl rfl rfl ?_)
  refine zI rfl rfl rfl rfl (zI rfl rfl rfl rfl ?_)
  refine zI rfl rfl rfl rfl (zI rfl rfl rfl rfl ?_)
  refine zA (zR rfl rfl rfl ?_)
  refine zC (zG [106, 4, 3, 0] ?_)
  change Run _ _ _ _ _ [(106, _), (4, _), (3, _), (0, _)] _ _
  refine run_false rfl (zL ?_)
  refine zD (zD ?_)
  refine zB (zA ?_)
  refine zF rfl rfl (zA ?_)
  refine zH rfl rfl (zA ?_)
  refine zJ fo124_27 rfl rfl (zA ?_)
  refine zN 1 sc121 rfl rfl rfl hc27 (zA ?_)
  refine yE pn121 rfl rfl (zC ?_)
  refine zG [120, 4, 3, 0] ?_
  change Run _ _ _ _ _ [(120, _), (4, _), (3, _), (0, _)] _ _
  refine yU [3, 0] (fun (⟨m, A, ca, xs, L⟩ : Nat × Option Addr × Nat × List Value × List (ByteArray × Y)) => WI v f [27, 1, 2, 33] L ∧ m ≤ 8) (fun (⟨m, A, ca, xs, L⟩ : Nat × Option Addr × Nat × List Value × List (ByteArray × Y)) => [(4, .slice A m ca)]) (fun (⟨m, A, ca, xs, L⟩ : Nat × Option Addr × Nat × List Value × List (ByteArray × Y)) => HA.row A m ca 102 1 xs :: HA.blk b6 (ycells 4 ⟨#[]⟩ ⟨#[]⟩ none 0 0) 150 :: []) (fun (⟨m, A, ca, xs, L⟩ : Nat × Option Addr × Nat × List Value × List (ByteArray × Y)) => .ptrs xs (L.flatMap prY) :: .dblk b cs 124 :: .flds mb cs f :: .gr mb G :: .tab :: ft :: []) ?_ ?_
  · intro Kj4 hKj4
    refine yH rfl (fun h120 => ?_) (fun h120 => ?_)
    · refine xQ 2 27 rfl (by decide) (by decide) hc27 hp27 h120 hU (fun fv x a hpa hfv hgx hkw hr => ?_)
      subst hpa
      have hF := HF _ _ hgx (by rw [hkw]; decide)
      rw [hkw] at hF
      change Fld ft mb G 12 x at hF
      change FvRel _ 12 x fv at hr
      refine zB (zA ?_)
      refine zF rfl rfl (zA ?_)
      refine zF rfl rfl (zA ?_)
      refine zH rfl rfl (zA ?_)
      refine zJ fo124_27 rfl rfl (zA ?_)
      refine zN 2 sc121 rfl rfl rfl hc27 (zA ?_)
      refine zV rfl rfl rfl (w12 hF hr) (subc 0 rfl (subc 4 rfl (sub2 5 6 rfl rfl))) (fun u126 D126 hv126 => ?_)
      obtain ⟨z, hz, b126, rfl, rfl⟩ := hv126
      refine zA ?_
      refine zY 0 rfl rfl rfl (c150 _ _ _ _ _ _ (by decide) (by omega)) rfl sub0 (fun u127 M127 D127 hv127 => ?_)
      obtain ⟨A127, c127, b127, rfl, rfl, rfl⟩ := hv127
      refine zA (zE rfl rfl ?_)
      refine zC (yP (L := L) 3 0 1 rfl rfl rfl ?_)
      exact kQ (hKj4 (_, _, _, _, L ++ [(keyOf 27, _)]) ⟨hW.add rfl hkw (by decide) (by decide) hgx hz, by show _ + 2 ≤ _; omega⟩) (EnvLe.cons rfl (EnvLe.cons rfl (EnvLe.cons rfl (EnvLe.nil _)))) (hD := (subc 0 rfl (by intro d hd; repeat (first | exact hd | apply List.mem_cons_of_mem))))
    refine zL ?_
    exact kQ (hKj4 (_, _, _, _, L) ⟨hW.skip (none_of hp27 h120), by show _ ≤ _; omega⟩) (EnvLe.cons rfl (EnvLe.cons rfl (EnvLe.cons rfl (EnvLe.nil _))))
  intro ⟨m, A, ca, xs, L⟩ hI
  replace hI : WI v f [27, 1, 2, 33] L ∧ m ≤ 8 := hI
  change Run _ _ _ _ _ [(4, .slice A m ca), (3, _), (0, _)] (HA.row A m ca 102 1 xs :: HA.blk b6 (ycells 4 ⟨#[]⟩ ⟨#[]⟩ none 0 0) 150 :: []) (.ptrs xs (L.flatMap prY) :: .dblk b cs 124 :: .flds mb cs f :: .gr mb G :: .tab :: ft :: [])
  obtain ⟨hW, hm⟩ := hI
  refine zD (zD ?_)
  refine zB (zA ?_)
  refine zF rfl rfl (zA ?_)
  refine zH rfl rfl (zA ?_)
  refine zJ fo124_15 rfl rfl (zA ?_)
  refine zN 1 sc116 rfl rfl rfl hc15 (zA ?_)
  refine yE pn116 rfl rfl (zC ?_)
  refine zG [132, 4, 3, 0] ?_
  change Run _ _ _ _ _ [(132, _), (4, _), (3, _), (0, _)] _ _
  refine yU [3, 0] (fun (⟨m, A, ca, xs, L⟩ : Nat × Option Addr × Nat × List Value × List (ByteArray × Y)) => WI v f [15, 27, 1, 2, 33] L ∧ m ≤ 10) (fun (⟨m, A, ca, xs, L⟩ : Nat × Option Addr × Nat × List Value × List (ByteArray × Y)) => [(4, .slice A m ca)]) (fun (⟨m, A, ca, xs, L⟩ : Nat × Option Addr × Nat × List Value × List (ByteArray × Y)) => HA.row A m ca 102 1 xs :: HA.blk b6 (ycells 4 ⟨#[]⟩ ⟨#[]⟩ none 0 0) 150 :: []) (fun (⟨m, A, ca, xs, L⟩ : Nat × Option Addr × Nat × List Value × List (ByteArray × Y)) => .ptrs xs (L.flatMap prY) :: .dblk b cs 124 :: .flds mb cs f :: .gr mb G :: .tab :: ft :: []) ?_ ?_
  · intro Kj5 hKj5
    refine yH rfl (fun h132 => ?_) (fun h132 => ?_)
    · refine xQ 2 15 rfl (by decide) (by decide) hc15 hp15 h132 hU (fun fv x a hpa hfv hgx hkw hr => ?_)
      subst hpa
      have hF := HF _ _ hgx (by rw [hkw]; decide)
      rw [hkw] at hF
      change Fld ft mb G 7 x at hF
      change FvRel _ 7 x fv at hr
      refine zB (zA ?_)
      refine zF rfl rfl (zA ?_)
      refine zF rfl rfl (zA ?_)
      refine zH rfl rfl (zA ?_)
      refine zJ fo124_15 rfl rfl (zA ?_)
      refine zN 2 sc116 rfl rfl rfl hc15 (zA ?_)
      refine zV rfl rfl rfl (w7 hF hr) (subc 0 rfl (subc 4 rfl (sub2 5 6 rfl rfl))) (fun u138 D138 hv138 => ?_)
      obtain ⟨z, hz, b138, rfl, rfl⟩ := hv138
      refine zA ?_
      refine zY 0 rfl rfl rfl (c150 _ _ _ _ _ _ (by decide) (by omega)) rfl sub0 (fun u139 M139 D139 hv139 => ?_)
      obtain ⟨A139, c139, b139, rfl, rfl, rfl⟩ := hv139
      refine zA (zE rfl rfl ?_)
      refine zC (yP (L := L) 3 0 1 rfl rfl rfl ?_)
      exact kQ (hKj5 (_, _, _, _, L ++ [(keyOf 15, _)]) ⟨hW.add rfl hkw (by decide) (by decide) hgx hz, by show _ + 2 ≤ _; omega⟩) (EnvLe.cons rfl (EnvLe.cons rfl (EnvLe.cons rfl (EnvLe.nil _)))) (hD := (subc 0 rfl (by intro d hd; repeat (first | exact hd | apply List.mem_cons_of_mem))))
    refine zL ?_
    exact kQ (hKj5 (_, _, _, _, L) ⟨hW.skip (none_of hp15 h132), by show _ ≤ _; omega⟩) (EnvLe.cons rfl (EnvLe.cons rfl (EnvLe.cons rfl (EnvLe.nil _))))
  intro ⟨m, A, ca, xs, L⟩ hI
  replace hI : WI v f [15, 27, 1, 2, 33] L ∧ m ≤ 10 := hI
  change Run _ _ _ _ _ [(4, .slice A m ca), (3, _), (0, _)] (HA.row A m ca 102 1 xs :: HA.blk b6 (ycells 4 ⟨#[]⟩ ⟨#[]⟩ none 0 0) 150 :: []) (.ptrs xs (L.flatMap prY) :: .dblk b cs 124 :: .flds mb cs f :: .gr mb G :: .tab :: ft :: [])
  obtain ⟨hW, hm⟩ := hI
  refine zD (zD ?_)
  refine zB (zA ?_)
  refine zF rfl rfl (zA ?_)
  refine zH rfl rfl (zA ?_)
  refine zJ fo124_34 rfl rfl (zA ?_)
  refine zN 1 sc111 rfl rfl rfl hc34 (zA ?_)
  refine yE pn111 rfl rfl (zC ?_)
  refine zG [144, 4, 3, 0] ?_
  change Run _ _ _ _ _ [(144, _), (4, _), (3, _), (0, _)] _ _
  refine yU [3, 0] (fun (⟨m, A, ca, xs, L⟩ : Nat × Option Addr × Nat × List Value × List (ByteArray × Y)) => WI v f [34, 15, 27, 1, 2, 33] L ∧ m ≤ 12) (fun (⟨m, A, ca, xs, L⟩ : Nat × Option Addr × Nat × List Value × List (ByteArray × Y)) => [(4, .slice A m ca)]) (fun (⟨m, A, ca, xs, L⟩ : Nat × Option Addr × Nat × List Value × List (ByteArray × Y)) => HA.row A m ca 102 1 xs :: HA.blk b6 (ycells 4 ⟨#[]⟩ ⟨#[]⟩ none 0 0) 150 :: []) (fun (⟨m, A, ca, xs, L⟩ : Nat × Option Addr × Nat × List Value × List (ByteArray × Y)) => .ptrs xs (L.flatMap prY) :: .dblk b cs 124 :: .flds mb cs f :: .gr mb G :: .tab :: ft :: []) ?_ ?_
  · intro Kj6 hKj6
    refine yH rfl (fun h144 => ?_) (fun h144 => ?_)
    · refine xQ 2 34 rfl (by decide) (by decide) hc34 hp34 h144 hU (fun fv x a hpa hfv hgx hkw hr => ?_)
      subst hpa
      have hF := HF _ _ hgx (by rw [hkw]; decide)
      rw [hkw] at hF
      change Fld ft mb G 1 x at hF
      change FvRel _ 1 x fv at hr
      obtain rfl := text_of hr
      refine run_text 0 rfl (fun p hp hs => ?_)
      cases hp
      refine zB (zA ?_)
      refine zF rfl rfl (zA ?_)
      refine zF rfl rfl (zA ?_)
      refine zH rfl rfl (zA ?_)
      refine zJ fo124_34 rfl rfl (zA ?_)
      refine zN 3 sc111 rfl rfl rfl hc34 (zA ?_)
      refine zH rfl rfl (zA ?_)
      refine yQ 0 sc9 rfl rfl rfl (zA ?_)
      refine zV rfl rfl rfl (c151 _ hs) sub0 (fun u152 D152 hv152 => ?_)
      obtain ⟨b152, rfl, rfl⟩ := hv152
      refine zA ?_
      refine zY 0 rfl rfl rfl (c150 _ _ _ _ _ _ (by decide) (by omega)) rfl sub0 (fun u153 M153 D153 hv153 => ?_)
      obtain ⟨A153, c153, b153, rfl, rfl, rfl⟩ := hv153
      refine zA (zE rfl rfl ?_)
      refine zC (zG [4, 3, 0] ?_)
      change Run _ _ _ _ _ [(4, _), (3, _), (0, _)] _ _
      refine yP (L := L) 4 0 1 rfl rfl rfl ?_
      exact kQ (hKj6 (_, _, _, _, L ++ [(keyOf 34, _)]) ⟨hW.add rfl hkw (by decide) (by decide) hgx (.inl ⟨rfl, rfl⟩), by show _ + 2 ≤ _; omega⟩) (EnvLe.cons rfl (EnvLe.cons rfl (EnvLe.cons rfl (EnvLe.nil _)))) (hD := (subc 0 rfl (by intro d hd; repeat (first | exact hd | apply List.mem_cons_of_mem))))
    refine zL ?_
    exact kQ (hKj6 (_, _, _, _, L) ⟨hW.skip (none_of hp34 h144), by show _ ≤ _; omega⟩) (EnvLe.cons rfl (EnvLe.cons rfl (EnvLe.cons rfl (EnvLe.nil _))))
  intro ⟨m, A, ca, xs, L⟩ hI
  replace hI : WI v f [34, 15, 27, 1, 2, 33] L ∧ m ≤ 12 := hI
  change Run _ _ _ _ _ [(4, .slice A m ca), (3, _), (0, _)] (HA.row A m ca 102 1 xs :: HA.blk b6 (ycells 4 ⟨#[]⟩ ⟨#[]⟩ none 0 0) 150 :: []) (.ptrs xs (L.flatMap prY) :: .dblk b cs 124 :: .flds mb cs f :: .gr mb G :: .tab :: ft :: [])
  obtain ⟨hW, hm⟩ := hI
  refine zD (zD ?_)
  refine zB (zA ?_)
  refine zF rfl rfl (zA ?_)
  refine zH rfl rfl (zA ?_)
  refine zJ fo124_21 rfl rfl (zA ?_)
  refine zN 1 sc117 rfl rfl rfl hc21 (zA ?_)
  refine yE pn117 rfl rfl (zC ?_)
  refine zG [158, 4, 3, 0] ?_
  change Run _ _ _ _ _ [(158, _), (4, _), (3, _), (0, _)] _ _
  refine yU [3, 0] (fun (⟨m, A, ca, xs, L⟩ : Nat × Option Addr × Nat × List Value × List (ByteArray × Y)) => WI v f [21, 34, 15, 27, 1, 2, 33] L ∧ m ≤ 14) (fun (⟨m, A, ca, xs, L⟩ : Nat × Option Addr × Nat × List Value × List (ByteArray × Y)) => [(4, .slice A m ca)]) (fun (⟨m, A, ca, xs, L⟩ : Nat × Option Addr × Nat × List Value × List (ByteArray × Y)) => HA.row A m ca 102 1 xs :: HA.blk b6 (ycells 4 ⟨#[]⟩ ⟨#[]⟩ none 0 0) 150 :: []) (fun (⟨m, A, ca, xs, L⟩ : Nat × Option Addr × Nat × List Value × List (ByteArray × Y)) => .ptrs xs (L.flatMap prY) :: .dblk b cs 124 :: .flds mb cs f :: .gr mb G :: .tab :: ft :: []) ?_ ?_
  · intro Kj7 hKj7
    refine yH rfl (fun h158 => ?_) (fun h158 => ?_)
    · refine xQ 2 21 rfl (by decide) (by decide) hc21 hp21 h158 hU (fun fv x a hpa hfv hgx hkw hr => ?_)
      subst hpa
      have hF := HF _ _ hgx (by rw [hkw]; decide)
      rw [hkw] at hF
      change Fld ft mb G 8 x at hF
      change FvRel _ 8 x fv at hr
      obtain rfl := texts_of hr
      refine run_texts 0 rfl (fun p sl hp => ?_)
      cases hp
      refine zB (zA ?_)
      refine zF rfl rfl (zA ?_)
      refine zF rfl rfl (zA ?_)
      refine zH rfl rfl (zA ?_)
      refine zJ fo124_21 rfl rfl (zA ?_)
      refine zN 4 sc117 rfl rfl rfl hc21 (zA ?_)
      refine zH rfl rfl (zA ?_)
      refine yQ 0 sc22 rfl rfl rfl (zA ?_)
      refine zV rfl rfl rfl (w8 hF rfl) (sub1 1 rfl) (fun u166 D166 hv166 => ?_)
      obtain ⟨z, hz, b166, rfl, rfl⟩ := hv166
      refine zA ?_
      refine zY 0 rfl rfl rfl (c150 _ _ _ _ _ _ (by decide) (by omega)) rfl sub0 (fun u167 M167 D167 hv167 => ?_)
      obtain ⟨A167, c167, b167, rfl, rfl, rfl⟩ := hv167
      refine zA (zE rfl rfl ?_)
      refine zC (zG [4, 3, 0] ?_)
      change Run _ _ _ _ _ [(4, _), (3, _), (0, _)] _ _
      refine yP (L := L) 5 0 1 rfl rfl rfl ?_
      exact kQ (hKj7 (_, _, _, _, L ++ [(keyOf 21, _)]) ⟨hW.add rfl hkw (by decide) (by decide) hgx hz, by show _ + 2 ≤ _; omega⟩) (EnvLe.cons rfl (EnvLe.cons rfl (EnvLe.cons rfl (EnvLe.nil _)))) (hD := (subc 0 rfl (by intro d hd; repeat (first | exact hd | apply List.mem_cons_of_mem))))
    refine zL ?_
    exact kQ (hKj7 (_, _, _, _, L) ⟨hW.skip (none_of hp21 h158), by show _ ≤ _; omega⟩) (EnvLe.cons rfl (EnvLe.cons rfl (EnvLe.cons rfl (EnvLe.nil _))))
  intro ⟨m, A, ca, xs, L⟩ hI
  replace hI : WI v f [21, 34, 15, 27, 1, 2, 33] L ∧ m ≤ 14 := hI
  change Run _ _ _ _ _ [(4, .slice A m ca), (3, _), (0, _)] (HA.row A m ca 102 1 xs :: HA.blk b6 (ycells 4 ⟨#[]⟩ ⟨#[]⟩ none 0 0) 150 :: []) (.ptrs xs (L.flatMap prY) :: .dblk b cs 124 :: .flds mb cs f :: .gr mb G :: .tab :: ft :: [])
  obtain ⟨hW, hm⟩ := hI
  refine zD (zD ?_)
  refine zB (zA ?_)
  refine zF rfl rfl (zA ?_)
  refine zH rfl rfl (zA ?_)
  refine zJ fo124_22 rfl rfl (zA ?_)
  refine zN 1 sc115 rfl rfl rfl hc22 (zA ?_)
  refine yE pn115 rfl rfl (zC ?_)
  refine zG [172, 4, 3, 0] ?_
  change Run _ _ _ _ _ [(172, _), (4, _), (3, _), (0, _)] _ _
  refine yU [3, 0] (fun (⟨m, A, ca, xs, L⟩ : Nat × Option Addr × Nat × List Value × List (ByteArray × Y)) => WI v f [22, 21, 34, 15, 27, 1, 2, 33] L ∧ m ≤ 16) (fun (⟨m, A, ca, xs, L⟩ : Nat × Option Addr × Nat × List Value × List (ByteArray × Y)) => [(4, .slice A m ca)]) (fun (⟨m, A, ca, xs, L⟩ : Nat × Option Addr × Nat × List Value × List (ByteArray × Y)) => HA.row A m ca 102 1 xs :: HA.blk b6 (ycells 4 ⟨#[]⟩ ⟨#[]⟩ none 0 0) 150 :: []) (fun (⟨m, A, ca, xs, L⟩ : Nat × Option Addr × Nat × List Value × List (ByteArray × Y)) => .ptrs xs (L.flatMap prY) :: .dblk b cs 124 :: .flds mb cs f :: .gr mb G :: .tab :: ft :: []) ?_ ?_
  · intro Kj8 hKj8
    refine yH rfl (fun h172 => ?_) (fun h172 => ?_)
    · refine xQ 2 22 rfl (by decide) (by decide) hc22 hp22 h172 hU (fun fv x a hpa hfv hgx hkw hr => ?_)
      subst hpa
      have hF := HF _ _ hgx (by rw [hkw]; decide)
      rw [hkw] at hF
      change Fld ft mb G 6 x at hF
      change FvRel _ 6 x fv at hr
      refine zB (zA ?_)
      refine zF rfl rfl (zA ?_)
      refine zF rfl rfl (zA ?_)
      refine zH rfl rfl (zA ?_)
      refine zJ fo124_22 rfl rfl (zA ?_)
      refine zN 2 sc115 rfl rfl rfl hc22 (zA ?_)
      refine zV rfl rfl rfl (w6 hF hr) (subc 0 rfl (subc 4 rfl (sub2 5 6 rfl rfl))) (fun u178 D178 hv178 => ?_)
      obtain ⟨z, hz, b178, rfl, rfl⟩ := hv178
      refine zA ?_
      refine zY 0 rfl rfl rfl (c150 _ _ _ _ _ _ (by decide) (by omega)) rfl sub0 (fun u179 M179 D179 hv179 => ?_)
      obtain ⟨A179, c179, b179, rfl, rfl, rfl⟩ := hv179
      refine zA (zE rfl rfl ?_)
      refine zC (yP (L := L) 3 0 1 rfl rfl rfl ?_)
      exact kQ (hKj8 (_, _, _, _, L ++ [(keyOf 22, _)]) ⟨hW.add rfl hkw (by decide) (by decide) hgx hz, by show _ + 2 ≤ _; omega⟩) (EnvLe.cons rfl (EnvLe.cons rfl (EnvLe.cons rfl (EnvLe.nil _)))) (hD := (subc 0 rfl (by intro d hd; repeat (first | exact hd | apply List.mem_cons_of_mem))))
    refine zL ?_
    exact kQ (hKj8 (_, _, _, _, L) ⟨hW.skip (none_of hp22 h172), by show _ ≤ _; omega⟩) (EnvLe.cons rfl (EnvLe.cons rfl (EnvLe.cons rfl (EnvLe.nil _))))
  intro ⟨m, A, ca, xs, L⟩ hI
  replace hI : WI v f [22, 21, 34, 15, 27, 1, 2, 33] L ∧ m ≤ 16 := hI
  change Run _ _ _ _ _ [(4, .slice A m ca), (3, _), (0, _)] (HA.row A m ca 102 1 xs :: HA.blk b6 (ycells 4 ⟨#[]⟩ ⟨#[]⟩ none 0 0) 150 :: []) (.ptrs xs (L.flatMap prY) :: .dblk b cs 124 :: .flds mb cs f :: .gr mb G :: .tab :: ft :: [])
  obtain ⟨hW, hm⟩ := hI
  refine zD (zD ?_)
  refine zB (zA ?_)
  refine zF rfl rfl (zA ?_)
  refine zH rfl rfl (zA ?_)
  refine zJ fo124_24 rfl rfl (zA ?_)
  refine zN 1 sc118 rfl rfl rfl hc24 (zA ?_)
  refine yE pn118 rfl rfl (zC ?_)
  refine zG [184, 4, 3, 0] ?_
  change Run _ _ _ _ _ [(184, _), (4, _), (3, _), (0, _)] _ _
  refine yU [3, 0] (fun (⟨m, A, ca, xs, L⟩ : Nat × Option Addr × Nat × List Value × List (ByteArray × Y)) => WI v f [24, 22, 21, 34, 15, 27, 1, 2, 33] L ∧ m ≤ 18) (fun (⟨m, A, ca, xs, L⟩ : Nat × Option Addr × Nat × List Value × List (ByteArray × Y)) => [(4, .slice A m ca)]) (fun (⟨m, A, ca, xs, L⟩ : Nat × Option Addr × Nat × List Value × List (ByteArray × Y)) => HA.row A m ca 102 1 xs :: HA.blk b6 (ycells 4 ⟨#[]⟩ ⟨#[]⟩ none 0 0) 150 :: []) (fun (⟨m, A, ca, xs, L⟩ : Nat × Option Addr × Nat × List Value × List (ByteArray × Y)) => .ptrs xs (L.flatMap prY) :: .dblk b cs 124 :: .flds mb cs f :: .gr mb G :: .tab :: ft :: []) ?_ ?_
  · intro Kj9 hKj9
    refine yH rfl (fun h184 => ?_) (fun h184 => ?_)
    · refine xQ 2 24 rfl (by decide) (by decide) hc24 hp24 h184 hU (fun fv x a hpa hfv hgx hkw hr => ?_)
      subst hpa
      have hF := HF _ _ hgx (by rw [hkw]; decide)
      rw [hkw] at hF
      change Fld ft mb G 9 x at hF
      change FvRel _ 9 x fv at hr
      refine zB (zA ?_)
      refine zF rfl rfl (zA ?_)
      refine zF rfl rfl (zA ?_)
      refine zH rfl rfl (zA ?_)
      refine zJ fo124_24 rfl rfl (zA ?_)
      refine zN 2 sc118 rfl rfl rfl hc24 (zA ?_)
      refine zV rfl rfl rfl (w9 hF hr) (subc 0 rfl (subc 4 rfl (sub2 5 6 rfl rfl))) (fun u190 D190 hv190 => ?_)
      obtain ⟨z, hz, b190, rfl, rfl⟩ := hv190
      refine zA ?_
      refine zY 0 rfl rfl rfl (c150 _ _ _ _ _ _ (by decide) (by omega)) rfl sub0 (fun u191 M191 D191 hv191 => ?_)
      obtain ⟨A191, c191, b191, rfl, rfl, rfl⟩ := hv191
      refine zA (zE rfl rfl ?_)
      refine zC (yP (L := L) 3 0 1 rfl rfl rfl ?_)
      exact kQ (hKj9 (_, _, _, _, L ++ [(keyOf 24, _)]) ⟨hW.add rfl hkw (by decide) (by decide) hgx hz, by show _ + 2 ≤ _; omega⟩) (EnvLe.cons rfl (EnvLe.cons rfl (EnvLe.cons rfl (EnvLe.nil _)))) (hD := (subc 0 rfl (by intro d hd; repeat (first | exact hd | apply List.mem_cons_of_mem))))
    refine zL ?_
    exact kQ (hKj9 (_, _, _, _, L) ⟨hW.skip (none_of hp24 h184), by show _ ≤ _; omega⟩) (EnvLe.cons rfl (EnvLe.cons rfl (EnvLe.cons rfl (EnvLe.nil _))))
  intro ⟨m, A, ca, xs, L⟩ hI
  replace hI : WI v f [24, 22, 21, 34, 15, 27, 1, 2, 33] L ∧ m ≤ 18 := hI
  change Run _ _ _ _ _ [(4, .slice A m ca), (3, _), (0, _)] (HA.row A m ca 102 1 xs :: HA.blk b6 (ycells 4 ⟨#[]⟩ ⟨#[]⟩ none 0 0) 150 :: []) (.ptrs xs (L.flatMap prY) :: .dblk b cs 124 :: .flds mb cs f :: .gr mb G :: .tab :: ft :: [])
  obtain ⟨hW, hm⟩ := hI
  refine zD (zD ?_)
  refine zB (zA ?_)
  refine zF rfl rfl (zA ?_)
  refine zH rfl rfl (zA ?_)
  refine zJ fo124_23 rfl rfl (zA ?_)
  refine zN 1 sc118 rfl rfl rfl hc23 (zA ?_)
  refine yE pn118 rfl rfl (zC ?_)
  refine zG [196, 4, 3, 0] ?_
  change Run _ _ _ _ _ [(196, _), (4, _), (3, _), (0, _)] _ _
  refine yU [3, 0] (fun (⟨m, A, ca, xs, L⟩ : Nat × Option Addr × Nat × List Value × List (ByteArray × Y)) => WI v f [23, 24, 22, 21, 34, 15, 27, 1, 2, 33] L ∧ m ≤ 20) (fun (⟨m, A, ca, xs, L⟩ : Nat × Option Addr × Nat × List Value × List (ByteArray × Y)) => [(4, .slice A m ca)]) (fun (⟨m, A, ca, xs, L⟩ : Nat × Option Addr × Nat × List Value × List (ByteArray × Y)) => HA.row A m ca 102 1 xs :: HA.blk b6 (ycells 4 ⟨#[]⟩ ⟨#[]⟩ none 0 0) 150 :: []) (fun (⟨m, A, ca, xs, L⟩ : Nat × Option Addr × Nat × List Value × List (ByteArray × Y)) => .ptrs xs (L.flatMap prY) :: .dblk b cs 124 :: .flds mb cs f :: .gr mb G :: .tab :: ft :: []) ?_ ?_
  · intro Kj10 hKj10
    refine yH rfl (fun h196 => ?_) (fun h196 => ?_)
    · refine xQ 2 23 rfl (by decide) (by decide) hc23 hp23 h196 hU (fun fv x a hpa hfv hgx hkw hr => ?_)
      subst hpa
      have hF := HF _ _ hgx (by rw [hkw]; decide)
      rw [hkw] at hF
      change Fld ft mb G 9 x at hF
      change FvRel _ 9 x fv at hr
      refine zB (zA ?_)
      refine zF rfl rfl (zA ?_)
      refine zF rfl rfl (zA ?_)
      refine zH rfl rfl (zA ?_)
      refine zJ fo124_23 rfl rfl (zA ?_)
      refine zN 2 sc118 rfl rfl rfl hc23 (zA ?_)
      refine zV rfl rfl rfl (w9 hF hr) (subc 0 rfl (subc 4 rfl (sub2 5 6 rfl rfl))) (fun u202 D202 hv202 => ?_)
      obtain ⟨z, hz, b202, rfl, rfl⟩ := hv202
      refine zA ?_
      refine zY 0 rfl rfl rfl (c150 _ _ _ _ _ _ (by decide) (by omega)) rfl sub0 (fun u203 M203 D203 hv203 => ?_)
      obtain ⟨A203, c203, b203, rfl, rfl, rfl⟩ := hv203
      refine zA (zE rfl rfl ?_)
      refine zC (yP (L := L) 3 0 1 rfl rfl rfl ?_)
      exact kQ (hKj10 (_, _, _, _, L ++ [(keyOf 23, _)]) ⟨hW.add rfl hkw (by decide) (by decide) hgx hz, by show _ + 2 ≤ _; omega⟩) (EnvLe.cons rfl (EnvLe.cons rfl (EnvLe.cons rfl (EnvLe.nil _)))) (hD := (subc 0 rfl (by intro d hd; repeat (first | exact hd | apply List.mem_cons_of_mem))))
    refine zL ?_
    exact kQ (hKj10 (_, _, _, _, L) ⟨hW.skip (none_of hp23 h196), by show _ ≤ _; omega⟩) (EnvLe.cons rfl (EnvLe.cons rfl (EnvLe.cons rfl (EnvLe.nil _))))
  intro ⟨m, A, ca, xs, L⟩ hI
  replace hI : WI v f [23, 24, 22, 21, 34, 15, 27, 1, 2, 33] L ∧ m ≤ 20 := hI
  change Run _ _ _ _ _ [(4, .slice A m ca), (3, _), (0, _)] (HA.row A m ca 102 1 xs :: HA.blk b6 (ycells 4 ⟨#[]⟩ ⟨#[]⟩ none 0 0) 150 :: []) (.ptrs xs (L.flatMap prY) :: .dblk b cs 124 :: .flds mb cs f :: .gr mb G :: .tab :: ft :: [])
  obtain ⟨hW, hm⟩ := hI
  refine zD (zD ?_)
  refine zB (zA ?_)
  refine zF rfl rfl (zA ?_)
  refine zH rfl rfl (zA ?_)
  refine zJ fo124_25 rfl rfl (zA ?_)
  refine zN 1 sc119 rfl rfl rfl hc25 (zA ?_)
  refine yE pn119 rfl rfl (zC ?_)
  refine zG [208, 4, 3, 0] ?_
  change Run _ _ _ _ _ [(208, _), (4, _), (3, _), (0, _)] _ _
  refine yU [3, 0] (fun (⟨m, A, ca, xs, L⟩ : Nat × Option Addr × Nat × List Value × List (ByteArray × Y)) => WI v f [25, 23, 24, 22, 21, 34, 15, 27, 1, 2, 33] L ∧ m ≤ 22) (fun (⟨m, A, ca, xs, L⟩ : Nat × Option Addr × Nat × List Value × List (ByteArray × Y)) => [(4, .slice A m ca)]) (fun (⟨m, A, ca, xs, L⟩ : Nat × Option Addr × Nat × List Value × List (ByteArray × Y)) => HA.row A m ca 102 1 xs :: HA.blk b6 (ycells 4 ⟨#[]⟩ ⟨#[]⟩ none 0 0) 150 :: []) (fun (⟨m, A, ca, xs, L⟩ : Nat × Option Addr × Nat × List Value × List (ByteArray × Y)) => .ptrs xs (L.flatMap prY) :: .dblk b cs 124 :: .flds mb cs f :: .gr mb G :: .tab :: ft :: []) ?_ ?_
  · intro Kj11 hKj11
    refine yH rfl (fun h208 => ?_) (fun h208 => ?_)
    · refine xQ 2 25 rfl (by decide) (by decide) hc25 hp25 h208 hU (fun fv x a hpa hfv hgx hkw hr => ?_)
      subst hpa
      have hF := HF _ _ hgx (by rw [hkw]; decide)
      rw [hkw] at hF
      change Fld ft mb G 10 x at hF
      change FvRel _ 10 x fv at hr
      refine zB (zA ?_)
      refine zF rfl rfl (zA ?_)
      refine zF rfl rfl (zA ?_)
      refine zH rfl rfl (zA ?_)
      refine zJ fo124_25 rfl rfl (zA ?_)
      refine zN 2 sc119 rfl rfl rfl hc25 (zA ?_)
      refine zV rfl rfl rfl (w10 hF hr) (subc 0 rfl (subc 4 rfl (sub2 5 6 rfl rfl))) (fun u214 D214 hv214 => ?_)
      obtain ⟨z, hz, b214, rfl, rfl⟩ := hv214
      refine zA ?_
      refine zY 0 rfl rfl rfl (c150 _ _ _ _ _ _ (by decide) (by omega)) rfl sub0 (fun u215 M215 D215 hv215 => ?_)
      obtain ⟨A215, c215, b215, rfl, rfl, rfl⟩ := hv215
      refine zA (zE rfl rfl ?_)
      refine zC (yP (L := L) 3 0 1 rfl rfl rfl ?_)
      exact kQ (hKj11 (_, _, _, _, L ++ [(keyOf 25, _)]) ⟨hW.add rfl hkw (by decide) (by decide) hgx hz, by show _ + 2 ≤ _; omega⟩) (EnvLe.cons rfl (EnvLe.cons rfl (EnvLe.cons rfl (EnvLe.nil _)))) (hD := (subc 0 rfl (by intro d hd; repeat (first | exact hd | apply List.mem_cons_of_mem))))
    refine zL ?_
    exact kQ (hKj11 (_, _, _, _, L) ⟨hW.skip (none_of hp25 h208), by show _ ≤ _; omega⟩) (EnvLe.cons rfl (EnvLe.cons rfl (EnvLe.cons rfl (EnvLe.nil _))))
  intro ⟨m, A, ca, xs, L⟩ hI
  replace hI : WI v f [25, 23, 24, 22, 21, 34, 15, 27, 1, 2, 33] L ∧ m ≤ 22 := hI
  change Run _ _ _ _ _ [(4, .slice A m ca), (3, _), (0, _)] (HA.row A m ca 102 1 xs :: HA.blk b6 (ycells 4 ⟨#[]⟩ ⟨#[]⟩ none 0 0) 150 :: []) (.ptrs xs (L.flatMap prY) :: .dblk b cs 124 :: .flds mb cs f :: .gr mb G :: .tab :: ft :: [])
  obtain ⟨hW, hm⟩ := hI
  refine zD (zD ?_)
  refine zB (zA ?_)
  refine zF rfl rfl (zA ?_)
  refine zH rfl rfl (zA ?_)
  refine zJ fo124_3 rfl rfl (zA ?_)
  refine zN 1 sc111 rfl rfl rfl hc3 (zA ?_)
  refine yE pn111 rfl rfl (zC ?_)
  refine zG [220, 4, 3, 0] ?_
  change Run _ _ _ _ _ [(220, _), (4, _), (3, _), (0, _)] _ _
  refine yU [3, 0] (fun (⟨m, A, ca, xs, L⟩ : Nat × Option Addr × Nat × List Value × List (ByteArray × Y)) => WI v f [3, 25, 23, 24, 22, 21, 34, 15, 27, 1, 2, 33] L ∧ m ≤ 24) (fun (⟨m, A, ca, xs, L⟩ : Nat × Option Addr × Nat × List Value × List (ByteArray × Y)) => [(4, .slice A m ca)]) (fun (⟨m, A, ca, xs, L⟩ : Nat × Option Addr × Nat × List Value × List (ByteArray × Y)) => HA.row A m ca 102 1 xs :: HA.blk b6 (ycells 4 ⟨#[]⟩ ⟨#[]⟩ none 0 0) 150 :: []) (fun (⟨m, A, ca, xs, L⟩ : Nat × Option Addr × Nat × List Value × List (ByteArray × Y)) => .ptrs xs (L.flatMap prY) :: .dblk b cs 124 :: .flds mb cs f :: .gr mb G :: .tab :: ft :: []) ?_ ?_
  · intro Kj12 hKj12
    refine yH rfl (fun h220 => ?_) (fun h220 => ?_)
    · refine xQ 2 3 rfl (by decide) (by decide) hc3 hp3 h220 hU (fun fv x a hpa hfv hgx hkw hr => ?_)
      subst hpa
      have hF := HF _ _ hgx (by rw [hkw]; decide)
      rw [hkw] at hF
      change Fld ft mb G 1 x at hF
      change FvRel _ 1 x fv at hr
      obtain rfl := text_of hr
      refine run_text 0 rfl (fun p hp hs => ?_)
      cases hp
      refine zB (zA ?_)
      refine zF rfl rfl (zA ?_)
      refine zF rfl rfl (zA ?_)
      refine zH rfl rfl (zA ?_)
      refine zJ fo124_3 rfl rfl (zA ?_)
      refine zN 3 sc111 rfl rfl rfl hc3 (zA ?_)
      refine zH rfl rfl (zA ?_)
      refine yQ 0 sc9 rfl rfl rfl (zA ?_)
      refine zV rfl rfl rfl (c151 _ hs) sub0 (fun u228 D228 hv228 => ?_)
      obtain ⟨b228, rfl, rfl⟩ := hv228
      refine zA ?_
      refine zY 0 rfl rfl rfl (c150 _ _ _ _ _ _ (by decide) (by omega)) rfl sub0 (fun u229 M229 D229 hv229 => ?_)
      obtain ⟨A229, c229, b229, rfl, rfl, rfl⟩ := hv229
      refine zA (zE rfl rfl ?_)
      refine zC (zG [4, 3, 0] ?_)
      change Run _ _ _ _ _ [(4, _), (3, _), (0, _)] _ _
      refine yP (L := L) 4 0 1 rfl rfl rfl ?_
      exact kQ (hKj12 (_, _, _, _, L ++ [(keyOf 3, _)]) ⟨hW.add rfl hkw (by decide) (by decide) hgx (.inl ⟨rfl, rfl⟩), by show _ + 2 ≤ _; omega⟩) (EnvLe.cons rfl (EnvLe.cons rfl (EnvLe.cons rfl (EnvLe.nil _)))) (hD := (subc 0 rfl (by intro d hd; repeat (first | exact hd | apply List.mem_cons_of_mem))))
    refine zL ?_
    exact kQ (hKj12 (_, _, _, _, L) ⟨hW.skip (none_of hp3 h220), by show _ ≤ _; omega⟩) (EnvLe.cons rfl (EnvLe.cons rfl (EnvLe.cons rfl (EnvLe.nil _))))
  intro ⟨m, A, ca, xs, L⟩ hI
  replace hI : WI v f [3, 25, 23, 24, 22, 21, 34, 15, 27, 1, 2, 33] L ∧ m ≤ 24 := hI
  change Run _ _ _ _ _ [(4, .slice A m ca), (3, _), (0, _)] (HA.row A m ca 102 1 xs :: HA.blk b6 (ycells 4 ⟨#[]⟩ ⟨#[]⟩ none 0 0) 150 :: []) (.ptrs xs (L.flatMap prY) :: .dblk b cs 124 :: .flds mb cs f :: .gr mb G :: .tab :: ft :: [])
  obtain ⟨hW, hm⟩ := hI
  refine zD (zD ?_)
  refine zB (zA ?_)
  refine zF rfl rfl (zA ?_)
  refine zH rfl rfl (zA ?_)
  refine zJ fo124_6 rfl rfl (zA ?_)
  refine zN 1 sc113 rfl rfl rfl hc6 (zA ?_)
  refine yE pn113 rfl rfl (zC ?_)
  refine zG [234, 4, 3, 0] ?_
  change Run _ _ _ _ _ [(234, _), (4, _), (3, _), (0, _)] _ _
  refine yU [3, 0] (fun (⟨m, A, ca, xs, L⟩ : Nat × Option Addr × Nat × List Value × List (ByteArray × Y)) => WI v f [6, 3, 25, 23, 24, 22, 21, 34, 15, 27, 1, 2, 33] L ∧ m ≤ 26) (fun (⟨m, A, ca, xs, L⟩ : Nat × Option Addr × Nat × List Value × List (ByteArray × Y)) => [(4, .slice A m ca)]) (fun (⟨m, A, ca, xs, L⟩ : Nat × Option Addr × Nat × List Value × List (ByteArray × Y)) => HA.row A m ca 102 1 xs :: HA.blk b6 (ycells 4 ⟨#[]⟩ ⟨#[]⟩ none 0 0) 150 :: []) (fun (⟨m, A, ca, xs, L⟩ : Nat × Option Addr × Nat × List Value × List (ByteArray × Y)) => .ptrs xs (L.flatMap prY) :: .dblk b cs 124 :: .flds mb cs f :: .gr mb G :: .tab :: ft :: []) ?_ ?_
  · intro Kj13 hKj13
    refine yH rfl (fun h234 => ?_) (fun h234 => ?_)
    · refine xQ 2 6 rfl (by decide) (by decide) hc6 hp6 h234 hU (fun fv x a hpa hfv hgx hkw hr => ?_)
      subst hpa
      have hF := HF _ _ hgx (by rw [hkw]; decide)
      rw [hkw] at hF
      change Fld ft mb G 3 x at hF
      change FvRel _ 3 x fv at hr
      refine zB (zA ?_)
      refine zF rfl rfl (zA ?_)
      refine zF rfl rfl (zA ?_)
      refine zH rfl rfl (zA ?_)
      refine zJ fo124_6 rfl rfl (zA ?_)
      refine zN 2 sc113 rfl rfl rfl hc6 (zA ?_)
      refine zV rfl rfl rfl (w3 hF hr) (subc 0 rfl (subc 4 rfl (sub2 5 6 rfl rfl))) (fun u240 D240 hv240 => ?_)
      obtain ⟨z, hz, b240, rfl, rfl⟩ := hv240
      refine zA ?_
      refine zY 0 rfl rfl rfl (c150 _ _ _ _ _ _ (by decide) (by omega)) rfl sub0 (fun u241 M241 D241 hv241 => ?_)
      obtain ⟨A241, c241, b241, rfl, rfl, rfl⟩ := hv241
      refine zA (zE rfl rfl ?_)
      refine zC (yP (L := L) 3 0 1 rfl rfl rfl ?_)
      exact kQ (hKj13 (_, _, _, _, L ++ [(keyOf 6, _)]) ⟨hW.add rfl hkw (by decide) (by decide) hgx hz, by show _ + 2 ≤ _; omega⟩) (EnvLe.cons rfl (EnvLe.cons rfl (EnvLe.cons rfl (EnvLe.nil _)))) (hD := (subc 0 rfl (by intro d hd; repeat (first | exact hd | apply List.mem_cons_of_mem))))
    refine zL ?_
    exact kQ (hKj13 (_, _, _, _, L) ⟨hW.skip (none_of hp6 h234), by show _ ≤ _; omega⟩) (EnvLe.cons rfl (EnvLe.cons rfl (EnvLe.cons rfl (EnvLe.nil _))))
  intro ⟨m, A, ca, xs, L⟩ hI
  replace hI : WI v f [6, 3, 25, 23, 24, 22, 21, 34, 15, 27, 1, 2, 33] L ∧ m ≤ 26 := hI
  change Run _ _ _ _ _ [(4, .slice A m ca), (3, _), (0, _)] (HA.row A m ca 102 1 xs :: HA.blk b6 (ycells 4 ⟨#[]⟩ ⟨#[]⟩ none 0 0) 150 :: []) (.ptrs xs (L.flatMap prY) :: .dblk b cs 124 :: .flds mb cs f :: .gr mb G :: .tab :: ft :: [])
  obtain ⟨hW, hm⟩ := hI
  refine zD (zD ?_)
  refine zB (zA ?_)
  refine zF rfl rfl (zA ?_)
  refine zH rfl rfl (zA ?_)
  refine zJ fo124_7 rfl rfl (zA ?_)
  refine zN 1 sc113 rfl rfl rfl hc7 (zA ?_)
  refine yE pn113 rfl rfl (zC ?_)
  refine zG [246, 4, 3, 0] ?_
  change Run _ _ _ _ _ [(246, _), (4, _), (3, _), (0, _)] _ _
  refine yU [3, 0] (fun (⟨m, A, ca, xs, L⟩ : Nat × Option Addr × Nat × List Value × List (ByteArray × Y)) => WI v f [7, 6, 3, 25, 23, 24, 22, 21, 34, 15, 27, 1, 2, 33] L ∧ m ≤ 28) (fun (⟨m, A, ca, xs, L⟩ : Nat × Option Addr × Nat × List Value × List (ByteArray × Y)) => [(4, .slice A m ca)]) (fun (⟨m, A, ca, xs, L⟩ : Nat × Option Addr × Nat × List Value × List (ByteArray × Y)) => HA.row A m ca 102 1 xs :: HA.blk b6 (ycells 4 ⟨#[]⟩ ⟨#[]⟩ none 0 0) 150 :: []) (fun (⟨m, A, ca, xs, L⟩ : Nat × Option Addr × Nat × List Value × List (ByteArray × Y)) => .ptrs xs (L.flatMap prY) :: .dblk b cs 124 :: .flds mb cs f :: .gr mb G :: .tab :: ft :: []) ?_ ?_
  · intro Kj14 hKj14
    refine yH rfl (fun h246 => ?_) (fun h246 => ?_)
    · refine xQ 2 7 rfl (by decide) (by decide) hc7 hp7 h246 hU (fun fv x a hpa hfv hgx hkw hr => ?_)
      subst hpa
      have hF := HF _ _ hgx (by rw [hkw]; decide)
      rw [hkw] at hF
      change Fld ft mb G 3 x at hF
      change FvRel _ 3 x fv at hr
      refine zB (zA ?_)
      refine zF rfl rfl (zA ?_)
      refine zF rfl rfl (zA ?_)
      refine zH rfl rfl (zA ?_)
      refine zJ fo124_7 rfl rfl (zA ?_)
      refine zN 2 sc113 rfl rfl rfl hc7 (zA ?_)
      refine zV rfl rfl rfl (w3 hF hr) (subc 0 rfl (subc 4 rfl (sub2 5 6 rfl rfl))) (fun u252 D252 hv252 => ?_)
      obtain ⟨z, hz, b252, rfl, rfl⟩ := hv252
      refine zA ?_
      refine zY 0 rfl rfl rfl (c150 _ _ _ _ _ _ (by decide) (by omega)) rfl sub0 (fun u253 M253 D253 hv253 => ?_)
      obtain ⟨A253, c253, b253, rfl, rfl, rfl⟩ := hv253
      refine zA (zE rfl rfl ?_)
      refine zC (yP (L := L) 3 0 1 rfl rfl rfl ?_)
      exact kQ (hKj14 (_, _, _, _, L ++ [(keyOf 7, _)]) ⟨hW.add rfl hkw (by decide) (by decide) hgx hz, by show _ + 2 ≤ _; omega⟩) (EnvLe.cons rfl (EnvLe.cons rfl (EnvLe.cons rfl (EnvLe.nil _)))) (hD := (subc 0 rfl (by intro d hd; repeat (first | exact hd | apply List.mem_cons_of_mem))))
    refine zL ?_
    exact kQ (hKj14 (_, _, _, _, L) ⟨hW.skip (none_of hp7 h246), by show _ ≤ _; omega⟩) (EnvLe.cons rfl (EnvLe.cons rfl (EnvLe.cons rfl (EnvLe.nil _))))
  intro ⟨m, A, ca, xs, L⟩ hI
  replace hI : WI v f [7, 6, 3, 25, 23, 24, 22, 21, 34, 15, 27, 1, 2, 33] L ∧ m ≤ 28 := hI
  change Run _ _ _ _ _ [(4, .slice A m ca), (3, _), (0, _)] (HA.row A m ca 102 1 xs :: HA.blk b6 (ycells 4 ⟨#[]⟩ ⟨#[]⟩ none 0 0) 150 :: []) (.ptrs xs (L.flatMap prY) :: .dblk b cs 124 :: .flds mb cs f :: .gr mb G :: .tab :: ft :: [])
  obtain ⟨hW, hm⟩ := hI
  refine zD (zD ?_)
  refine zB (zA ?_)
  refine zF rfl rfl (zA ?_)
  refine zH rfl rfl (zA ?_)
  refine zJ fo124_8 rfl rfl (zA ?_)
  refine zN 1 sc112 rfl rfl rfl hc8 (zA ?_)
  refine yE pn112 rfl rfl (zC ?_)
  refine zG [258, 4, 3, 0] ?_
  change Run _ _ _ _ _ [(258, _), (4, _), (3, _), (0, _)] _ _
  refine yU [3, 0] (fun (⟨m, A, ca, xs, L⟩ : Nat × Option Addr × Nat × List Value × List (ByteArray × Y)) => WI v f [8, 7, 6, 3, 25, 23, 24, 22, 21, 34, 15, 27, 1, 2, 33] L ∧ m ≤ 30) (fun (⟨m, A, ca, xs, L⟩ : Nat × Option Addr × Nat × List Value × List (ByteArray × Y)) => [(4, .slice A m ca)]) (fun (⟨m, A, ca, xs, L⟩ : Nat × Option Addr × Nat × List Value × List (ByteArray × Y)) => HA.row A m ca 102 1 xs :: HA.blk b6 (ycells 4 ⟨#[]⟩ ⟨#[]⟩ none 0 0) 150 :: []) (fun (⟨m, A, ca, xs, L⟩ : Nat × Option Addr × Nat × List Value × List (ByteArray × Y)) => .ptrs xs (L.flatMap prY) :: .dblk b cs 124 :: .flds mb cs f :: .gr mb G :: .tab :: ft :: []) ?_ ?_
  · intro Kj15 hKj15
    refine yH rfl (fun h258 => ?_) (fun h258 => ?_)
    · refine xQ 2 8 rfl (by decide) (by decide) hc8 hp8 h258 hU (fun fv x a hpa hfv hgx hkw hr => ?_)
      subst hpa
      have hF := HF _ _ hgx (by rw [hkw]; decide)
      rw [hkw] at hF
      change Fld ft mb G 2 x at hF
      change FvRel _ 2 x fv at hr
      obtain rfl := bool_of hr
      refine run_bool 0 rfl (fun p hp => ?_)
      cases hp
      refine zB (zA ?_)
      refine zF rfl rfl (zA ?_)
      refine zF rfl rfl (zA ?_)
      refine zH rfl rfl (zA ?_)
      refine zJ fo124_8 rfl rfl (zA ?_)
      refine zN 3 sc112 rfl rfl rfl hc8 (zA ?_)
      refine zH rfl rfl (zA ?_)
      refine yQ 0 sc4 rfl rfl rfl (zA ?_)
      refine zV rfl rfl rfl (c153 _) sub0 (fun u266 D266 hv266 => ?_)
      obtain ⟨b266, rfl, rfl⟩ := hv266
      refine zA ?_
      refine zY 0 rfl rfl rfl (c150 _ _ _ _ _ _ (by decide) (by omega)) rfl sub0 (fun u267 M267 D267 hv267 => ?_)
      obtain ⟨A267, c267, b267, rfl, rfl, rfl⟩ := hv267
      refine zA (zE rfl rfl ?_)
      refine zC (zG [4, 3, 0] ?_)
      change Run _ _ _ _ _ [(4, _), (3, _), (0, _)] _ _
      refine yP (L := L) 4 0 1 rfl rfl rfl ?_
      exact kQ (hKj15 (_, _, _, _, L ++ [(keyOf 8, _)]) ⟨hW.add rfl hkw (by decide) (by decide) hgx (.inr (.inl ⟨rfl, rfl⟩)), by show _ + 2 ≤ _; omega⟩) (EnvLe.cons rfl (EnvLe.cons rfl (EnvLe.cons rfl (EnvLe.nil _)))) (hD := (subc 0 rfl (by intro d hd; repeat (first | exact hd | apply List.mem_cons_of_mem))))
    refine zL ?_
    exact kQ (hKj15 (_, _, _, _, L) ⟨hW.skip (none_of hp8 h258), by show _ ≤ _; omega⟩) (EnvLe.cons rfl (EnvLe.cons rfl (EnvLe.cons rfl (EnvLe.nil _))))
  intro ⟨m, A, ca, xs, L⟩ hI
  replace hI : WI v f [8, 7, 6, 3, 25, 23, 24, 22, 21, 34, 15, 27, 1, 2, 33] L ∧ m ≤ 30 := hI
  change Run _ _ _ _ _ [(4, .slice A m ca), (3, _), (0, _)] (HA.row A m ca 102 1 xs :: HA.blk b6 (ycells 4 ⟨#[]⟩ ⟨#[]⟩ none 0 0) 150 :: []) (.ptrs xs (L.flatMap prY) :: .dblk b cs 124 :: .flds mb cs f :: .gr mb G :: .tab :: ft :: [])
  obtain ⟨hW, hm⟩ := hI
  refine zD (zD ?_)
  refine zB (zA ?_)
  refine zF rfl rfl (zA ?_)
  refine zH rfl rfl (zA ?_)
  refine zJ fo124_9 rfl rfl (zA ?_)
  refine zN 1 sc113 rfl rfl rfl hc9 (zA ?_)
  refine yE pn113 rfl rfl (zC ?_)
  refine zG [272, 4, 3, 0] ?_
  change Run _ _ _ _ _ [(272, _), (4, _), (3, _), (0, _)] _ _
  refine yU [3, 0] (fun (⟨m, A, ca, xs, L⟩ : Nat × Option Addr × Nat × List Value × List (ByteArray × Y)) => WI v f [9, 8, 7, 6, 3, 25, 23, 24, 22, 21, 34, 15, 27, 1, 2, 33] L ∧ m ≤ 32) (fun (⟨m, A, ca, xs, L⟩ : Nat × Option Addr × Nat × List Value × List (ByteArray × Y)) => [(4, .slice A m ca)]) (fun (⟨m, A, ca, xs, L⟩ : Nat × Option Addr × Nat × List Value × List (ByteArray × Y)) => HA.row A m ca 102 1 xs :: HA.blk b6 (ycells 4 ⟨#[]⟩ ⟨#[]⟩ none 0 0) 150 :: []) (fun (⟨m, A, ca, xs, L⟩ : Nat × Option Addr × Nat × List Value × List (ByteArray × Y)) => .ptrs xs (L.flatMap prY) :: .dblk b cs 124 :: .flds mb cs f :: .gr mb G :: .tab :: ft :: []) ?_ ?_
  · intro Kj16 hKj16
    refine yH rfl (fun h272 => ?_) (fun h272 => ?_)
    · refine xQ 2 9 rfl (by decide) (by decide) hc9 hp9 h272 hU (fun fv x a hpa hfv hgx hkw hr => ?_)
      subst hpa
      have hF := HF _ _ hgx (by rw [hkw]; decide)
      rw [hkw] at hF
      change Fld ft mb G 3 x at hF
      change FvRel _ 3 x fv at hr
      refine zB (zA ?_)
      refine zF rfl rfl (zA ?_)
      refine zF rfl rfl (zA ?_)
      refine zH rfl rfl (zA ?_)
      refine zJ fo124_9 rfl rfl (zA ?_)
      refine zN 2 sc113 rfl rfl rfl hc9 (zA ?_)
      refine zV rfl rfl rfl (w3 hF hr) (subc 0 rfl (subc 4 rfl (sub2 5 6 rfl rfl))) (fun u278 D278 hv278 => ?_)
      obtain ⟨z, hz, b278, rfl, rfl⟩ := hv278
      refine zA ?_
      refine zY 0 rfl rfl rfl (c150 _ _ _ _ _ _ (by decide) (by omega)) rfl sub0 (fun u279 M279 D279 hv279 => ?_)
      obtain ⟨A279, c279, b279, rfl, rfl, rfl⟩ := hv279
      refine zA (zE rfl rfl ?_)
      refine zC (yP (L := L) 3 0 1 rfl rfl rfl ?_)
      exact kQ (hKj16 (_, _, _, _, L ++ [(keyOf 9, _)]) ⟨hW.add rfl hkw (by decide) (by decide) hgx hz, by show _ + 2 ≤ _; omega⟩) (EnvLe.cons rfl (EnvLe.cons rfl (EnvLe.cons rfl (EnvLe.nil _)))) (hD := (subc 0 rfl (by intro d hd; repeat (first | exact hd | apply List.mem_cons_of_mem))))
    refine zL ?_
    exact kQ (hKj16 (_, _, _, _, L) ⟨hW.skip (none_of hp9 h272), by show _ ≤ _; omega⟩) (EnvLe.cons rfl (EnvLe.cons rfl (EnvLe.cons rfl (EnvLe.nil _))))
  intro ⟨m, A, ca, xs, L⟩ hI
  replace hI : WI v f [9, 8, 7, 6, 3, 25, 23, 24, 22, 21, 34, 15, 27, 1, 2, 33] L ∧ m ≤ 32 := hI
  change Run _ _ _ _ _ [(4, .slice A m ca), (3, _), (0, _)] (HA.row A m ca 102 1 xs :: HA.blk b6 (ycells 4 ⟨#[]⟩ ⟨#[]⟩ none 0 0) 150 :: []) (.ptrs xs (L.flatMap prY) :: .dblk b cs 124 :: .flds mb cs f :: .gr mb G :: .tab :: ft :: [])
  obtain ⟨hW, hm⟩ := hI
  refine zD (zD ?_)
  refine zB (zA ?_)
  refine zF rfl rfl (zA ?_)
  refine zH rfl rfl (zA ?_)
  refine zJ fo124_10 rfl rfl (zA ?_)
  refine zN 1 sc112 rfl rfl rfl hc10 (zA ?_)
  refine yE pn112 rfl rfl (zC ?_)
  refine zG [284, 4, 3, 0] ?_
  change Run _ _ _ _ _ [(284, _), (4, _), (3, _), (0, _)] _ _
  refine yU [3, 0] (fun (⟨m, A, ca, xs, L⟩ : Nat × Option Addr × Nat × List Value × List (ByteArray × Y)) => WI v f [10, 9, 8, 7, 6, 3, 25, 23, 24, 22, 21, 34, 15, 27, 1, 2, 33] L ∧ m ≤ 34) (fun (⟨m, A, ca, xs, L⟩ : Nat × Option Addr × Nat × List Value × List (ByteArray × Y)) => [(4, .slice A m ca)]) (fun (⟨m, A, ca, xs, L⟩ : Nat × Option Addr × Nat × List Value × List (ByteArray × Y)) => HA.row A m ca 102 1 xs :: HA.blk b6 (ycells 4 ⟨#[]⟩ ⟨#[]⟩ none 0 0) 150 :: []) (fun (⟨m, A, ca, xs, L⟩ : Nat × Option Addr × Nat × List Value × List (ByteArray × Y)) => .ptrs xs (L.flatMap prY) :: .dblk b cs 124 :: .flds mb cs f :: .gr mb G :: .tab :: ft :: []) ?_ ?_
  · intro Kj17 hKj17
    refine yH rfl (fun h284 => ?_) (fun h284 => ?_)
    · refine xQ 2 10 rfl (by decide) (by decide) hc10 hp10 h284 hU (fun fv x a hpa hfv hgx hkw hr => ?_)
      subst hpa
      have hF := HF _ _ hgx (by rw [hkw]; decide)
      rw [hkw] at hF
      change Fld ft mb G 2 x at hF
      change FvRel _ 2 x fv at hr
      obtain rfl := bool_of hr
      refine run_bool 0 rfl (fun p hp => ?_)
      cases hp
      refine zB (zA ?_)
      refine zF rfl rfl (zA ?_)
      refine zF rfl rfl (zA ?_)
      refine zH rfl rfl (zA ?_)
      refine zJ fo124_10 rfl rfl (zA ?_)
      refine zN 3 sc112 rfl rfl rfl hc10 (zA ?_)
      refine zH rfl rfl (zA ?_)
      refine yQ 0 sc4 rfl rfl rfl (zA ?_)
      refine zV rfl rfl rfl (c153 _) sub0 (fun u292 D292 hv292 => ?_)
      obtain ⟨b292, rfl, rfl⟩ := hv292
      refine zA ?_
      refine zY 0 rfl rfl rfl (c150 _ _ _ _ _ _ (by decide) (by omega)) rfl sub0 (fun u293 M293 D293 hv293 => ?_)
      obtain ⟨A293, c293, b293, rfl, rfl, rfl⟩ := hv293
      refine zA (zE rfl rfl ?_)
      refine zC (zG [4, 3, 0] ?_)
      change Run _ _ _ _ _ [(4, _), (3, _), (0, _)] _ _
      refine yP (L := L) 4 0 1 rfl rfl rfl ?_
      exact kQ (hKj17 (_, _, _, _, L ++ [(keyOf 10, _)]) ⟨hW.add rfl hkw (by decide) (by decide) hgx (.inr (.inl ⟨rfl, rfl⟩)), by show _ + 2 ≤ _; omega⟩) (EnvLe.cons rfl (EnvLe.cons rfl (EnvLe.cons rfl (EnvLe.nil _)))) (hD := (subc 0 rfl (by intro d hd; repeat (first | exact hd | apply List.mem_cons_of_mem))))
    refine zL ?_
    exact kQ (hKj17 (_, _, _, _, L) ⟨hW.skip (none_of hp10 h284), by show _ ≤ _; omega⟩) (EnvLe.cons rfl (EnvLe.cons rfl (EnvLe.cons rfl (EnvLe.nil _))))
  intro ⟨m, A, ca, xs, L⟩ hI
  replace hI : WI v f [10, 9, 8, 7, 6, 3, 25, 23, 24, 22, 21, 34, 15, 27, 1, 2, 33] L ∧ m ≤ 34 := hI
  change Run _ _ _ _ _ [(4, .slice A m ca), (3, _), (0, _)] (HA.row A m ca 102 1 xs :: HA.blk b6 (ycells 4 ⟨#[]⟩ ⟨#[]⟩ none 0 0) 150 :: []) (.ptrs xs (L.flatMap prY) :: .dblk b cs 124 :: .flds mb cs f :: .gr mb G :: .tab :: ft :: [])
  obtain ⟨hW, hm⟩ := hI
  refine zD (zD ?_)
  refine zB (zA ?_)
  refine zF rfl rfl (zA ?_)
  refine zH rfl rfl (zA ?_)
  refine zJ fo124_11 rfl rfl (zA ?_)
  refine zN 1 sc114 rfl rfl rfl hc11 (zA ?_)
  refine yE pn114 rfl rfl (zC ?_)
  refine zG [298, 4, 3, 0] ?_
  change Run _ _ _ _ _ [(298, _), (4, _), (3, _), (0, _)] _ _
  refine yU [3, 0] (fun (⟨m, A, ca, xs, L⟩ : Nat × Option Addr × Nat × List Value × List (ByteArray × Y)) => WI v f [11, 10, 9, 8, 7, 6, 3, 25, 23, 24, 22, 21, 34, 15, 27, 1, 2, 33] L ∧ m ≤ 36) (fun (⟨m, A, ca, xs, L⟩ : Nat × Option Addr × Nat × List Value × List (ByteArray × Y)) => [(4, .slice A m ca)]) (fun (⟨m, A, ca, xs, L⟩ : Nat × Option Addr × Nat × List Value × List (ByteArray × Y)) => HA.row A m ca 102 1 xs :: HA.blk b6 (ycells 4 ⟨#[]⟩ ⟨#[]⟩ none 0 0) 150 :: []) (fun (⟨m, A, ca, xs, L⟩ : Nat × Option Addr × Nat × List Value × List (ByteArray × Y)) => .ptrs xs (L.flatMap prY) :: .dblk b cs 124 :: .flds mb cs f :: .gr mb G :: .tab :: ft :: []) ?_ ?_
  · intro Kj18 hKj18
    refine yH rfl (fun h298 => ?_) (fun h298 => ?_)
    · refine xQ 2 11 rfl (by decide) (by decide) hc11 hp11 h298 hU (fun fv x a hpa hfv hgx hkw hr => ?_)
      subst hpa
      have hF := HF _ _ hgx (by rw [hkw]; decide)
      rw [hkw] at hF
      change Fld ft mb G 4 x at hF
      change FvRel _ 4 x fv at hr
      obtain rfl := int_of hr
      refine run_int 0 rfl (fun p hp => ?_)
      cases hp
      have hn := Fld.int (.inl (by have := hF.fit; simp [FitLoc] at this; exact this.1)) hF.pl
      refine zB (zA ?_)
      refine zF rfl rfl (zA ?_)
      refine zF rfl rfl (zA ?_)
      refine zH rfl rfl (zA ?_)
      refine zJ fo124_11 rfl rfl (zA ?_)
      refine zN 3 sc114 rfl rfl rfl hc11 (zA ?_)
      refine zH rfl rfl (zA ?_)
      refine yQ 0 sc2 rfl rfl rfl (zA ?_)
      refine zV rfl rfl rfl (c161 _ hn.1 hn.2) (sub1 6 rfl) (fun u306 D306 hv306 => ?_)
      obtain ⟨b306, rfl, rfl⟩ := hv306
      refine zA ?_
      refine zY 0 rfl rfl rfl (c150 _ _ _ _ _ _ (by decide) (by omega)) rfl sub0 (fun u307 M307 D307 hv307 => ?_)
      obtain ⟨A307, c307, b307, rfl, rfl, rfl⟩ := hv307
      refine zA (zE rfl rfl ?_)
      refine zC (zG [4, 3, 0] ?_)
      change Run _ _ _ _ _ [(4, _), (3, _), (0, _)] _ _
      refine yP (L := L) 4 0 1 rfl rfl rfl ?_
      exact kQ (hKj18 (_, _, _, _, L ++ [(keyOf 11, _)]) ⟨hW.add rfl hkw (by decide) (by decide) hgx (.inr (.inr (.inr (.inr (.inl ⟨rfl, rfl⟩))))), by show _ + 2 ≤ _; omega⟩) (EnvLe.cons rfl (EnvLe.cons rfl (EnvLe.cons rfl (EnvLe.nil _)))) (hD := (subc 0 rfl (by intro d hd; repeat (first | exact hd | apply List.mem_cons_of_mem))))
    refine zL ?_
    exact kQ (hKj18 (_, _, _, _, L) ⟨hW.skip (none_of hp11 h298), by show _ ≤ _; omega⟩) (EnvLe.cons rfl (EnvLe.cons rfl (EnvLe.cons rfl (EnvLe.nil _))))
  intro ⟨m, A, ca, xs, L⟩ hI
  replace hI : WI v f [11, 10, 9, 8, 7, 6, 3, 25, 23, 24, 22, 21, 34, 15, 27, 1, 2, 33] L ∧ m ≤ 36 := hI
  change Run _ _ _ _ _ [(4, .slice A m ca), (3, _), (0, _)] (HA.row A m ca 102 1 xs :: HA.blk b6 (ycells 4 ⟨#[]⟩ ⟨#[]⟩ none 0 0) 150 :: []) (.ptrs xs (L.flatMap prY) :: .dblk b cs 124 :: .flds mb cs f :: .gr mb G :: .tab :: ft :: [])
  obtain ⟨hW, hm⟩ := hI
  refine zD (zD ?_)
  refine zB (zA ?_)
  refine zF rfl rfl (zA ?_)
  refine zH rfl rfl (zA ?_)
  refine zJ fo124_12 rfl rfl (zA ?_)
  refine zN 1 sc114 rfl rfl rfl hc12 (zA ?_)
  refine yE pn114 rfl rfl (zC ?_)
  refine zG [312, 4, 3, 0] ?_
  change Run _ _ _ _ _ [(312, _), (4, _), (3, _), (0, _)] _ _
  refine yU [3, 0] (fun (⟨m, A, ca, xs, L⟩ : Nat × Option Addr × Nat × List Value × List (ByteArray × Y)) => WI v f [12, 11, 10, 9, 8, 7, 6, 3, 25, 23, 24, 22, 21, 34, 15, 27, 1, 2, 33] L ∧ m ≤ 38) (fun (⟨m, A, ca, xs, L⟩ : Nat × Option Addr × Nat × List Value × List (ByteArray × Y)) => [(4, .slice A m ca)]) (fun (⟨m, A, ca, xs, L⟩ : Nat × Option Addr × Nat × List Value × List (ByteArray × Y)) => HA.row A m ca 102 1 xs :: HA.blk b6 (ycells 4 ⟨#[]⟩ ⟨#[]⟩ none 0 0) 150 :: []) (fun (⟨m, A, ca, xs, L⟩ : Nat × Option Addr × Nat × List Value × List (ByteArray × Y)) => .ptrs xs (L.flatMap prY) :: .dblk b cs 124 :: .flds mb cs f :: .gr mb G :: .tab :: ft :: []) ?_ ?_
  · intro Kj19 hKj19
    refine yH rfl (fun h312 => ?_) (fun h312 => ?_)
    · refine xQ 2 12 rfl (by decide) (by decide) hc12 hp12 h312 hU (fun fv x a hpa hfv hgx hkw hr => ?_)
      subst hpa
      have hF := HF _ _ hgx (by rw [hkw]; decide)
      rw [hkw] at hF
      change Fld ft mb G 4 x at hF
      change FvRel _ 4 x fv at hr
      obtain rfl := int_of hr
      refine run_int 0 rfl (fun p hp => ?_)
      cases hp
      have hn := Fld.int (.inl (by have := hF.fit; simp [FitLoc] at this; exact this.1)) hF.pl
      refine zB (zA ?_)
      refine zF rfl rfl (zA ?_)
      refine zF rfl rfl (zA ?_)
      refine zH rfl rfl (zA ?_)
      refine zJ fo124_12 rfl rfl (zA ?_)
      refine zN 3 sc114 rfl rfl rfl hc12 (zA ?_)
      refine zH rfl rfl (zA ?_)
      refine yQ 0 sc2 rfl rfl rfl (zA ?_)
      refine zV rfl rfl rfl (c161 _ hn.1 hn.2) (sub1 6 rfl) (fun u320 D320 hv320 => ?_)
      obtain ⟨b320, rfl, rfl⟩ := hv320
      refine zA ?_
      refine zY 0 rfl rfl rfl (c150 _ _ _ _ _ _ (by decide) (by omega)) rfl sub0 (fun u321 M321 D321 hv321 => ?_)
      obtain ⟨A321, c321, b321, rfl, rfl, rfl⟩ := hv321
      refine zA (zE rfl rfl ?_)
      refine zC (zG [4, 3, 0] ?_)
      change Run _ _ _ _ _ [(4, _), (3, _), (0, _)] _ _
      refine yP (L := L) 4 0 1 rfl rfl rfl ?_
      exact kQ (hKj19 (_, _, _, _, L ++ [(keyOf 12, _)]) ⟨hW.add rfl hkw (by decide) (by decide) hgx (.inr (.inr (.inr (.inr (.inl ⟨rfl, rfl⟩))))), by show _ + 2 ≤ _; omega⟩) (EnvLe.cons rfl (EnvLe.cons rfl (EnvLe.cons rfl (EnvLe.nil _)))) (hD := (subc 0 rfl (by intro d hd; repeat (first | exact hd | apply List.mem_cons_of_mem))))
    refine zL ?_
    exact kQ (hKj19 (_, _, _, _, L) ⟨hW.skip (none_of hp12 h312), by show _ ≤ _; omega⟩) (EnvLe.cons rfl (EnvLe.cons rfl (EnvLe.cons rfl (EnvLe.nil _))))
  intro ⟨m, A, ca, xs, L⟩ hI
  replace hI : WI v f [12, 11, 10, 9, 8, 7, 6, 3, 25, 23, 24, 22, 21, 34, 15, 27, 1, 2, 33] L ∧ m ≤ 38 := hI
  change Run _ _ _ _ _ [(4, .slice A m ca), (3, _), (0, _)] (HA.row A m ca 102 1 xs :: HA.blk b6 (ycells 4 ⟨#[]⟩ ⟨#[]⟩ none 0 0) 150 :: []) (.ptrs xs (L.flatMap prY) :: .dblk b cs 124 :: .flds mb cs f :: .gr mb G :: .tab :: ft :: [])
  obtain ⟨hW, hm⟩ := hI
  refine zD (zD ?_)
  refine zB (zA ?_)
  refine zF rfl rfl (zA ?_)
  refine zH rfl rfl (zA ?_)
  refine zJ fo124_13 rfl rfl (zA ?_)
  refine zN 1 sc111 rfl rfl rfl hc13 (zA ?_)
  refine yE pn111 rfl rfl (zC ?_)
  refine zG [326, 4, 3, 0] ?_
  change Run _ _ _ _ _ [(326, _), (4, _), (3, _), (0, _)] _ _
  refine yU [3, 0] (fun (⟨m, A, ca, xs, L⟩ : Nat × Option Addr × Nat × List Value × List (ByteArray × Y)) => WI v f [13, 12, 11, 10, 9, 8, 7, 6, 3, 25, 23, 24, 22, 21, 34, 15, 27, 1, 2, 33] L ∧ m ≤ 40) (fun (⟨m, A, ca, xs, L⟩ : Nat × Option Addr × Nat × List Value × List (ByteArray × Y)) => [(4, .slice A m ca)]) (fun (⟨m, A, ca, xs, L⟩ : Nat × Option Addr × Nat × List Value × List (ByteArray × Y)) => HA.row A m ca 102 1 xs :: HA.blk b6 (ycells 4 ⟨#[]⟩ ⟨#[]⟩ none 0 0) 150 :: []) (fun (⟨m, A, ca, xs, L⟩ : Nat × Option Addr × Nat × List Value × List (ByteArray × Y)) => .ptrs xs (L.flatMap prY) :: .dblk b cs 124 :: .flds mb cs f :: .gr mb G :: .tab :: ft :: []) ?_ ?_
  · intro Kj20 hKj20
    refine yH rfl (fun h326 => ?_) (fun h326 => ?_)
    · refine xQ 2 13 rfl (by decide) (by decide) hc13 hp13 h326 hU (fun fv x a hpa hfv hgx hkw hr => ?_)
      subst hpa
      have hF := HF _ _ hgx (by rw [hkw]; decide)
      rw [hkw] at hF
      change Fld ft mb G 1 x at hF
      change FvRel _ 1 x fv at hr
      obtain rfl := text_of hr
      refine run_text 0 rfl (fun p hp hs => ?_)
      cases hp
      refine zB (zA ?_)
      refine zF rfl rfl (zA ?_)
      refine zF rfl rfl (zA ?_)
      refine zH rfl rfl (zA ?_)
      refine zJ fo124_13 rfl rfl (zA ?_)
      refine zN 3 sc111 rfl rfl rfl hc13 (zA ?_)
      refine zH rfl rfl (zA ?_)
      refine yQ 0 sc9 rfl rfl rfl (zA ?_)
      refine zV rfl rfl rfl (c151 _ hs) sub0 (fun u334 D334 hv334 => ?_)
      obtain ⟨b334, rfl, rfl⟩ := hv334
      refine zA ?_
      refine zY 0 rfl rfl rfl (c150 _ _ _ _ _ _ (by decide) (by omega)) rfl sub0 (fun u335 M335 D335 hv335 => ?_)
      obtain ⟨A335, c335, b335, rfl, rfl, rfl⟩ := hv335
      refine zA (zE rfl rfl ?_)
      refine zC (zG [4, 3, 0] ?_)
      change Run _ _ _ _ _ [(4, _), (3, _), (0, _)] _ _
      refine yP (L := L) 4 0 1 rfl rfl rfl ?_
      exact kQ (hKj20 (_, _, _, _, L ++ [(keyOf 13, _)]) ⟨hW.add rfl hkw (by decide) (by decide) hgx (.inl ⟨rfl, rfl⟩), by show _ + 2 ≤ _; omega⟩) (EnvLe.cons rfl (EnvLe.cons rfl (EnvLe.cons rfl (EnvLe.nil _)))) (hD := (subc 0 rfl (by intro d hd; repeat (first | exact hd | apply List.mem_cons_of_mem))))
    refine zL ?_
    exact kQ (hKj20 (_, _, _, _, L) ⟨hW.skip (none_of hp13 h326), by show _ ≤ _; omega⟩) (EnvLe.cons rfl (EnvLe.cons rfl (EnvLe.cons rfl (EnvLe.nil _))))
  intro ⟨m, A, ca, xs, L⟩ hI
  replace hI : WI v f [13, 12, 11, 10, 9, 8, 7, 6, 3, 25, 23, 24, 22, 21, 34, 15, 27, 1, 2, 33] L ∧ m ≤ 40 := hI
  change Run _ _ _ _ _ [(4, .slice A m ca), (3, _), (0, _)] (HA.row A m ca 102 1 xs :: HA.blk b6 (ycells 4 ⟨#[]⟩ ⟨#[]⟩ none 0 0) 150 :: []) (.ptrs xs (L.flatMap prY) :: .dblk b cs 124 :: .flds mb cs f :: .gr mb G :: .tab :: ft :: [])
  obtain ⟨hW, hm⟩ := hI
  refine zD (zD ?_)
  refine zB (zA ?_)
  refine zF rfl rfl (zA ?_)
  refine zH rfl rfl (zA ?_)
  refine zJ fo124_14 rfl rfl (zA ?_)
  refine zN 1 sc115 rfl rfl rfl hc14 (zA ?_)
  refine yE pn115 rfl rfl (zC ?_)
  refine zG [340, 4, 3, 0] ?_
  change Run _ _ _ _ _ [(340, _), (4, _), (3, _), (0, _)] _ _
  refine yU [3, 0] (fun (⟨m, A, ca, xs, L⟩ : Nat × Option Addr × Nat × List Value × List (ByteArray × Y)) => WI v f [14, 13, 12, 11, 10, 9, 8, 7, 6, 3, 25, 23, 24, 22, 21, 34, 15, 27, 1, 2, 33] L ∧ m ≤ 42) (fun (⟨m, A, ca, xs, L⟩ : Nat × Option Addr × Nat × List Value × List (ByteArray × Y)) => [(4, .slice A m ca)]) (fun (⟨m, A, ca, xs, L⟩ : Nat × Option Addr × Nat × List Value × List (ByteArray × Y)) => HA.row A m ca 102 1 xs :: HA.blk b6 (ycells 4 ⟨#[]⟩ ⟨#[]⟩ none 0 0) 150 :: []) (fun (⟨m, A, ca, xs, L⟩ : Nat × Option Addr × Nat × List Value × List (ByteArray × Y)) => .ptrs xs (L.flatMap prY) :: .dblk b cs 124 :: .flds mb cs f :: .gr mb G :: .tab :: ft :: []) ?_ ?_
  · intro Kj21 hKj21
    refine yH rfl (fun h340 => ?_) (fun h340 => ?_)
    · refine xQ 2 14 rfl (by decide) (by decide) hc14 hp14 h340 hU (fun fv x a hpa hfv hgx hkw hr => ?_)
      subst hpa
      have hF := HF _ _ hgx (by rw [hkw]; decide)
      rw [hkw] at hF
      change Fld ft mb G 6 x at hF
      change FvRel _ 6 x fv at hr
      refine zB (zA ?_)
      refine zF rfl rfl (zA ?_)
      refine zF rfl rfl (zA ?_)
      refine zH rfl rfl (zA ?_)
      refine zJ fo124_14 rfl rfl (zA ?_)
      refine zN 2 sc115 rfl rfl rfl hc14 (zA ?_)
      refine zV rfl rfl rfl (w6 hF hr) (subc 0 rfl (subc 4 rfl (sub2 5 6 rfl rfl))) (fun u346 D346 hv346 => ?_)
      obtain ⟨z, hz, b346, rfl, rfl⟩ := hv346
      refine zA ?_
      refine zY 0 rfl rfl rfl (c150 _ _ _ _ _ _ (by decide) (by omega)) rfl sub0 (fun u347 M347 D347 hv347 => ?_)
      obtain ⟨A347, c347, b347, rfl, rfl, rfl⟩ := hv347
      refine zA (zE rfl rfl ?_)
      refine zC (yP (L := L) 3 0 1 rfl rfl rfl ?_)
      exact kQ (hKj21 (_, _, _, _, L ++ [(keyOf 14, _)]) ⟨hW.add rfl hkw (by decide) (by decide) hgx hz, by show _ + 2 ≤ _; omega⟩) (EnvLe.cons rfl (EnvLe.cons rfl (EnvLe.cons rfl (EnvLe.nil _)))) (hD := (subc 0 rfl (by intro d hd; repeat (first | exact hd | apply List.mem_cons_of_mem))))
    refine zL ?_
    exact kQ (hKj21 (_, _, _, _, L) ⟨hW.skip (none_of hp14 h340), by show _ ≤ _; omega⟩) (EnvLe.cons rfl (EnvLe.cons rfl (EnvLe.cons rfl (EnvLe.nil _))))
  intro ⟨m, A, ca, xs, L⟩ hI
  replace hI : WI v f [14, 13, 12, 11, 10, 9, 8, 7, 6, 3, 25, 23, 24, 22, 21, 34, 15, 27, 1, 2, 33] L ∧ m ≤ 42 := hI
  change Run _ _ _ _ _ [(4, .slice A m ca), (3, _), (0, _)] (HA.row A m ca 102 1 xs :: HA.blk b6 (ycells 4 ⟨#[]⟩ ⟨#[]⟩ none 0 0) 150 :: []) (.ptrs xs (L.flatMap prY) :: .dblk b cs 124 :: .flds mb cs f :: .gr mb G :: .tab :: ft :: [])
  obtain ⟨hW, hm⟩ := hI
  refine zD (zD ?_)
  refine zB (zA ?_)
  refine zF rfl rfl (zA ?_)
  refine zH rfl rfl (zA ?_)
  refine zJ fo124_16 rfl rfl (zA ?_)
  refine zN 1 sc114 rfl rfl rfl hc16 (zA ?_)
  refine yE pn114 rfl rfl (zC ?_)
  refine zG [352, 4, 3, 0] ?_
  change Run _ _ _ _ _ [(352, _), (4, _), (3, _), (0, _)] _ _
  refine yU [3, 0] (fun (⟨m, A, ca, xs, L⟩ : Nat × Option Addr × Nat × List Value × List (ByteArray × Y)) => WI v f [16, 14, 13, 12, 11, 10, 9, 8, 7, 6, 3, 25, 23, 24, 22, 21, 34, 15, 27, 1, 2, 33] L ∧ m ≤ 44) (fun (⟨m, A, ca, xs, L⟩ : Nat × Option Addr × Nat × List Value × List (ByteArray × Y)) => [(4, .slice A m ca)]) (fun (⟨m, A, ca, xs, L⟩ : Nat × Option Addr × Nat × List Value × List (ByteArray × Y)) => HA.row A m ca 102 1 xs :: HA.blk b6 (ycells 4 ⟨#[]⟩ ⟨#[]⟩ none 0 0) 150 :: []) (fun (⟨m, A, ca, xs, L⟩ : Nat × Option Addr × Nat × List Value × List (ByteArray × Y)) => .ptrs xs (L.flatMap prY) :: .dblk b cs 124 :: .flds mb cs f :: .gr mb G :: .tab :: ft :: []) ?_ ?_
  · intro Kj22 hKj22
    refine yH rfl (fun h352 => ?_) (fun h352 => ?_)
    · refine xQ 2 16 rfl (by decide) (by decide) hc16 hp16 h352 hU (fun fv x a hpa hfv hgx hkw hr => ?_)
      subst hpa
      have hF := HF _ _ hgx (by rw [hkw]; decide)
      rw [hkw] at hF
      change Fld ft mb G 4 x at hF
      change FvRel _ 4 x fv at hr
      obtain rfl := int_of hr
      refine run_int 0 rfl (fun p hp => ?_)
      cases hp
      have hn := Fld.int (.inl (by have := hF.fit; simp [FitLoc] at this; exact this.1)) hF.pl
      refine zB (zA ?_)
      refine zF rfl rfl (zA ?_)
      refine zF rfl rfl (zA ?_)
      refine zH rfl rfl (zA ?_)
      refine zJ fo124_16 rfl rfl (zA ?_)
      refine zN 3 sc114 rfl rfl rfl hc16 (zA ?_)
      refine zH rfl rfl (zA ?_)
      refine yQ 0 sc2 rfl rfl rfl (zA ?_)
      refine zV rfl rfl rfl (c161 _ hn.1 hn.2) (sub1 6 rfl) (fun u360 D360 hv360 => ?_)
      obtain ⟨b360, rfl, rfl⟩ := hv360
      refine zA ?_
      refine zY 0 rfl rfl rfl (c150 _ _ _ _ _ _ (by decide) (by omega)) rfl sub0 (fun u361 M361 D361 hv361 => ?_)
      obtain ⟨A361, c361, b361, rfl, rfl, rfl⟩ := hv361
      refine zA (zE rfl rfl ?_)
      refine zC (zG [4, 3, 0] ?_)
      change Run _ _ _ _ _ [(4, _), (3, _), (0, _)] _ _
      refine yP (L := L) 4 0 1 rfl rfl rfl ?_
      exact kQ (hKj22 (_, _, _, _, L ++ [(keyOf 16, _)]) ⟨hW.add rfl hkw (by decide) (by decide) hgx (.inr (.inr (.inr (.inr (.inl ⟨rfl, rfl⟩))))), by show _ + 2 ≤ _; omega⟩) (EnvLe.cons rfl (EnvLe.cons rfl (EnvLe.cons rfl (EnvLe.nil _)))) (hD := (subc 0 rfl (by intro d hd; repeat (first | exact hd | apply List.mem_cons_of_mem))))
    refine zL ?_
    exact kQ (hKj22 (_, _, _, _, L) ⟨hW.skip (none_of hp16 h352), by show _ ≤ _; omega⟩) (EnvLe.cons rfl (EnvLe.cons rfl (EnvLe.cons rfl (EnvLe.nil _))))
  intro ⟨m, A, ca, xs, L⟩ hI
  replace hI : WI v f [16, 14, 13, 12, 11, 10, 9, 8, 7, 6, 3, 25, 23, 24, 22, 21, 34, 15, 27, 1, 2, 33] L ∧ m ≤ 44 := hI
  change Run _ _ _ _ _ [(4, .slice A m ca), (3, _), (0, _)] (HA.row A m ca 102 1 xs :: HA.blk b6 (ycells 4 ⟨#[]⟩ ⟨#[]⟩ none 0 0) 150 :: []) (.ptrs xs (L.flatMap prY) :: .dblk b cs 124 :: .flds mb cs f :: .gr mb G :: .tab :: ft :: [])
  obtain ⟨hW, hm⟩ := hI
  refine zD (zD ?_)
  refine zB (zA ?_)
  refine zF rfl rfl (zA ?_)
  refine zH rfl rfl (zA ?_)
  refine zJ fo124_17 rfl rfl (zA ?_)
  refine zN 1 sc114 rfl rfl rfl hc17 (zA ?_)
  refine yE pn114 rfl rfl (zC ?_)
  refine zG [366, 4, 3, 0] ?_
  change Run _ _ _ _ _ [(366, _), (4, _), (3, _), (0, _)] _ _
  refine yU [3, 0] (fun (⟨m, A, ca, xs, L⟩ : Nat × Option Addr × Nat × List Value × List (ByteArray × Y)) => WI v f [17, 16, 14, 13, 12, 11, 10, 9, 8, 7, 6, 3, 25, 23, 24, 22, 21, 34, 15, 27, 1, 2, 33] L ∧ m ≤ 46) (fun (⟨m, A, ca, xs, L⟩ : Nat × Option Addr × Nat × List Value × List (ByteArray × Y)) => [(4, .slice A m ca)]) (fun (⟨m, A, ca, xs, L⟩ : Nat × Option Addr × Nat × List Value × List (ByteArray × Y)) => HA.row A m ca 102 1 xs :: HA.blk b6 (ycells 4 ⟨#[]⟩ ⟨#[]⟩ none 0 0) 150 :: []) (fun (⟨m, A, ca, xs, L⟩ : Nat × Option Addr × Nat × List Value × List (ByteArray × Y)) => .ptrs xs (L.flatMap prY) :: .dblk b cs 124 :: .flds mb cs f :: .gr mb G :: .tab :: ft :: []) ?_ ?_
  · intro Kj23 hKj23
    refine yH rfl (fun h366 => ?_) (fun h366 => ?_)
    · refine xQ 2 17 rfl (by decide) (by decide) hc17 hp17 h366 hU (fun fv x a hpa hfv hgx hkw hr => ?_)
      subst hpa
      have hF := HF _ _ hgx (by rw [hkw]; decide)
      rw [hkw] at hF
      change Fld ft mb G 4 x at hF
      change FvRel _ 4 x fv at hr
      obtain rfl := int_of hr
      refine run_int 0 rfl (fun p hp => ?_)
      cases hp
      have hn := Fld.int (.inl (by have := hF.fit; simp [FitLoc] at this; exact this.1)) hF.pl
      refine zB (zA ?_)
      refine zF rfl rfl (zA ?_)
      refine zF rfl rfl (zA ?_)
      refine zH rfl rfl (zA ?_)
      refine zJ fo124_17 rfl rfl (zA ?_)
      refine zN 3 sc114 rfl rfl rfl hc17 (zA ?_)
      refine zH rfl rfl (zA ?_)
      refine yQ 0 sc2 rfl rfl rfl (zA ?_)
      refine zV rfl rfl rfl (c161 _ hn.1 hn.2) (sub1 6 rfl) (fun u374 D374 hv374 => ?_)
      obtain ⟨b374, rfl, rfl⟩ := hv374
      refine zA ?_
      refine zY 0 rfl rfl rfl (c150 _ _ _ _ _ _ (by decide) (by omega)) rfl sub0 (fun u375 M375 D375 hv375 => ?_)
      obtain ⟨A375, c375, b375, rfl, rfl, rfl⟩ := hv375
      refine zA (zE rfl rfl ?_)
      refine zC (zG [4, 3, 0] ?_)
      change Run _ _ _ _ _ [(4, _), (3, _), (0, _)] _ _
      refine yP (L := L) 4 0 1 rfl rfl rfl ?_
      exact kQ (hKj23 (_, _, _, _, L ++ [(keyOf 17, _)]) ⟨hW.add rfl hkw (by decide) (by decide) hgx (.inr (.inr (.inr (.inr (.inl ⟨rfl, rfl⟩))))), by show _ + 2 ≤ _; omega⟩) (EnvLe.cons rfl (EnvLe.cons rfl (EnvLe.cons rfl (EnvLe.nil _)))) (hD := (subc 0 rfl (by intro d hd; repeat (first | exact hd | apply List.mem_cons_of_mem))))
    refine zL ?_
    exact kQ (hKj23 (_, _, _, _, L) ⟨hW.skip (none_of hp17 h366), by show _ ≤ _; omega⟩) (EnvLe.cons rfl (EnvLe.cons rfl (EnvLe.cons rfl (EnvLe.nil _))))
  intro ⟨m, A, ca, xs, L⟩ hI
  replace hI : WI v f [17, 16, 14, 13, 12, 11, 10, 9, 8, 7, 6, 3, 25, 23, 24, 22, 21, 34, 15, 27, 1, 2, 33] L ∧ m ≤ 46 := hI
  change Run _ _ _ _ _ [(4, .slice A m ca), (3, _), (0, _)] (HA.row A m ca 102 1 xs :: HA.blk b6 (ycells 4 ⟨#[]⟩ ⟨#[]⟩ none 0 0) 150 :: []) (.ptrs xs (L.flatMap prY) :: .dblk b cs 124 :: .flds mb cs f :: .gr mb G :: .tab :: ft :: [])
  obtain ⟨hW, hm⟩ := hI
  refine zD (zD ?_)
  refine zB (zA ?_)
  refine zF rfl rfl (zA ?_)
  refine zH rfl rfl (zA ?_)
  refine zJ fo124_18 rfl rfl (zA ?_)
  refine zN 1 sc112 rfl rfl rfl hc18 (zA ?_)
  refine yE pn112 rfl rfl (zC ?_)
  refine zG [380, 4, 3, 0] ?_
  change Run _ _ _ _ _ [(380, _), (4, _), (3, _), (0, _)] _ _
  refine yU [3, 0] (fun (⟨m, A, ca, xs, L⟩ : Nat × Option Addr × Nat × List Value × List (ByteArray × Y)) => WI v f [18, 17, 16, 14, 13, 12, 11, 10, 9, 8, 7, 6, 3, 25, 23, 24, 22, 21, 34, 15, 27, 1, 2, 33] L ∧ m ≤ 48) (fun (⟨m, A, ca, xs, L⟩ : Nat × Option Addr × Nat × List Value × List (ByteArray × Y)) => [(4, .slice A m ca)]) (fun (⟨m, A, ca, xs, L⟩ : Nat × Option Addr × Nat × List Value × List (ByteArray × Y)) => HA.row A m ca 102 1 xs :: HA.blk b6 (ycells 4 ⟨#[]⟩ ⟨#[]⟩ none 0 0) 150 :: []) (fun (⟨m, A, ca, xs, L⟩ : Nat × Option Addr × Nat × List Value × List (ByteArray × Y)) => .ptrs xs (L.flatMap prY) :: .dblk b cs 124 :: .flds mb cs f :: .gr mb G :: .tab :: ft :: []) ?_ ?_
  · intro Kj24 hKj24
    refine yH rfl (fun h380 => ?_) (fun h380 => ?_)
    · refine xQ 2 18 rfl (by decide) (by decide) hc18 hp18 h380 hU (fun fv x a hpa hfv hgx hkw hr => ?_)
      subst hpa
      have hF := HF _ _ hgx (by rw [hkw]; decide)
      rw [hkw] at hF
      change Fld ft mb G 2 x at hF
      change FvRel _ 2 x fv at hr
      obtain rfl := bool_of hr
      refine run_bool 0 rfl (fun p hp => ?_)
      cases hp
      refine zB (zA ?_)
      refine zF rfl rfl (zA ?_)
      refine zF rfl rfl (zA ?_)
      refine zH rfl rfl (zA ?_)
      refine zJ fo124_18 rfl rfl (zA ?_)
      refine zN 3 sc112 rfl rfl rfl hc18 (zA ?_)
      refine zH rfl rfl (zA ?_)
      refine yQ 0 sc4 rfl rfl rfl (zA ?_)
      refine zV rfl rfl rfl (c153 _) sub0 (fun u388 D388 hv388 => ?_)
      obtain ⟨b388, rfl, rfl⟩ := hv388
      refine zA ?_
      refine zY 0 rfl rfl rfl (c150 _ _ _ _ _ _ (by decide) (by omega)) rfl sub0 (fun u389 M389 D389 hv389 => ?_)
      obtain ⟨A389, c389, b389, rfl, rfl, rfl⟩ := hv389
      refine zA (zE rfl rfl ?_)
      refine zC (zG [4, 3, 0] ?_)
      change Run _ _ _ _ _ [(4, _), (3, _), (0, _)] _ _
      refine yP (L := L) 4 0 1 rfl rfl rfl ?_
      exact kQ (hKj24 (_, _, _, _, L ++ [(keyOf 18, _)]) ⟨hW.add rfl hkw (by decide) (by decide) hgx (.inr (.inl ⟨rfl, rfl⟩)), by show _ + 2 ≤ _; omega⟩) (EnvLe.cons rfl (EnvLe.cons rfl (EnvLe.cons rfl (EnvLe.nil _)))) (hD := (subc 0 rfl (by intro d hd; repeat (first | exact hd | apply List.mem_cons_of_mem))))
    refine zL ?_
    exact kQ (hKj24 (_, _, _, _, L) ⟨hW.skip (none_of hp18 h380), by show _ ≤ _; omega⟩) (EnvLe.cons rfl (EnvLe.cons rfl (EnvLe.cons rfl (EnvLe.nil _))))
  intro ⟨m, A, ca, xs, L⟩ hI
  replace hI : WI v f [18, 17, 16, 14, 13, 12, 11, 10, 9, 8, 7, 6, 3, 25, 23, 24, 22, 21, 34, 15, 27, 1, 2, 33] L ∧ m ≤ 48 := hI
  change Run _ _ _ _ _ [(4, .slice A m ca), (3, _), (0, _)] (HA.row A m ca 102 1 xs :: HA.blk b6 (ycells 4 ⟨#[]⟩ ⟨#[]⟩ none 0 0) 150 :: []) (.ptrs xs (L.flatMap prY) :: .dblk b cs 124 :: .flds mb cs f :: .gr mb G :: .tab :: ft :: [])
  obtain ⟨hW, hm⟩ := hI
  refine zD (zD ?_)
  refine zB (zA ?_)
  refine zF rfl rfl (zA ?_)
  refine zH rfl rfl (zA ?_)
  refine zJ fo124_19 rfl rfl (zA ?_)
  refine zN 1 sc114 rfl rfl rfl hc19 (zA ?_)
  refine yE pn114 rfl rfl (zC ?_)
  refine zG [394, 4, 3, 0] ?_
  change Run _ _ _ _ _ [(394, _), (4, _), (3, _), (0, _)] _ _
  refine yU [3, 0] (fun (⟨m, A, ca, xs, L⟩ : Nat × Option Addr × Nat × List Value × List (ByteArray × Y)) => WI v f [19, 18, 17, 16, 14, 13, 12, 11, 10, 9, 8, 7, 6, 3, 25, 23, 24, 22, 21, 34, 15, 27, 1, 2, 33] L ∧ m ≤ 50) (fun (⟨m, A, ca, xs, L⟩ : Nat × Option Addr × Nat × List Value × List (ByteArray × Y)) => [(4, .slice A m ca)]) (fun (⟨m, A, ca, xs, L⟩ : Nat × Option Addr × Nat × List Value × List (ByteArray × Y)) => HA.row A m ca 102 1 xs :: HA.blk b6 (ycells 4 ⟨#[]⟩ ⟨#[]⟩ none 0 0) 150 :: []) (fun (⟨m, A, ca, xs, L⟩ : Nat × Option Addr × Nat × List Value × List (ByteArray × Y)) => .ptrs xs (L.flatMap prY) :: .dblk b cs 124 :: .flds mb cs f :: .gr mb G :: .tab :: ft :: []) ?_ ?_
  · intro Kj25 hKj25
    refine yH rfl (fun h394 => ?_) (fun h394 => ?_)
    · refine xQ 2 19 rfl (by decide) (by decide) hc19 hp19 h394 hU (fun fv x a hpa hfv hgx hkw hr => ?_)
      subst hpa
      have hF := HF _ _ hgx (by rw [hkw]; decide)
      rw [hkw] at hF
      change Fld ft mb G 4 x at hF
      change FvRel _ 4 x fv at hr
      obtain rfl := int_of hr
      refine run_int 0 rfl (fun p hp => ?_)
      cases hp
      have hn := Fld.int (.inl (by have := hF.fit; simp [FitLoc] at this; exact this.1)) hF.pl
      refine zB (zA ?_)
      refine zF rfl rfl (zA ?_)
      refine zF rfl rfl (zA ?_)
      refine zH rfl rfl (zA ?_)
      refine zJ fo124_19 rfl rfl (zA ?_)
      refine zN 3 sc114 rfl rfl rfl hc19 (zA ?_)
      refine zH rfl rfl (zA ?_)
      refine yQ 0 sc2 rfl rfl rfl (zA ?_)
      refine zV rfl rfl rfl (c161 _ hn.1 hn.2) (sub1 6 rfl) (fun u402 D402 hv402 => ?_)
      obtain ⟨b402, rfl, rfl⟩ := hv402
      refine zA ?_
      refine zY 0 rfl rfl rfl (c150 _ _ _ _ _ _ (by decide) (by omega)) rfl sub0 (fun u403 M403 D403 hv403 => ?_)
      obtain ⟨A403, c403, b403, rfl, rfl, rfl⟩ := hv403
      refine zA (zE rfl rfl ?_)
      refine zC (zG [4, 3, 0] ?_)
      change Run _ _ _ _ _ [(4, _), (3, _), (0, _)] _ _
      refine yP (L := L) 4 0 1 rfl rfl rfl ?_
      exact kQ (hKj25 (_, _, _, _, L ++ [(keyOf 19, _)]) ⟨hW.add rfl hkw (by decide) (by decide) hgx (.inr (.inr (.inr (.inr (.inl ⟨rfl, rfl⟩))))), by show _ + 2 ≤ _; omega⟩) (EnvLe.cons rfl (EnvLe.cons rfl (EnvLe.cons rfl (EnvLe.nil _)))) (hD := (subc 0 rfl (by intro d hd; repeat (first | exact hd | apply List.mem_cons_of_mem))))
    refine zL ?_
    exact kQ (hKj25 (_, _, _, _, L) ⟨hW.skip (none_of hp19 h394), by show _ ≤ _; omega⟩) (EnvLe.cons rfl (EnvLe.cons rfl (EnvLe.cons rfl (EnvLe.nil _))))
  intro ⟨m, A, ca, xs, L⟩ hI
  replace hI : WI v f [19, 18, 17, 16, 14, 13, 12, 11, 10, 9, 8, 7, 6, 3, 25, 23, 24, 22, 21, 34, 15, 27, 1, 2, 33] L ∧ m ≤ 50 := hI
  change Run _ _ _ _ _ [(4, .slice A m ca), (3, _), (0, _)] (HA.row A m ca 102 1 xs :: HA.blk b6 (ycells 4 ⟨#[]⟩ ⟨#[]⟩ none 0 0) 150 :: []) (.ptrs xs (L.flatMap prY) :: .dblk b cs 124 :: .flds mb cs f :: .gr mb G :: .tab :: ft :: [])
  obtain ⟨hW, hm⟩ := hI
  refine zD (zD ?_)
  refine zB (zA ?_)
  refine zF rfl rfl (zA ?_)
  refine zH rfl rfl (zA ?_)
  refine zJ fo124_20 rfl rfl (zA ?_)
  refine zN 1 sc114 rfl rfl rfl hc20 (zA ?_)
  refine yE pn114 rfl rfl (zC ?_)
  refine zG [408, 4, 3, 0] ?_
  change Run _ _ _ _ _ [(408, _), (4, _), (3, _), (0, _)] _ _
  refine yU [3, 0] (fun (⟨m, A, ca, xs, L⟩ : Nat × Option Addr × Nat × List Value × List (ByteArray × Y)) => WI v f [20, 19, 18, 17, 16, 14, 13, 12, 11, 10, 9, 8, 7, 6, 3, 25, 23, 24, 22, 21, 34, 15, 27, 1, 2, 33] L ∧ m ≤ 52) (fun (⟨m, A, ca, xs, L⟩ : Nat × Option Addr × Nat × List Value × List (ByteArray × Y)) => [(4, .slice A m ca)]) (fun (⟨m, A, ca, xs, L⟩ : Nat × Option Addr × Nat × List Value × List (ByteArray × Y)) => HA.row A m ca 102 1 xs :: HA.blk b6 (ycells 4 ⟨#[]⟩ ⟨#[]⟩ none 0 0) 150 :: []) (fun (⟨m, A, ca, xs, L⟩ : Nat × Option Addr × Nat × List Value × List (ByteArray × Y)) => .ptrs xs (L.flatMap prY) :: .dblk b cs 124 :: .flds mb cs f :: .gr mb G :: .tab :: ft :: []) ?_ ?_
  · intro Kj26 hKj26
    refine yH rfl (fun h408 => ?_) (fun h408 => ?_)
    · refine xQ 2 20 rfl (by decide) (by decide) hc20 hp20 h408 hU (fun fv x a hpa hfv hgx hkw hr => ?_)
      subst hpa
      have hF := HF _ _ hgx (by rw [hkw]; decide)
      rw [hkw] at hF
      change Fld ft mb G 4 x at hF
      change FvRel _ 4 x fv at hr
      obtain rfl := int_of hr
      refine run_int 0 rfl (fun p hp => ?_)
      cases hp
      have hn := Fld.int (.inl (by have := hF.fit; simp [FitLoc] at this; exact this.1)) hF.pl
      refine zB (zA ?_)
      refine zF rfl rfl (zA ?_)
      refine zF rfl rfl (zA ?_)
      refine zH rfl rfl (zA ?_)
      refine zJ fo124_20 rfl rfl (zA ?_)
      refine zN 3 sc114 rfl rfl rfl hc20 (zA ?_)
      refine zH rfl rfl (zA ?_)
      refine yQ 0 sc2 rfl rfl rfl (zA ?_)
      refine zV rfl rfl rfl (c161 _ hn.1 hn.2) (sub1 6 rfl) (fun u416 D416 hv416 => ?_)
      obtain ⟨b416, rfl, rfl⟩ := hv416
      refine zA ?_
      refine zY 0 rfl rfl rfl (c150 _ _ _ _ _ _ (by decide) (by omega)) rfl sub0 (fun u417 M417 D417 hv417 => ?_)
      obtain ⟨A417, c417, b417, rfl, rfl, rfl⟩ := hv417
      refine zA (zE rfl rfl ?_)
      refine zC (zG [4, 3, 0] ?_)
      change Run _ _ _ _ _ [(4, _), (3, _), (0, _)] _ _
      refine yP (L := L) 4 0 1 rfl rfl rfl ?_
      exact kQ (hKj26 (_, _, _, _, L ++ [(keyOf 20, _)]) ⟨hW.add rfl hkw (by decide) (by decide) hgx (.inr (.inr (.inr (.inr (.inl ⟨rfl, rfl⟩))))), by show _ + 2 ≤ _; omega⟩) (EnvLe.cons rfl (EnvLe.cons rfl (EnvLe.cons rfl (EnvLe.nil _)))) (hD := (subc 0 rfl (by intro d hd; repeat (first | exact hd | apply List.mem_cons_of_mem))))
    refine zL ?_
    exact kQ (hKj26 (_, _, _, _, L) ⟨hW.skip (none_of hp20 h408), by show _ ≤ _; omega⟩) (EnvLe.cons rfl (EnvLe.cons rfl (EnvLe.cons rfl (EnvLe.nil _))))
  intro ⟨m, A, ca, xs, L⟩ hI
  replace hI : WI v f [20, 19, 18, 17, 16, 14, 13, 12, 11, 10, 9, 8, 7, 6, 3, 25, 23, 24, 22, 21, 34, 15, 27, 1, 2, 33] L ∧ m ≤ 52 := hI
  change Run _ _ _ _ _ [(4, .slice A m ca), (3, _), (0, _)] (HA.row A m ca 102 1 xs :: HA.blk b6 (ycells 4 ⟨#[]⟩ ⟨#[]⟩ none 0 0) 150 :: []) (.ptrs xs (L.flatMap prY) :: .dblk b cs 124 :: .flds mb cs f :: .gr mb G :: .tab :: ft :: [])
  obtain ⟨hW, hm⟩ := hI
  refine zD (zD ?_)
  refine zB (zA ?_)
  refine zF rfl rfl (zA ?_)
  refine zH rfl rfl (zA ?_)
  refine zJ fo124_26 rfl rfl (zA ?_)
  refine zN 1 sc120 rfl rfl rfl hc26 (zA ?_)
  refine yE pn120 rfl rfl (zC ?_)
  refine zG [422, 4, 3, 0] ?_
  change Run _ _ _ _ _ [(422, _), (4, _), (3, _), (0, _)] _ _
  refine yU [3, 0] (fun (⟨m, A, ca, xs, L⟩ : Nat × Option Addr × Nat × List Value × List (ByteArray × Y)) => WI v f [26, 20, 19, 18, 17, 16, 14, 13, 12, 11, 10, 9, 8, 7, 6, 3, 25, 23, 24, 22, 21, 34, 15, 27, 1, 2, 33] L ∧ m ≤ 54) (fun (⟨m, A, ca, xs, L⟩ : Nat × Option Addr × Nat × List Value × List (ByteArray × Y)) => [(4, .slice A m ca)]) (fun (⟨m, A, ca, xs, L⟩ : Nat × Option Addr × Nat × List Value × List (ByteArray × Y)) => HA.row A m ca 102 1 xs :: HA.blk b6 (ycells 4 ⟨#[]⟩ ⟨#[]⟩ none 0 0) 150 :: []) (fun (⟨m, A, ca, xs, L⟩ : Nat × Option Addr × Nat × List Value × List (ByteArray × Y)) => .ptrs xs (L.flatMap prY) :: .dblk b cs 124 :: .flds mb cs f :: .gr mb G :: .tab :: ft :: []) ?_ ?_
  · intro Kj27 hKj27
    refine yH rfl (fun h422 => ?_) (fun h422 => ?_)
    · refine xQ 2 26 rfl (by decide) (by decide) hc26 hp26 h422 hU (fun fv x a hpa hfv hgx hkw hr => ?_)
      subst hpa
      have hF := HF _ _ hgx (by rw [hkw]; decide)
      rw [hkw] at hF
      change Fld ft mb G 11 x at hF
      change FvRel _ 11 x fv at hr
      refine zB (zA ?_)
      refine zF rfl rfl (zA ?_)
      refine zF rfl rfl (zA ?_)
      refine zH rfl rfl (zA ?_)
      refine zJ fo124_26 rfl rfl (zA ?_)
      refine zN 2 sc120 rfl rfl rfl hc26 (zA ?_)
      refine zV rfl rfl rfl (w11 hF hr) (subc 0 rfl (subc 4 rfl (sub2 5 6 rfl rfl))) (fun u428 D428 hv428 => ?_)
      obtain ⟨z, hz, b428, rfl, rfl⟩ := hv428
      refine zA ?_
      refine zY 0 rfl rfl rfl (c150 _ _ _ _ _ _ (by decide) (by omega)) rfl sub0 (fun u429 M429 D429 hv429 => ?_)
      obtain ⟨A429, c429, b429, rfl, rfl, rfl⟩ := hv429
      refine zA (zE rfl rfl ?_)
      refine zC (yP (L := L) 3 0 1 rfl rfl rfl ?_)
      exact kQ (hKj27 (_, _, _, _, L ++ [(keyOf 26, _)]) ⟨hW.add rfl hkw (by decide) (by decide) hgx hz, by show _ + 2 ≤ _; omega⟩) (EnvLe.cons rfl (EnvLe.cons rfl (EnvLe.cons rfl (EnvLe.nil _)))) (hD := (subc 0 rfl (by intro d hd; repeat (first | exact hd | apply List.mem_cons_of_mem))))
    refine zL ?_
    exact kQ (hKj27 (_, _, _, _, L) ⟨hW.skip (none_of hp26 h422), by show _ ≤ _; omega⟩) (EnvLe.cons rfl (EnvLe.cons rfl (EnvLe.cons rfl (EnvLe.nil _))))
  intro ⟨m, A, ca, xs, L⟩ hI
  replace hI : WI v f [26, 20, 19, 18, 17, 16, 14, 13, 12, 11, 10, 9, 8, 7, 6, 3, 25, 23, 24, 22, 21, 34, 15, 27, 1, 2, 33] L ∧ m ≤ 54 := hI
  change Run _ _ _ _ _ [(4, .slice A m ca), (3, _), (0, _)] (HA.row A m ca 102 1 xs :: HA.blk b6 (ycells 4 ⟨#[]⟩ ⟨#[]⟩ none 0 0) 150 :: []) (.ptrs xs (L.flatMap prY) :: .dblk b cs 124 :: .flds mb cs f :: .gr mb G :: .tab :: ft :: [])
  obtain ⟨hW, hm⟩ := hI
  refine zD (zD ?_)
  refine zB (zA ?_)
  refine zF rfl rfl (zA ?_)
  refine zH rfl rfl (zA ?_)
  refine zJ fo124_28 rfl rfl (zA ?_)
  refine zN 1 sc122 rfl rfl rfl hc28 (zA ?_)
  refine yE pn122 rfl rfl (zC ?_)
  refine zG [434, 4, 3, 0] ?_
  change Run _ _ _ _ _ [(434, _), (4, _), (3, _), (0, _)] _ _
  refine yU [3, 0] (fun (⟨m, A, ca, xs, L⟩ : Nat × Option Addr × Nat × List Value × List (ByteArray × Y)) => WI v f [28, 26, 20, 19, 18, 17, 16, 14, 13, 12, 11, 10, 9, 8, 7, 6, 3, 25, 23, 24, 22, 21, 34, 15, 27, 1, 2, 33] L ∧ m ≤ 56) (fun (⟨m, A, ca, xs, L⟩ : Nat × Option Addr × Nat × List Value × List (ByteArray × Y)) => [(4, .slice A m ca)]) (fun (⟨m, A, ca, xs, L⟩ : Nat × Option Addr × Nat × List Value × List (ByteArray × Y)) => HA.row A m ca 102 1 xs :: HA.blk b6 (ycells 4 ⟨#[]⟩ ⟨#[]⟩ none 0 0) 150 :: []) (fun (⟨m, A, ca, xs, L⟩ : Nat × Option Addr × Nat × List Value × List (ByteArray × Y)) => .ptrs xs (L.flatMap prY) :: .dblk b cs 124 :: .flds mb cs f :: .gr mb G :: .tab :: ft :: []) ?_ ?_
  · intro Kj28 hKj28
    refine yH rfl (fun h434 => ?_) (fun h434 => ?_)
    · refine xQ 2 28 rfl (by decide) (by decide) hc28 hp28 h434 hU (fun fv x a hpa hfv hgx hkw hr => ?_)
      subst hpa
      have hF := HF _ _ hgx (by rw [hkw]; decide)
      rw [hkw] at hF
      change Fld ft mb G 13 x at hF
      change FvRel _ 13 x fv at hr
      obtain ⟨bs, rfl, hbs⟩ := list_of hr
      refine run_list 0 rfl (fun p sl hp => ?_)
      cases hp
      refine zB (zA ?_)
      refine zF rfl rfl (zA ?_)
      refine zF rfl rfl (zA ?_)
      refine zH rfl rfl (zA ?_)
      refine zJ fo124_28 rfl rfl (zA ?_)
      refine zN 4 sc122 rfl rfl rfl hc28 (zA ?_)
      refine zH rfl rfl (zA ?_)
      refine yQ 0 sc137 rfl rfl rfl (zA ?_)
      refine zV rfl rfl rfl (w13 hF hbs) (subc 1 rfl (subc 6 rfl (sub2 7 8 rfl rfl))) (fun u442 D442 hv442 => ?_)
      obtain ⟨z, hz, b442, rfl, rfl⟩ := hv442
      refine zA ?_
      refine zY 0 rfl rfl rfl (c150 _ _ _ _ _ _ (by decide) (by omega)) rfl sub0 (fun u443 M443 D443 hv443 => ?_)
      obtain ⟨A443, c443, b443, rfl, rfl, rfl⟩ := hv443
      refine zA (zE rfl rfl ?_)
      refine zC (zG [4, 3, 0] ?_)
      change Run _ _ _ _ _ [(4, _), (3, _), (0, _)] _ _
      refine yP (L := L) 5 0 1 rfl rfl rfl ?_
      exact kQ (hKj28 (_, _, _, _, L ++ [(keyOf 28, _)]) ⟨hW.add rfl hkw (by decide) (by decide) hgx hz, by show _ + 2 ≤ _; omega⟩) (EnvLe.cons rfl (EnvLe.cons rfl (EnvLe.cons rfl (EnvLe.nil _)))) (hD := (subc 0 rfl (by intro d hd; repeat (first | exact hd | apply List.mem_cons_of_mem))))
    refine zL ?_
    exact kQ (hKj28 (_, _, _, _, L) ⟨hW.skip (none_of hp28 h434), by show _ ≤ _; omega⟩) (EnvLe.cons rfl (EnvLe.cons rfl (EnvLe.cons rfl (EnvLe.nil _))))
  intro ⟨m, A, ca, xs, L⟩ hI
  replace hI : WI v f [28, 26, 20, 19, 18, 17, 16, 14, 13, 12, 11, 10, 9, 8, 7, 6, 3, 25, 23, 24, 22, 21, 34, 15, 27, 1, 2, 33] L ∧ m ≤ 56 := hI
  change Run _ _ _ _ _ [(4, .slice A m ca), (3, _), (0, _)] (HA.row A m ca 102 1 xs :: HA.blk b6 (ycells 4 ⟨#[]⟩ ⟨#[]⟩ none 0 0) 150 :: []) (.ptrs xs (L.flatMap prY) :: .dblk b cs 124 :: .flds mb cs f :: .gr mb G :: .tab :: ft :: [])
  obtain ⟨hW, hm⟩ := hI
  refine zD (zD ?_)
  refine zB (zA ?_)
  refine zF rfl rfl (zA ?_)
  refine zH rfl rfl (zA ?_)
  refine zJ fo124_29 rfl rfl (zA ?_)
  refine zN 1 sc122 rfl rfl rfl hc29 (zA ?_)
  refine yE pn122 rfl rfl (zC ?_)
  refine zG [448, 4, 3, 0] ?_
  change Run _ _ _ _ _ [(448, _), (4, _), (3, _), (0, _)] _ _
  refine yU [3, 0] (fun (⟨m, A, ca, xs, L⟩ : Nat × Option Addr × Nat × List Value × List (ByteArray × Y)) => WI v f [29, 28, 26, 20, 19, 18, 17, 16, 14, 13, 12, 11, 10, 9, 8, 7, 6, 3, 25, 23, 24, 22, 21, 34, 15, 27, 1, 2, 33] L ∧ m ≤ 58) (fun (⟨m, A, ca, xs, L⟩ : Nat × Option Addr × Nat × List Value × List (ByteArray × Y)) => [(4, .slice A m ca)]) (fun (⟨m, A, ca, xs, L⟩ : Nat × Option Addr × Nat × List Value × List (ByteArray × Y)) => HA.row A m ca 102 1 xs :: HA.blk b6 (ycells 4 ⟨#[]⟩ ⟨#[]⟩ none 0 0) 150 :: []) (fun (⟨m, A, ca, xs, L⟩ : Nat × Option Addr × Nat × List Value × List (ByteArray × Y)) => .ptrs xs (L.flatMap prY) :: .dblk b cs 124 :: .flds mb cs f :: .gr mb G :: .tab :: ft :: []) ?_ ?_
  · intro Kj29 hKj29
    refine yH rfl (fun h448 => ?_) (fun h448 => ?_)
    · refine xQ 2 29 rfl (by decide) (by decide) hc29 hp29 h448 hU (fun fv x a hpa hfv hgx hkw hr => ?_)
      subst hpa
      have hF := HF _ _ hgx (by rw [hkw]; decide)
      rw [hkw] at hF
      change Fld ft mb G 13 x at hF
      change FvRel _ 13 x fv at hr
      obtain ⟨bs, rfl, hbs⟩ := list_of hr
      refine run_list 0 rfl (fun p sl hp => ?_)
      cases hp
      refine zB (zA ?_)
      refine zF rfl rfl (zA ?_)
      refine zF rfl rfl (zA ?_)
      refine zH rfl rfl (zA ?_)
      refine zJ fo124_29 rfl rfl (zA ?_)
      refine zN 4 sc122 rfl rfl rfl hc29 (zA ?_)
      refine zH rfl rfl (zA ?_)
      refine yQ 0 sc137 rfl rfl rfl (zA ?_)
      refine zV rfl rfl rfl (w13 hF hbs) (subc 1 rfl (subc 6 rfl (sub2 7 8 rfl rfl))) (fun u456 D456 hv456 => ?_)
      obtain ⟨z, hz, b456, rfl, rfl⟩ := hv456
      refine zA ?_
      refine zY 0 rfl rfl rfl (c150 _ _ _ _ _ _ (by decide) (by omega)) rfl sub0 (fun u457 M457 D457 hv457 => ?_)
      obtain ⟨A457, c457, b457, rfl, rfl, rfl⟩ := hv457
      refine zA (zE rfl rfl ?_)
      refine zC (zG [4, 3, 0] ?_)
      change Run _ _ _ _ _ [(4, _), (3, _), (0, _)] _ _
      refine yP (L := L) 5 0 1 rfl rfl rfl ?_
      exact kQ (hKj29 (_, _, _, _, L ++ [(keyOf 29, _)]) ⟨hW.add rfl hkw (by decide) (by decide) hgx hz, by show _ + 2 ≤ _; omega⟩) (EnvLe.cons rfl (EnvLe.cons rfl (EnvLe.cons rfl (EnvLe.nil _)))) (hD := (subc 0 rfl (by intro d hd; repeat (first | exact hd | apply List.mem_cons_of_mem))))
    refine zL ?_
    exact kQ (hKj29 (_, _, _, _, L) ⟨hW.skip (none_of hp29 h448), by show _ ≤ _; omega⟩) (EnvLe.cons rfl (EnvLe.cons rfl (EnvLe.cons rfl (EnvLe.nil _))))
  intro ⟨m, A, ca, xs, L⟩ hI
  replace hI : WI v f [29, 28, 26, 20, 19, 18, 17, 16, 14, 13, 12, 11, 10, 9, 8, 7, 6, 3, 25, 23, 24, 22, 21, 34, 15, 27, 1, 2, 33] L ∧ m ≤ 58 := hI
  change Run _ _ _ _ _ [(4, .slice A m ca), (3, _), (0, _)] (HA.row A m ca 102 1 xs :: HA.blk b6 (ycells 4 ⟨#[]⟩ ⟨#[]⟩ none 0 0) 150 :: []) (.ptrs xs (L.flatMap prY) :: .dblk b cs 124 :: .flds mb cs f :: .gr mb G :: .tab :: ft :: [])
  obtain ⟨hW, hm⟩ := hI
  refine zD (zD ?_)
  refine zB (zA ?_)
  refine zF rfl rfl (zA ?_)
  refine zH rfl rfl (zA ?_)
  refine zJ fo124_30 rfl rfl (zA ?_)
  refine zN 1 sc122 rfl rfl rfl hc30 (zA ?_)
  refine yE pn122 rfl rfl (zC ?_)
  refine zG [462, 4, 3, 0] ?_
  change Run _ _ _ _ _ [(462, _), (4, _), (3, _), (0, _)] _ _
  refine yU [3, 0] (fun (⟨m, A, ca, xs, L⟩ : Nat × Option Addr × Nat × List Value × List (ByteArray × Y)) => WI v f [30, 29, 28, 26, 20, 19, 18, 17, 16, 14, 13, 12, 11, 10, 9, 8, 7, 6, 3, 25, 23, 24, 22, 21, 34, 15, 27, 1, 2, 33] L ∧ m ≤ 60) (fun (⟨m, A, ca, xs, L⟩ : Nat × Option Addr × Nat × List Value × List (ByteArray × Y)) => [(4, .slice A m ca)]) (fun (⟨m, A, ca, xs, L⟩ : Nat × Option Addr × Nat × List Value × List (ByteArray × Y)) => HA.row A m ca 102 1 xs :: HA.blk b6 (ycells 4 ⟨#[]⟩ ⟨#[]⟩ none 0 0) 150 :: []) (fun (⟨m, A, ca, xs, L⟩ : Nat × Option Addr × Nat × List Value × List (ByteArray × Y)) => .ptrs xs (L.flatMap prY) :: .dblk b cs 124 :: .flds mb cs f :: .gr mb G :: .tab :: ft :: []) ?_ ?_
  · intro Kj30 hKj30
    refine yH rfl (fun h462 => ?_) (fun h462 => ?_)
    · refine xQ 2 30 rfl (by decide) (by decide) hc30 hp30 h462 hU (fun fv x a hpa hfv hgx hkw hr => ?_)
      subst hpa
      have hF := HF _ _ hgx (by rw [hkw]; decide)
      rw [hkw] at hF
      change Fld ft mb G 13 x at hF
      change FvRel _ 13 x fv at hr
      obtain ⟨bs, rfl, hbs⟩ := list_of hr
      refine run_list 0 rfl (fun p sl hp => ?_)
      cases hp
      refine zB (zA ?_)
      refine zF rfl rfl (zA ?_)
      refine zF rfl rfl (zA ?_)
      refine zH rfl rfl (zA ?_)
      refine zJ fo124_30 rfl rfl (zA ?_)
      refine zN 4 sc122 rfl rfl rfl hc30 (zA ?_)
      refine zH rfl rfl (zA ?_)
      refine yQ 0 sc137 rfl rfl rfl (zA ?_)
      refine zV rfl rfl rfl (w13 hF hbs) (subc 1 rfl (subc 6 rfl (sub2 7 8 rfl rfl))) (fun u470 D470 hv470 => ?_)
      obtain ⟨z, hz, b470, rfl, rfl⟩ := hv470
      refine zA ?_
      refine zY 0 rfl rfl rfl (c150 _ _ _ _ _ _ (by decide) (by omega)) rfl sub0 (fun u471 M471 D471 hv471 => ?_)
      obtain ⟨A471, c471, b471, rfl, rfl, rfl⟩ := hv471
      refine zA (zE rfl rfl ?_)
      refine zC (zG [4, 3, 0] ?_)
      change Run _ _ _ _ _ [(4, _), (3, _), (0, _)] _ _
      refine yP (L := L) 5 0 1 rfl rfl rfl ?_
      exact kQ (hKj30 (_, _, _, _, L ++ [(keyOf 30, _)]) ⟨hW.add rfl hkw (by decide) (by decide) hgx hz, by show _ + 2 ≤ _; omega⟩) (EnvLe.cons rfl (EnvLe.cons rfl (EnvLe.cons rfl (EnvLe.nil _)))) (hD := (subc 0 rfl (by intro d hd; repeat (first | exact hd | apply List.mem_cons_of_mem))))
    refine zL ?_
    exact kQ (hKj30 (_, _, _, _, L) ⟨hW.skip (none_of hp30 h462), by show _ ≤ _; omega⟩) (EnvLe.cons rfl (EnvLe.cons rfl (EnvLe.cons rfl (EnvLe.nil _))))
  intro ⟨m, A, ca, xs, L⟩ hI
  replace hI : WI v f [30, 29, 28, 26, 20, 19, 18, 17, 16, 14, 13, 12, 11, 10, 9, 8, 7, 6, 3, 25, 23, 24, 22, 21, 34, 15, 27, 1, 2, 33] L ∧ m ≤ 60 := hI
  change Run _ _ _ _ _ [(4, .slice A m ca), (3, _), (0, _)] (HA.row A m ca 102 1 xs :: HA.blk b6 (ycells 4 ⟨#[]⟩ ⟨#[]⟩ none 0 0) 150 :: []) (.ptrs xs (L.flatMap prY) :: .dblk b cs 124 :: .flds mb cs f :: .gr mb G :: .tab :: ft :: [])
  obtain ⟨hW, hm⟩ := hI
  refine zD (zD ?_)
  refine zB (zA ?_)
  refine zF rfl rfl (zA ?_)
  refine zH rfl rfl (zA ?_)
  refine zJ fo124_31 rfl rfl (zA ?_)
  refine zN 1 sc63 rfl rfl rfl hc31 (zA ?_)
  refine yE pn63 rfl rfl (zC ?_)
  refine zG [476, 4, 3, 0] ?_
  change Run _ _ _ _ _ [(476, _), (4, _), (3, _), (0, _)] _ _
  refine yU [3, 0] (fun (⟨m, A, ca, xs, L⟩ : Nat × Option Addr × Nat × List Value × List (ByteArray × Y)) => WI v f [31, 30, 29, 28, 26, 20, 19, 18, 17, 16, 14, 13, 12, 11, 10, 9, 8, 7, 6, 3, 25, 23, 24, 22, 21, 34, 15, 27, 1, 2, 33] L ∧ m ≤ 62) (fun (⟨m, A, ca, xs, L⟩ : Nat × Option Addr × Nat × List Value × List (ByteArray × Y)) => [(4, .slice A m ca)]) (fun (⟨m, A, ca, xs, L⟩ : Nat × Option Addr × Nat × List Value × List (ByteArray × Y)) => HA.row A m ca 102 1 xs :: HA.blk b6 (ycells 4 ⟨#[]⟩ ⟨#[]⟩ none 0 0) 150 :: []) (fun (⟨m, A, ca, xs, L⟩ : Nat × Option Addr × Nat × List Value × List (ByteArray × Y)) => .ptrs xs (L.flatMap prY) :: .dblk b cs 124 :: .flds mb cs f :: .gr mb G :: .tab :: ft :: []) ?_ ?_
  · intro Kj31 hKj31
    refine yH rfl (fun h476 => ?_) (fun h476 => ?_)
    · refine xQ 2 31 rfl (by decide) (by decide) hc31 hp31 h476 hU (fun fv x a hpa hfv hgx hkw hr => ?_)
      subst hpa
      have hF := HF _ _ hgx (by rw [hkw]; decide)
      rw [hkw] at hF
      change Fld ft mb G 5 x at hF
      change FvRel _ 5 x fv at hr
      obtain ⟨q1, rfl, hbs⟩ := one_of hr
      refine run_open (p := (.pointer (some a) : Value) = ptr q1) (fun w ok h => (dget h 0 rfl : FvP w ok (.one q1) _)) (fun hq1 => ?_)
      cases hq1
      refine zB (zA ?_)
      refine zF rfl rfl (zA ?_)
      refine zF rfl rfl (zA ?_)
      refine zH rfl rfl (zA ?_)
      refine zJ fo124_31 rfl rfl (zA ?_)
      refine zN 2 sc63 rfl rfl rfl hc31 (zA ?_)
      refine zV rfl rfl rfl (w5 hF hbs) (subc 4 rfl (sub2 5 6 rfl rfl)) (fun u482 D482 hv482 => ?_)
      obtain ⟨z, hz, b482, rfl, rfl⟩ := hv482
      refine zA ?_
      refine zY 0 rfl rfl rfl (c150 _ _ _ _ _ _ (by decide) (by omega)) rfl sub0 (fun u483 M483 D483 hv483 => ?_)
      obtain ⟨A483, c483, b483, rfl, rfl, rfl⟩ := hv483
      refine zA (zE rfl rfl ?_)
      refine zC (yP (L := L) 3 0 1 rfl rfl rfl ?_)
      exact kQ (hKj31 (_, _, _, _, L ++ [(keyOf 31, _)]) ⟨hW.add rfl hkw (by decide) (by decide) hgx hz, by show _ + 2 ≤ _; omega⟩) (EnvLe.cons rfl (EnvLe.cons rfl (EnvLe.cons rfl (EnvLe.nil _)))) (hD := (subc 0 rfl (by intro d hd; repeat (first | exact hd | apply List.mem_cons_of_mem))))
    refine zL ?_
    exact kQ (hKj31 (_, _, _, _, L) ⟨hW.skip (none_of hp31 h476), by show _ ≤ _; omega⟩) (EnvLe.cons rfl (EnvLe.cons rfl (EnvLe.cons rfl (EnvLe.nil _))))
  intro ⟨m, A, ca, xs, L⟩ hI
  replace hI : WI v f [31, 30, 29, 28, 26, 20, 19, 18, 17, 16, 14, 13, 12, 11, 10, 9, 8, 7, 6, 3, 25, 23, 24, 22, 21, 34, 15, 27, 1, 2, 33] L ∧ m ≤ 62 := hI
  change Run _ _ _ _ _ [(4, .slice A m ca), (3, _), (0, _)] (HA.row A m ca 102 1 xs :: HA.blk b6 (ycells 4 ⟨#[]⟩ ⟨#[]⟩ none 0 0) 150 :: []) (.ptrs xs (L.flatMap prY) :: .dblk b cs 124 :: .flds mb cs f :: .gr mb G :: .tab :: ft :: [])
  obtain ⟨hW, hm⟩ := hI
  refine zD (zD ?_)
  refine zB (zA ?_)
  refine zF rfl rfl (zA ?_)
  refine zH rfl rfl (zA ?_)
  refine zJ fo124_32 rfl rfl (zA ?_)
  refine zN 1 sc118 rfl rfl rfl hc32 (zA ?_)
  refine yE pn118 rfl rfl (zC ?_)
  refine zG [488, 4, 3, 0] ?_
  change Run _ _ _ _ _ [(488, _), (4, _), (3, _), (0, _)] _ _
  refine yU [3, 0] (fun (⟨m, A, ca, xs, L⟩ : Nat × Option Addr × Nat × List Value × List (ByteArray × Y)) => WI v f [32, 31, 30, 29, 28, 26, 20, 19, 18, 17, 16, 14, 13, 12, 11, 10, 9, 8, 7, 6, 3, 25, 23, 24, 22, 21, 34, 15, 27, 1, 2, 33] L ∧ m ≤ 64) (fun (⟨m, A, ca, xs, L⟩ : Nat × Option Addr × Nat × List Value × List (ByteArray × Y)) => [(4, .slice A m ca)]) (fun (⟨m, A, ca, xs, L⟩ : Nat × Option Addr × Nat × List Value × List (ByteArray × Y)) => HA.row A m ca 102 1 xs :: HA.blk b6 (ycells 4 ⟨#[]⟩ ⟨#[]⟩ none 0 0) 150 :: []) (fun (⟨m, A, ca, xs, L⟩ : Nat × Option Addr × Nat × List Value × List (ByteArray × Y)) => .ptrs xs (L.flatMap prY) :: .dblk b cs 124 :: .flds mb cs f :: .gr mb G :: .tab :: ft :: []) ?_ ?_
  · intro Kj32 hKj32
    refine yH rfl (fun h488 => ?_) (fun h488 => ?_)
    · refine xQ 2 32 rfl (by decide) (by decide) hc32 hp32 h488 hU (fun fv x a hpa hfv hgx hkw hr => ?_)
      subst hpa
      have hF := HF _ _ hgx (by rw [hkw]; decide)
      rw [hkw] at hF
      change Fld ft mb G 9 x at hF
      change FvRel _ 9 x fv at hr
      refine zB (zA ?_)
      refine zF rfl rfl (zA ?_)
      refine zF rfl rfl (zA ?_)
      refine zH rfl rfl (zA ?_)
      refine zJ fo124_32 rfl rfl (zA ?_)
      refine zN 2 sc118 rfl rfl rfl hc32 (zA ?_)
      refine zV rfl rfl rfl (w9 hF hr) (subc 0 rfl (subc 4 rfl (sub2 5 6 rfl rfl))) (fun u494 D494 hv494 => ?_)
      obtain ⟨z, hz, b494, rfl, rfl⟩ := hv494
      refine zA ?_
      refine zY 0 rfl rfl rfl (c150 _ _ _ _ _ _ (by decide) (by omega)) rfl sub0 (fun u495 M495 D495 hv495 => ?_)
      obtain ⟨A495, c495, b495, rfl, rfl, rfl⟩ := hv495
      refine zA (zE rfl rfl ?_)
      refine zC (yP (L := L) 3 0 1 rfl rfl rfl ?_)
      exact kQ (hKj32 (_, _, _, _, L ++ [(keyOf 32, _)]) ⟨hW.add rfl hkw (by decide) (by decide) hgx hz, by show _ + 2 ≤ _; omega⟩) (EnvLe.cons rfl (EnvLe.cons rfl (EnvLe.cons rfl (EnvLe.nil _)))) (hD := (subc 0 rfl (by intro d hd; repeat (first | exact hd | apply List.mem_cons_of_mem))))
    refine zL ?_
    exact kQ (hKj32 (_, _, _, _, L) ⟨hW.skip (none_of hp32 h488), by show _ ≤ _; omega⟩) (EnvLe.cons rfl (EnvLe.cons rfl (EnvLe.cons rfl (EnvLe.nil _))))
  intro ⟨m, A, ca, xs, L⟩ hI
  replace hI : WI v f [32, 31, 30, 29, 28, 26, 20, 19, 18, 17, 16, 14, 13, 12, 11, 10, 9, 8, 7, 6, 3, 25, 23, 24, 22, 21, 34, 15, 27, 1, 2, 33] L ∧ m ≤ 64 := hI
  change Run _ _ _ _ _ [(4, .slice A m ca), (3, _), (0, _)] (HA.row A m ca 102 1 xs :: HA.blk b6 (ycells 4 ⟨#[]⟩ ⟨#[]⟩ none 0 0) 150 :: []) (.ptrs xs (L.flatMap prY) :: .dblk b cs 124 :: .flds mb cs f :: .gr mb G :: .tab :: ft :: [])
  obtain ⟨hW, hm⟩ := hI
  refine zD (zD ?_)
  refine zB (zA ?_)
  refine zF rfl rfl (zA ?_)
  refine zH rfl rfl (zA ?_)
  refine zJ fo124_35 rfl rfl (zA ?_)
  refine zN 1 sc102 rfl rfl rfl hc35 (zA ?_)
  refine yE pn102 rfl rfl (zC ?_)
  refine zG [500, 4, 3, 0] ?_
  change Run _ _ _ _ _ [(500, _), (4, _), (3, _), (0, _)] _ _
  refine yU [3, 0] (fun (⟨m, A, ca, xs, L⟩ : Nat × Option Addr × Nat × List Value × List (ByteArray × Y)) => WI v f [32, 31, 30, 29, 28, 26, 20, 19, 18, 17, 16, 14, 13, 12, 11, 10, 9, 8, 7, 6, 3, 25, 23, 24, 22, 21, 34, 15, 27, 1, 2, 33] L ∧ m ≤ 64) (fun (⟨m, A, ca, xs, L⟩ : Nat × Option Addr × Nat × List Value × List (ByteArray × Y)) => [(4, .slice A m ca)]) (fun (⟨m, A, ca, xs, L⟩ : Nat × Option Addr × Nat × List Value × List (ByteArray × Y)) => HA.row A m ca 102 1 xs :: HA.blk b6 (ycells 4 ⟨#[]⟩ ⟨#[]⟩ none 0 0) 150 :: []) (fun (⟨m, A, ca, xs, L⟩ : Nat × Option Addr × Nat × List Value × List (ByteArray × Y)) => .ptrs xs (L.flatMap prY) :: .dblk b cs 124 :: .flds mb cs f :: .gr mb G :: .tab :: ft :: []) ?_ ?_
  · intro Kj33 hKj33
    refine yH rfl (fun h500 => ?_) (fun h500 => ?_)
    · refine zL ?_
      exact kQ (hKj33 (_, _, _, _, L) ⟨hW, hm⟩) (EnvLe.cons rfl (EnvLe.cons rfl (EnvLe.cons rfl (EnvLe.nil _))))
    refine zL ?_
    exact kQ (hKj33 (_, _, _, _, L) ⟨hW, hm⟩) (EnvLe.cons rfl (EnvLe.cons rfl (EnvLe.cons rfl (EnvLe.nil _))))
  intro ⟨m, A, ca, xs, L⟩ hI
  replace hI : WI v f [32, 31, 30, 29, 28, 26, 20, 19, 18, 17, 16, 14, 13, 12, 11, 10, 9, 8, 7, 6, 3, 25, 23, 24, 22, 21, 34, 15, 27, 1, 2, 33] L ∧ m ≤ 64 := hI
  change Run _ _ _ _ _ [(4, .slice A m ca), (3, _), (0, _)] (HA.row A m ca 102 1 xs :: HA.blk b6 (ycells 4 ⟨#[]⟩ ⟨#[]⟩ none 0 0) 150 :: []) (.ptrs xs (L.flatMap prY) :: .dblk b cs 124 :: .flds mb cs f :: .gr mb G :: .tab :: ft :: [])
  obtain ⟨hW, hm⟩ := hI
  refine zD (zD ?_)
  refine zB (zA ?_)
  refine zF rfl rfl (zA ?_)
  refine zH rfl rfl (zA ?_)
  refine zJ fo124_36 rfl rfl (zA ?_)
  refine zN 1 sc111 rfl rfl rfl hc36 (zA ?_)
  refine yE pn111 rfl rfl (zC ?_)
  refine zG [505, 4, 3, 0] ?_
  change Run _ _ _ _ _ [(505, _), (4, _), (3, _), (0, _)] _ _
  refine yU [3] (fun (⟨m, A, ca, xs, L⟩ : Nat × Option Addr × Nat × List Value × List (ByteArray × Y)) => WI v f [36, 32, 31, 30, 29, 28, 26, 20, 19, 18, 17, 16, 14, 13, 12, 11, 10, 9, 8, 7, 6, 3, 25, 23, 24, 22, 21, 34, 15, 27, 1, 2, 33] L ∧ m ≤ 66) (fun (⟨m, A, ca, xs, L⟩ : Nat × Option Addr × Nat × List Value × List (ByteArray × Y)) => [(4, .slice A m ca)]) (fun (⟨m, A, ca, xs, L⟩ : Nat × Option Addr × Nat × List Value × List (ByteArray × Y)) => HA.row A m ca 102 1 xs :: HA.blk b6 (ycells 4 ⟨#[]⟩ ⟨#[]⟩ none 0 0) 150 :: []) (fun (⟨m, A, ca, xs, L⟩ : Nat × Option Addr × Nat × List Value × List (ByteArray × Y)) => .ptrs xs (L.flatMap prY) :: .dblk b cs 124 :: .flds mb cs f :: .gr mb G :: .tab :: ft :: []) ?_ ?_
  · intro Kj34 hKj34
    refine yH rfl (fun h505 => ?_) (fun h505 => ?_)
    · refine xQ 2 36 rfl (by decide) (by decide) hc36 hp36 h505 hU (fun fv x a hpa hfv hgx hkw hr => ?_)
      subst hpa
      have hF := HF _ _ hgx (by rw [hkw]; decide)
      rw [hkw] at hF
      change Fld ft mb G 1 x at hF
      change FvRel _ 1 x fv at hr
      obtain rfl := text_of hr
      refine run_text 0 rfl (fun p hp hs => ?_)
      cases hp
      refine zB (zA ?_)
      refine zF rfl rfl (zA ?_)
      refine zF rfl rfl (zA ?_)
      refine zH rfl rfl (zA ?_)
      refine zJ fo124_36 rfl rfl (zA ?_)
      refine zN 3 sc111 rfl rfl rfl hc36 (zA ?_)
      refine zH rfl rfl (zA ?_)
      refine yQ 0 sc9 rfl rfl rfl (zA ?_)
      refine zV rfl rfl rfl (c151 _ hs) sub0 (fun u513 D513 hv513 => ?_)
      obtain ⟨b513, rfl, rfl⟩ := hv513
      refine zA ?_
      refine zY 0 rfl rfl rfl (c150 _ _ _ _ _ _ (by decide) (by omega)) rfl sub0 (fun u514 M514 D514 hv514 => ?_)
      obtain ⟨A514, c514, b514, rfl, rfl, rfl⟩ := hv514
      refine zA (zE rfl rfl ?_)
      refine zC (zG [4, 3] ?_)
      change Run _ _ _ _ _ [(4, _), (3, _)] _ _
      refine yP (L := L) 4 0 1 rfl rfl rfl ?_
      exact kQ (hKj34 (_, _, _, _, L ++ [(keyOf 36, _)]) ⟨hW.add rfl hkw (by decide) (by decide) hgx (.inl ⟨rfl, rfl⟩), by show _ + 2 ≤ _; omega⟩) (EnvLe.cons rfl (EnvLe.cons rfl (EnvLe.nil _))) (hD := (subc 0 rfl (by intro d hd; repeat (first | exact hd | apply List.mem_cons_of_mem))))
    refine zL ?_
    exact kQ (hKj34 (_, _, _, _, L) ⟨hW.skip (none_of hp36 h505), by show _ ≤ _; omega⟩) (EnvLe.cons rfl (EnvLe.cons rfl (EnvLe.nil _)))
  intro ⟨m, A, ca, xs, L⟩ hI
  replace hI : WI v f [36, 32, 31, 30, 29, 28, 26, 20, 19, 18, 17, 16, 14, 13, 12, 11, 10, 9, 8, 7, 6, 3, 25, 23, 24, 22, 21, 34, 15, 27, 1, 2, 33] L ∧ m ≤ 66 := hI
  change Run _ _ _ _ _ [(4, .slice A m ca), (3, _)] (HA.row A m ca 102 1 xs :: HA.blk b6 (ycells 4 ⟨#[]⟩ ⟨#[]⟩ none 0 0) 150 :: []) (.ptrs xs (L.flatMap prY) :: .dblk b cs 124 :: .flds mb cs f :: .gr mb G :: .tab :: ft :: [])
  obtain ⟨hW, hm⟩ := hI
  refine zD (zB ?_)
  refine zA (zF rfl rfl ?_)
  refine zA (zF rfl rfl ?_)
  refine zA (zH rfl rfl ?_)
  refine zA (zJ fo150_6 rfl rfl ?_)
  refine zA (zU 1 (M' := [_, HA.blk _ [_, _, _, _, _, _, _, _, _, _, _, _] _]) rfl rfl rfl rfl si148 rfl rfl rfl ?_)
  refine zC (zD ?_)
  refine zB (zA ?_)
  refine zF rfl rfl (zA ?_)
  refine zE rfl rfl (zC ?_)
  refine run_frKids 0 0 _ rfl rfl (by intro b h; cases h) (run_mknode 0 0 rfl rfl (by intro b h; cases h) (by decide) (by decide) ?_)
  exact zK Tryz.results105 rfl ⟨rfl, _, hW.out hU, b6, rfl, rfl⟩ (List.nil_sublist _) (sub1 0 rfl)
end Go.Jw

namespace Go.Jw
open Go Go.RowKit Go.Proofs
theorem getV_idx {v x : V} {key : ByteArray} (h : getV v key = some x) : ∃ j : Nat, v.keys[j]? = some key ∧ v.items[j]? = some x := by
  unfold getV at h
  rcases findI_lt v.keys key with hn | ⟨j, hj, hlt⟩
  · rw [if_pos hn] at h; cases h
  · rw [hj, if_neg (by omega)] at h
    simp only [Int.toNat_natCast] at h
    refine ⟨j, ?_, h⟩
    unfold findI at hj
    split at hj
    · rename_i hlt3
      have h4 := List.findIdx_getElem (w := hlt3)
      have h5 : v.keys.findIdx (fun x => decide (x = key)) = j := by omega
      simp only [h5] at h4
      rw [List.getElem?_eq_getElem hlt]
      simpa using h4
    · omega
theorem kids_mem {sh : Int} {x z : V} (h : z ∈ kidsOf sh x) : z = x ∨ z ∈ x.items := by
  unfold kidsOf at h
  split at h
  · simp at h; exact .inl h
  split at h
  · split at h <;> simp at h
    exact .inl h
  split at h
  · split at h
    · simp at h; exact .inl h
    · exact .inr (List.mem_filter.1 h).1
  split at h
  · exact .inr (List.mem_filter.1 h).1
  · simp at h
theorem c105 (ft : DA) (mb : Nat) (G : Gr) (v : V) : (NumW ft ∨ NoNum v) → Pl v → IsShape v → C105 ft mb G v := by
  refine V.indS (p := fun v => (NumW ft ∨ NoNum v) → Pl v → IsShape v → C105 ft mb G v) (fun v IH hN hp hs => ?_) v
  have hfit := ((isShape_iff v).1 hs).2
  refine c105w ft mb G v (fun key x hx h0 => ?_) (fun x hx => ?_)
  · obtain ⟨j, hj1, hj2⟩ := getV_idx hx
    have hsh := kw_sh h0
    obtain ⟨hf, hk, _⟩ := hfit j _ _ hj1 hj2
    have hpl := hp.item _ (List.mem_of_getElem? hj2)
    have hnn : NumW ft ∨ (shapeOf key ≠ 3 ∧ ∀ z ∈ kidsOf (shapeOf key) x, NoNum z) := hN.imp id fun h => ⟨((noNum_iff v).1 h j _ _ hj1 hj2).1, ((noNum_iff v).1 h j _ _ hj1 hj2).2.2⟩
    rw [hsh] at hf hk hnn
    refine ⟨hpl, hf, fun z hz => ?_, fun h3 h6 => ?_⟩
    · refine IH z (Nat.lt_of_le_of_lt (kids_size hz) (size_get hj2)) (hnn.imp id fun h => h.2 z hz) ?_ (hk z hz)
      rcases kids_mem hz with rfl | h
      · exact hpl
      · exact hpl.item _ h
    · rcases hnn with h | h
      · have := hpl.num.num (.inr h6)
        exact h x.num this.1 this.2 (hpl.frac h6)
      · exact absurd h3 h.1
  · obtain ⟨j, hj1, hj2⟩ := getV_idx hx
    exact (hfit j _ _ hj1 hj2).2.2 rfl
end Go.Jw

namespace Go.Jw
open Go Go.RowKit Go.Proofs
def rl (s : ByteArray) : List UInt8 := s.data.toList
theorem rl_toList (s : ByteArray) : s.toList = rl s := ByteArray.toList_eq s
theorem rl_inj {a b : ByteArray} (h : rl a = rl b) : a = b := by
  cases a; cases b
  simp only [rl] at h
  rw [Array.toList_inj.1 h]
theorem rl_app (a b : ByteArray) : rl (a ++ b) = rl a ++ rl b := by simp [rl]
def srtP {α : Type} (l : List (ByteArray × α)) : List (ByteArray × α) := l.mergeSort (fun a b => decide (rl a.1 ≤ rl b.1))
theorem srtP_perm {α : Type} (l : List (ByteArray × α)) : (srtP l).Perm l := List.mergeSort_perm _ _
theorem srtP_sorted {α : Type} (l : List (ByteArray × α)) : (srtP l).Pairwise (fun a b => rl a.1 ≤ rl b.1) := by
  have := List.pairwise_mergeSort (le := fun (a b : ByteArray × α) => decide (rl a.1 ≤ rl b.1)) (fun a b c h1 h2 => decide_eq_true (List.le_trans (of_decide_eq_true h1) (of_decide_eq_true h2))) (fun a b => by
    rcases List.le_total (rl a.1) (rl b.1) with h | h <;> simp [h]) l
  exact this.imp fun h => of_decide_eq_true h
theorem fst_inj {α : Type} {l : List (ByteArray × α)} (hn : (l.map Prod.fst).Nodup) {a b : ByteArray × α} (ha : a ∈ l) (hb : b ∈ l) (h : a.1 = b.1) : a = b := by
  induction l with
  | nil => cases ha
  | cons x l ih =>
    rw [List.map_cons, List.nodup_cons] at hn
    rcases List.mem_cons.1 ha with h1 | h1 <;> rcases List.mem_cons.1 hb with h2 | h2
    · rw [h1, h2]
    · exact absurd (List.mem_map.2 ⟨b, h2, by rw [← h, h1]⟩) hn.1
    · exact absurd (List.mem_map.2 ⟨a, h1, by rw [h, h2]⟩) hn.1
    · exact ih hn.2 h1 h2
theorem srtP_eq {α : Type} {l l' : List (ByteArray × α)} (hp : l'.Perm l) (hs : l'.Pairwise (fun a b => rl a.1 ≤ rl b.1)) (hn : (l.map Prod.fst).Nodup) : srtP l = l' :=
  List.Perm.eq_of_pairwise (le := fun (a b : ByteArray × α) => rl a.1 ≤ rl b.1) (fun a b ha hb h1 h2 => fst_inj hn ((srtP_perm l).mem_iff.1 ha) (hp.mem_iff.1 hb) (rl_inj (List.le_antisymm h1 h2))) (srtP_sorted l) hs ((srtP_perm l).trans hp.symm)
theorem keysOk_lt {ks : List ByteArray} (h : KeysOk ks) : ks.Pairwise (fun a b => rl a < rl b) := by
  have step : ∀ j (hj : j + 1 < ks.length), rl ks[j] < rl ks[j + 1] := by
    intro j hj
    have hs := (h (j + 1) hj).2 (by omega)
    have h4 : ¬ (rl ks[j + 1] < rl ks[j]) := by
      have := hs.1
      rw [less_lt, rl_toList, rl_toList] at this
      simpa using this
    refine Classical.byContradiction fun hc => hs.2 (rl_inj (List.le_antisymm (List.not_lt.1 hc) (List.not_lt.1 h4)))
  rw [List.pairwise_iff_getElem]
  intro i j hi hj hij
  induction j with
  | zero => omega
  | succ j ih =>
    rcases Nat.lt_or_eq_of_le (Nat.le_of_lt_succ hij) with h6 | h6
    · exact List.lt_trans (ih (by omega) h6) (step j hj)
    · subst h6; exact step i hj
theorem lt_nodup {ks : List ByteArray} (h : ks.Pairwise (fun a b => rl a < rl b)) : ks.Nodup := h.imp fun hlt he => by subst he; exact List.lt_irrefl _ hlt
theorem zip_pw {α : Type} {ks : List ByteArray} {ts : List α} (h : ks.Pairwise (fun a b => rl a < rl b)) : (ks.zip ts).Pairwise (fun a b => rl a.1 < rl b.1) := by
  induction ks generalizing ts with
  | nil => simp
  | cons k ks ih =>
    cases ts with
    | nil => simp
    | cons t ts =>
      rw [List.pairwise_cons] at h
      rw [List.zip_cons_cons, List.pairwise_cons]
      exact ⟨fun p hp => h.1 _ (List.of_mem_zip hp).1, ih h.2⟩
theorem pw_fst {α : Type} {l : List (ByteArray × α)} (h : l.Pairwise (fun a b => rl a.1 < rl b.1)) : (l.map Prod.fst).Nodup := by
  rw [List.nodup_iff_pairwise_ne, List.pairwise_map]
  exact h.imp fun hlt he => by rw [he] at hlt; exact List.lt_irrefl _ hlt
theorem pw_le {α : Type} {l : List (ByteArray × α)} (h : l.Pairwise (fun a b => rl a.1 < rl b.1)) : l.Pairwise (fun a b => rl a.1 ≤ rl b.1) := h.imp fun hlt => List.le_of_lt hlt
/-- A value with the keys of its maps in order. -/
noncomputable def srtV : V → V := V.fix (α := V) (fun t f => if t.kind = 5 then .mk 5 t.num t.text ((srtP (t.keys.zip (t.items.map f))).map Prod.fst) ((srtP (t.keys.zip (t.items.map f))).map Prod.snd) else .mk t.kind t.num t.text t.keys (t.items.map f))
theorem srtV_eq (t : V) : srtV t = if t.kind = 5 then .mk 5 t.num t.text ((srtP (t.keys.zip (t.items.map srtV))).map Prod.fst) ((srtP (t.keys.zip (t.items.map srtV))).map Prod.snd) else .mk t.kind t.num t.text t.keys (t.items.map srtV) :=
  V.fix_eq (α := V) (G := fun t f => if t.kind = 5 then .mk 5 t.num t.text ((srtP (t.keys.zip (t.items.map f))).map Prod.fst) ((srtP (t.keys.zip (t.items.map f))).map Prod.snd) else .mk t.kind t.num t.text t.keys (t.items.map f)) (fun t g g' h => by
    have : t.items.map g = t.items.map g' := List.map_congr_left fun x hx => h x (size_item hx)
    simp only [this]) t
theorem srtV_map {n : Int} {s : ByteArray} {ks : List ByteArray} {ts : List V} {l : List (ByteArray × V)} (h : srtP (ks.zip (ts.map srtV)) = l) : srtV (.mk 5 n s ks ts) = .mk 5 n s (l.map Prod.fst) (l.map Prod.snd) := by
  rw [srtV_eq]
  simp only [V.kind, V.num, V.text, V.keys, V.items, if_true, h]
theorem srtV_no {q n : Int} {s : ByteArray} {ks : List ByteArray} {ts : List V} (h : q ≠ 5) : srtV (.mk q n s ks ts) = .mk q n s ks (ts.map srtV) := by
  rw [srtV_eq]
  simp only [V.kind, V.num, V.text, V.keys, V.items]
  exact if_neg h
/-- The writer's node of a value. -/
noncomputable def outY : V → Y := V.fix (α := Y) (fun t f => if t.kind = 1 then scal tBool (fbB (decide (t.num = 1))) else if t.kind = 2 then scal tInt (itoaB t.num) else if t.kind = 6 then scal tFloat (quartF t.num) else if t.kind = 3 then scal tStr t.text
    else if t.kind = 4 then RKids 2 (t.items.map f) else if t.kind = 5 then RKids 4 ((t.keys.zip (t.items.map f)).flatMap prY) else scal tNull sNull)
theorem outY_eq (t : V) : outY t = if t.kind = 1 then scal tBool (fbB (decide (t.num = 1))) else if t.kind = 2 then scal tInt (itoaB t.num) else if t.kind = 6 then scal tFloat (quartF t.num) else if t.kind = 3 then scal tStr t.text
    else if t.kind = 4 then RKids 2 (t.items.map outY) else if t.kind = 5 then RKids 4 ((t.keys.zip (t.items.map outY)).flatMap prY) else scal tNull sNull :=
  V.fix_eq (G := fun t f => if t.kind = 1 then scal tBool (fbB (decide (t.num = 1))) else if t.kind = 2 then scal tInt (itoaB t.num) else if t.kind = 6 then scal tFloat (quartF t.num) else if t.kind = 3 then scal tStr t.text
    else if t.kind = 4 then RKids 2 (t.items.map f) else if t.kind = 5 then RKids 4 ((t.keys.zip (t.items.map f)).flatMap prY) else scal tNull sNull) (fun t g g' h => by
    have : t.items.map g = t.items.map g' := List.map_congr_left fun x hx => h x (size_item hx)
    simp only [this]) t
def isWr (key : ByteArray) : Bool := isKw key && !isQuiet key
/-- A schema with the keywords that are written, alone. -/
noncomputable def wr : V → V := V.fix (α := V) (fun t g => filterV 5 0 ⟨#[]⟩ isWr (fun k v => turnV (shapeOf k) g v) t)
theorem wr_eq (t : V) : wr t = filterV 5 0 ⟨#[]⟩ isWr (fun k v => turnV (shapeOf k) wr v) t :=
  V.fix_eq (G := fun t g => filterV 5 0 ⟨#[]⟩ isWr (fun k v => turnV (shapeOf k) g v) t) (fun t g g' h => filterV_congr fun k v hv => turnV_congr fun x hx => h x (Nat.lt_of_le_of_lt hx (size_item hv))) t
theorem wr_kind (t : V) : (wr t).kind = 5 := by rw [wr_eq]; rfl
theorem normal_kind (t : V) : (normalV t).kind = 5 := by rw [normalV_eq]; rfl
theorem filter_filterV {k m k' m' : Int} {s s' : ByteArray} {q q' : ByteArray → Bool} {f f' : ByteArray → V → V} {t : V} : filterV k m s q f (filterV k' m' s' q' f' t) = filterV k m s (fun x => q' x && q x) (fun x v => f x (f' x v)) t := by
  obtain ⟨tk, tn, ts, ks, its⟩ := t
  unfold filterV
  simp only [V.keys, V.items]
  have hz : (((ks.zip its).filter (fun p => q' p.1)).map (·.1)).zip (((ks.zip its).filter (fun p => q' p.1)).map (fun p => f' p.1 p.2)) = ((ks.zip its).filter (fun p => q' p.1)).map (fun p => (p.1, f' p.1 p.2)) := by
    rw [List.zip_map, ]
    generalize (ks.zip its).filter (fun p => q' p.1) = l
    induction l with
    | nil => rfl
    | cons a l ih => simp [ih]
  rw [hz]
  have hf : (((ks.zip its).filter (fun p => q' p.1)).map (fun p => (p.1, f' p.1 p.2))).filter (fun p => q p.1) = ((ks.zip its).filter (fun p => q' p.1 && q p.1)).map (fun p => (p.1, f' p.1 p.2)) := by
    rw [List.filter_map, List.filter_filter]
    congr 1
    apply List.filter_congr
    intro p hp
    simp [Function.comp, Bool.and_comm]
  rw [hf, List.map_map, List.map_map]
  rfl
theorem turn_turn {sh : Int} {b g : V → V} {x : V} (hk : ∀ y, (g y).kind = 5) : turnV sh b (turnV sh g x) = turnV sh (fun y => if y.kind = 5 then b (g y) else if sh = 5 then b (g y) else b y) x := by
  have hm : ∀ y, mapKids b (mapKids g y) = mapKids (fun y => if y.kind = 5 then b (g y) else if sh = 5 then b (g y) else b y) y := by
    intro y
    by_cases h : y.kind = 5
    · rw [mapKids_pos h, mapKids_pos (hk y), mapKids_pos h, if_pos h]
    · rw [mapKids_neg h, mapKids_neg h, mapKids_neg h]
  have ha : turnAll b (turnAll g x) = turnAll (fun y => if y.kind = 5 then b (g y) else if sh = 5 then b (g y) else b y) x := by
    unfold turnAll
    simp only [V.kind, V.keys, V.items, List.map_map]
    congr 1
    exact List.map_congr_left fun y _ => hm y
  unfold turnV
  by_cases h5 : sh = 5
  · simp [h5]
  by_cases h6 : sh = 6
  · by_cases hx : x.kind = 5 <;> simp [h6, hx, hk]
  by_cases h7 : sh = 7
  · by_cases hx : x.kind = 5
    · simp [h7, hx, hk]
    · have hkk : ¬ (turnAll g x).kind = 5 := hx
      subst h7
      simp only [hx, if_false, if_neg hkk, show ¬ ((7 : Int) = 5) from by decide, show ¬ ((7 : Int) = 6) from by decide, if_true] at ha ⊢
      exact ha
  by_cases h9 : sh = 9 ∨ sh = 13
  · simp only [if_neg h5, if_neg h6, if_neg h7, if_pos h9] at ha ⊢
    exact ha
  · simp only [if_neg h5, if_neg h6, if_neg h7, if_neg h9]
/-- What is written has the keywords, but for the quiet ones. -/
theorem bare_wr (v : V) : bareV (wr v) = bareV (normalV v) := by
  refine V.indS (p := fun v => bareV (wr v) = bareV (normalV v)) (fun v IH => ?_) v
  rw [wr_eq, normalV_eq, bareV_eq, bareV_eq, filter_filterV, filter_filterV]
  have h1 : ∀ x ∈ v.items, ∀ k, turnV (shapeOf k) bareV (turnV (shapeOf k) wr x) = turnV (shapeOf k) bareV (turnV (shapeOf k) normalV x) := by
    intro x hx k
    rw [turn_turn wr_kind, turn_turn normal_kind]
    refine turnV_congr fun y hy => ?_
    have hlt := Nat.lt_of_le_of_lt hy (size_item hx)
    rw [IH y hlt]
  have h2 : (fun x => isWr x && !isQuiet x) = (fun x => isKw x && !isQuiet x) := by
    funext x
    unfold isWr
    cases isKw x <;> cases isQuiet x <;> rfl
  rw [h2]
  exact filterV_congr fun k x hx => h1 x hx k
end Go.Jw

namespace Go.Jw
open Go Go.RowKit Go.Proofs
theorem scal_of {x : V} (hp : Pl x) (h4 : x.kind ≠ 4) (h5 : x.kind ≠ 5) : IsScal x.kind x.num x.text x.keys x.items := by
  obtain ⟨d, h⟩ := hp
  obtain ⟨q, m, s, ks, ts⟩ := x
  exact (plain_scal h4 h5).1 h
theorem head_of {x : V} (hp : Pl x) (h : x.kind = 4 ∨ x.kind = 5) : IsHead x.kind x.num x.text x.keys x.items := by
  obtain ⟨d, hd⟩ := hp
  obtain ⟨q, m, s, ks, ts⟩ := x
  cases d with
  | zero => exact absurd hd (plain_head0 h)
  | succ d => exact ((plain_head h).1 hd).1
theorem leaf_text {x : V} (hp : Pl x) (h : x.kind = 3) : x = .mk 3 0 x.text [] [] := by
  have := scal_of hp (by omega) (by omega)
  obtain ⟨q, m, s, ks, ts⟩ := x
  simp only [V.kind] at h
  subst h
  simp [IsScal, V.kind, V.num, V.text, V.keys, V.items] at this
  obtain ⟨h1, h2, h3, _⟩ := this
  subst h1; subst h2; subst h3; rfl
theorem leaf_bool {x : V} (hp : Pl x) (h : x.kind = 1) : x = .mk 1 x.num ⟨#[]⟩ [] [] ∧ (x.num = 0 ∨ x.num = 1) := by
  have := scal_of hp (by omega) (by omega)
  obtain ⟨q, m, s, ks, ts⟩ := x
  simp only [V.kind] at h
  subst h
  simp [IsScal, V.kind, V.num, V.text, V.keys, V.items] at this
  obtain ⟨h1, h2, h3, h4⟩ := this
  subst h1; subst h2; subst h4; exact ⟨rfl, h3⟩
theorem leaf_int {x : V} (hp : Pl x) (h : x.kind = 2) : x = .mk 2 x.num ⟨#[]⟩ [] [] := by
  have := scal_of hp (by omega) (by omega)
  obtain ⟨q, m, s, ks, ts⟩ := x
  simp only [V.kind] at h
  subst h
  simp [IsScal, V.kind, V.num, V.text, V.keys, V.items] at this
  obtain ⟨h1, h2, h3, h4, h5⟩ := this
  subst h1; subst h2; subst h5; rfl
theorem leaf_q {x : V} (hp : Pl x) (h : x.kind = 6) : x = .mk 6 x.num ⟨#[]⟩ [] [] := by
  have := scal_of hp (by omega) (by omega)
  obtain ⟨q, m, s, ks, ts⟩ := x
  simp only [V.kind] at h
  subst h
  simp [IsScal, V.kind, V.num, V.text, V.keys, V.items] at this
  obtain ⟨h1, h2, h3, h4, h5, h6⟩ := this
  subst h1; subst h2; subst h6; rfl
theorem plain_l {x : V} (hp : Pl x) (h : x.kind = 4) : x = .mk 4 0 ⟨#[]⟩ [] x.items := by
  have := head_of hp (.inl h)
  obtain ⟨q, m, s, ks, ts⟩ := x
  simp only [V.kind] at h
  subst h
  simp [IsHead, V.kind, V.num, V.text, V.keys, V.items] at this
  obtain ⟨h1, h2, h3⟩ := this
  subst h1; subst h2; subst h3; rfl
theorem plain_m {x : V} (hp : Pl x) (h : x.kind = 5) : x = .mk 5 0 ⟨#[]⟩ x.keys x.items ∧ x.keys.length = x.items.length ∧ x.keys.Pairwise (fun a b => rl a < rl b) := by
  have := head_of hp (.inr h)
  obtain ⟨q, m, s, ks, ts⟩ := x
  simp only [V.kind] at h
  subst h
  simp [IsHead, V.kind, V.num, V.text, V.keys, V.items] at this
  obtain ⟨h1, h2, h3, h4⟩ := this
  subst h1; subst h2; exact ⟨rfl, h3, keysOk_lt h4⟩
/-- Each map has ags many values ags keys. -/
inductive Eql : V → Prop where
  | mk {q m : Int} {s : ByteArray} {ks : List ByteArray} {ts : List V} : (q = 5 → ks.length = ts.length) → (∀ x ∈ ts, Eql x) → Eql (.mk q m s ks ts)
theorem Eql.of_wf (x : V) : Wf x → Eql x := by
  refine V.indS (p := fun x => Wf x → Eql x) (fun x IH h => ?_) x
  obtain ⟨q, m, s, ks, ts⟩ := x
  exact .mk (fun hq => h.eq hq) fun y hy => IH y (size_item hy) (h.item y hy)
theorem Eql.item {x : V} (h : Eql x) : ∀ y ∈ x.items, Eql y := by cases h; assumption
theorem Eql.len {x : V} (h : Eql x) : x.kind = 5 → x.keys.length = x.items.length := by cases h; assumption
theorem srt_sorted {ks : List ByteArray} {α : Type} {ts : List α} (h : ks.Pairwise (fun a b => rl a < rl b)) : srtP (ks.zip ts) = ks.zip ts := srtP_eq (.refl _) (pw_le (zip_pw h)) (pw_fst (zip_pw h))
theorem map_fst_zip {α β : Type} {l : List α} {l' : List β} (h : l.length ≤ l'.length) : (l.zip l').map Prod.fst = l := List.map_fst_zip h
theorem map_snd_zip {α β : Type} {l : List α} {l' : List β} (h : l'.length ≤ l.length) : (l.zip l').map Prod.snd = l' := List.map_snd_zip h
theorem srt_plain (x : V) : Pl x → srtV x = x := by
  refine V.indS (p := fun x => Pl x → srtV x = x) (fun x IH hp => ?_) x
  have hit : x.items.map srtV = x.items := by
    conv => rhs; rw [← List.map_id x.items]
    exact List.map_congr_left fun y hy => IH y (size_item hy) (hp.item y hy)
  rw [srtV_eq, hit]
  by_cases h : x.kind = 5
  · obtain ⟨he, hl, hs⟩ := plain_m hp h
    rw [if_pos h, srt_sorted hs, map_fst_zip (by omega), map_snd_zip (by omega)]
    refine V.ext (by simp only [V.kind]; exact h.symm) rfl rfl rfl rfl
  · rw [if_neg h]
    exact V.ext rfl rfl rfl rfl rfl
theorem choose_list {α β : Type} {R : α → β → Prop} : ∀ {l : List α}, (∀ a ∈ l, ∃ b, R a b) → ∃ l', All2 R l l'
  | [], _ => ⟨[], All2.nil R⟩
  | a :: l, h => by
    obtain ⟨b, hb⟩ := h a List.mem_cons_self
    obtain ⟨l', hl'⟩ := choose_list (l := l) fun a ha => h a (List.mem_cons_of_mem _ ha)
    refine ⟨b :: l', by simp [hl'.1], fun i x y hx hy => ?_⟩
    cases i with
    | zero => simp at hx hy; subst hx; subst hy; exact hb
    | succ i => exact hl'.2 i x y (by simpa using hx) (by simpa using hy)
theorem All2.map_eq {α β γ : Type} {R : α → β → Prop} {f : α → γ} {g : β → γ} {l : List α} {l' : List β} (h : All2 R l l') (he : ∀ a b, a ∈ l → b ∈ l' → R a b → f a = g b) : l.map f = l'.map g := by
  apply List.ext_getElem?
  intro i
  rw [List.getElem?_map, List.getElem?_map]
  cases ha : l[i]? with
  | none =>
    have : l'[i]? = none := by rw [List.getElem?_eq_none_iff] at ha ⊢; rw [← h.1]; exact ha
    rw [this]; rfl
  | some a =>
    have hlt := (List.getElem?_eq_some_iff.1 ha).1
    have hb : l'[i]? = some (l'[i]'(by rw [← h.1]; exact hlt)) := List.getElem?_eq_getElem _
    rw [hb]
    simp only [Option.map_some]
    rw [he a _ (List.mem_of_getElem? ha) (List.mem_of_getElem? hb) (h.2 i _ _ ha hb)]
theorem all2_right {α β : Type} {R : α → β → Prop} {p : β → Prop} {l : List α} {l' : List β} (h : All2 R l l') (hp : ∀ a b, R a b → p b) : ∀ b ∈ l', p b := by
  intro b hb
  obtain ⟨i, hi, rfl⟩ := List.getElem_of_mem hb
  exact hp _ _ (h.2 i _ _ (List.getElem?_eq_getElem (by rw [h.1]; exact hi)) (List.getElem?_eq_getElem hi))
theorem zip_map_eq {α β γ : Type} (l : List α) (f : α → β) (g : α → γ) : (l.map f).zip (l.map g) = l.map fun a => (f a, g a) := by
  induction l with
  | nil => rfl
  | cons a l ih => simp [ih]
theorem outY_text (s : ByteArray) : outY (.mk 3 0 s [] []) = scal tStr s := by rw [outY_eq]; simp [V.kind, V.text]
theorem outY_bool (n : Int) : outY (.mk 1 n ⟨#[]⟩ [] []) = scal tBool (fbB (decide (n = 1))) := by rw [outY_eq]; exact if_pos rfl
theorem outY_int (n : Int) : outY (.mk 2 n ⟨#[]⟩ [] []) = scal tInt (itoaB n) := by rw [outY_eq]; simp [V.kind, V.num]
theorem outY_q (n : Int) : outY (.mk 6 n ⟨#[]⟩ [] []) = scal tFloat (quartF n) := by rw [outY_eq]; simp [V.kind, V.num]
theorem outY_l (ts : List V) : outY (.mk 4 0 ⟨#[]⟩ [] ts) = RKids 2 (ts.map outY) := by rw [outY_eq]; simp [V.kind, V.items]
theorem outY_m (ks : List ByteArray) (ts : List V) : outY (.mk 5 0 ⟨#[]⟩ ks ts) = RKids 4 ((ks.zip (ts.map outY)).flatMap prY) := by rw [outY_eq]; simp [V.kind, V.keys, V.items]
theorem outY_list {x : V} (h : x.kind = 4) : outY x = RKids 2 (x.items.map outY) := by rw [outY_eq]; simp [h]
theorem outY_texts {ts : List V} (hp : ∀ x ∈ ts, Pl x) (h3 : ∀ x ∈ ts, x.kind = 3) : ts.map outY = (ts.map V.text).map (scal tStr) := by
  rw [List.map_map]
  refine List.map_congr_left fun x hx => ?_
  rw [leaf_text (hp x hx) (h3 x hx), outY_text]
  rfl
theorem srt_perm_map {ps : List (ByteArray × V)} {ws : List V} {x : V} {g : V → V} (hx : x.keys.Pairwise (fun a b => rl a < rl b)) (hl : x.keys.length = x.items.length) (hp : ps.Perm (x.keys.zip x.items)) (h : All2 (fun w p => srtV w = g p.2) ws ps) : srtV (.mk 5 0 ⟨#[]⟩ (ps.map Prod.fst) ws) = .mk 5 0 ⟨#[]⟩ x.keys (x.items.map g) := by
  have e1 : ws.map srtV = ps.map (fun p => g p.2) := h.map_eq fun w p _ _ hr => hr
  have e2 : (ps.map Prod.fst).zip (ws.map srtV) = ps.map fun p => (p.1, g p.2) := by rw [e1, zip_map_eq]
  have e3 : x.keys.zip (x.items.map g) = (x.keys.zip x.items).map fun p => (p.1, g p.2) := by
    rw [List.zip_map_right]; rfl
  have hs : srtP ((ps.map Prod.fst).zip (ws.map srtV)) = x.keys.zip (x.items.map g) := by
    refine srtP_eq ?_ (pw_le (zip_pw hx)) ?_
    · rw [e2, e3]; exact (hp.map _).symm
    · rw [e2, List.map_map]
      have : (ps.map (Prod.fst ∘ fun p : ByteArray × V => (p.1, g p.2))) = ps.map Prod.fst := List.map_congr_left fun _ _ => rfl
      rw [this]
      have hn : ((x.keys.zip x.items).map Prod.fst).Nodup := pw_fst (zip_pw hx)
      exact (hp.map Prod.fst).nodup_iff.2 hn
  rw [srtV_map hs, map_fst_zip (by simp; omega), map_snd_zip (by simp; omega)]
theorem mapKids_all {g : V → V} {ts : List V} (h5 : ∀ x ∈ ts, x.kind = 5) : ts.map (mapKids g) = ts.map g := List.map_congr_left fun x hx => mapKids_pos (h5 x hx)
theorem turn_else {sh : Int} {g : V → V} {x : V} (h : sh ≠ 5 ∧ sh ≠ 6 ∧ sh ≠ 7 ∧ sh ≠ 9 ∧ sh ≠ 13) : turnV sh g x = x := by
  unfold turnV
  simp [h.1, h.2.1, h.2.2.1, h.2.2.2.1, h.2.2.2.2]
/-- One keyword's node. -/
theorem item_wr {sh : Int} {x : V} {z : Y} (hp : Pl x) (hf : FitLoc sh x) (IH : ∀ y, y = x ∨ y ∈ x.items → y ∈ kidsOf sh x → ∀ z, OutR y z → ∃ w, z = outY w ∧ srtV w = wr y ∧ Eql w) (hi : ItemR OutR sh x z) : ∃ w, z = outY w ∧ srtV w = turnV sh wr x ∧ Eql w := by
  have self : ∀ (h : sh ≠ 5 ∧ sh ≠ 6 ∧ sh ≠ 7 ∧ sh ≠ 9 ∧ sh ≠ 13) (z : Y), z = outY x → ∃ w, z = outY w ∧ srtV w = turnV sh wr x ∧ Eql w := fun h z hz => ⟨x, hz, by rw [turn_else h, srt_plain x hp], .of_wf x hp.wf⟩
  have texts : x.kind = 4 → (∀ y ∈ x.items, y.kind = 3) → outY x = RKids 2 ((x.items.map V.text).map (scal tStr)) := fun h4 h3 => by
    rw [outY_list h4, outY_texts hp.item h3]
  have lst : ∀ (zs : List Y), (∀ y ∈ x.items, y.kind = 5 ∧ y ∈ kidsOf sh x) → x.kind = 4 → All2 (fun z x => OutR x z) zs x.items → ∃ w, RKids 2 zs = outY w ∧ srtV w = turnAll wr x ∧ Eql w := by
    intro zs hk h4 hz
    have h2 : ∀ p ∈ zs.zip x.items, ∃ w, p.1 = outY w ∧ srtV w = wr p.2 ∧ Eql w := fun p hpm => by
      obtain ⟨i, hi, rfl⟩ := List.getElem_of_mem hpm
      simp only [List.length_zip] at hi
      have hlt : i < x.items.length := by omega
      rw [List.getElem_zip]
      exact IH x.items[i] (.inr (List.getElem_mem hlt)) (hk _ (List.getElem_mem hlt)).2 _ (hz.2 i _ _ (List.getElem?_eq_getElem (by omega)) (List.getElem?_eq_getElem hlt))
    obtain ⟨ws, hws⟩ := choose_list h2
    refine ⟨.mk 4 0 ⟨#[]⟩ [] ws, ?_, ?_, .mk (fun h => absurd h (by decide)) (all2_right hws fun p w h => h.2.2)⟩
    · rw [outY_l]
      congr 1
      have := hws.map_eq (f := Prod.fst) (g := outY) fun p w _ _ h => h.1
      rw [map_fst_zip (by rw [hz.1]; exact Nat.le_refl _)] at this
      exact this
    · rw [srtV_no (by decide)]
      have := hws.map_eq (f := fun p => wr p.2) (g := srtV) fun p w _ _ h => h.2.1.symm
      have e : (zs.zip x.items).map (fun p => wr p.2) = x.items.map wr := by
        have := congrArg (List.map wr) (map_snd_zip (l := zs) (l' := x.items) (by rw [hz.1]; exact Nat.le_refl _))
        rw [List.map_map] at this
        exact this
      unfold turnAll
      rw [← this, e, mapKids_all fun y hy => (hk y hy).1, plain_l hp h4]
      rfl
  unfold ItemR at hi
  rcases hi with ⟨rfl, rfl⟩ | ⟨rfl, rfl⟩ | ⟨rfl, hk, rfl⟩ | ⟨rfl, hk, rfl⟩ | ⟨rfl, rfl⟩ | ⟨rfl, hr⟩ | ⟨rfl, hk, rfl⟩ | ⟨rfl, hk, hr⟩ | ⟨rfl, hk, hr⟩ | ⟨rfl, hk, zs, rfl, hz⟩ | ⟨rfl, rfl⟩ | ⟨rfl, ps, L, rfl, hpm, hz⟩ | ⟨rfl, ps, hpm, rfl⟩ | ⟨rfl, rfl⟩ | ⟨rfl, hk, rfl⟩ | ⟨rfl, hk, rfl⟩ | ⟨rfl, zs, rfl, hz⟩
  · have hk : x.kind = 3 := by simpa [FitLoc] using hf
    refine self (by decide) _ ?_
    conv => rhs; rw [leaf_text hp hk, outY_text]
  · have hk : x.kind = 1 := by simpa [FitLoc] using hf
    refine self (by decide) _ ?_
    conv => rhs; rw [(leaf_bool hp hk).1, outY_bool]
  · refine self (by decide) _ ?_
    conv => rhs; rw [leaf_int hp hk, outY_int]
  · refine self (by decide) _ ?_
    conv => rhs; rw [leaf_q hp hk, outY_q]
  · have hk : x.kind = 2 := by have : x.kind = 2 ∧ 0 ≤ x.num := by simpa [FitLoc] using hf
                               exact this.1
    refine self (by decide) _ ?_
    conv => rhs; rw [leaf_int hp hk, outY_int]
  · obtain ⟨w, h1, h2, h3⟩ := IH x (.inl rfl) (by simp [kidsOf]) z hr
    exact ⟨w, h1, by rw [h2]; simp [turnV], h3⟩
  · refine ⟨x, ?_, ?_, .of_wf x hp.wf⟩
    · conv => rhs; rw [(leaf_bool hp hk).1, outY_bool]
    · rw [srt_plain x hp]; simp [turnV, hk]
  · obtain ⟨w, h1, h2, h3⟩ := IH x (.inl rfl) (by rw [kids6 hk]; simp) z hr
    exact ⟨w, h1, by rw [h2]; simp [turnV, hk], h3⟩
  · obtain ⟨w, h1, h2, h3⟩ := IH x (.inl rfl) (by rw [kids7 hk]; simp) z hr
    exact ⟨w, h1, by rw [h2]; simp [turnV, hk], h3⟩
  · have h5 : ∀ y ∈ x.items, y.kind = 5 := by
      simp [FitLoc, hk] at hf
      exact hf
    obtain ⟨w, h1, h2, h3⟩ := lst zs (fun y hy => ⟨h5 y hy, by rw [kids7l hk h5]; exact hy⟩) hk hz
    exact ⟨w, h1, by rw [h2]; simp [turnV, hk], h3⟩
  · have h : x.kind = 4 ∧ ∀ y ∈ x.items, y.kind = 3 := by simpa [FitLoc] using hf
    exact self (by decide) _ (texts h.1 h.2).symm
  · have h : x.kind = 5 ∧ ∀ y ∈ x.items, y.kind = 5 := by simpa [FitLoc] using hf
    obtain ⟨he, hl, hs⟩ := plain_m hp h.1
    have h2 : ∀ q ∈ L.zip ps, ∃ w, q.1.2 = outY w ∧ srtV w = wr q.2.2 ∧ Eql w := fun q hq => by
      obtain ⟨i, hi, rfl⟩ := List.getElem_of_mem hq
      simp only [List.length_zip] at hi
      have hlt : i < ps.length := by omega
      rw [List.getElem_zip]
      have hm := (List.of_mem_zip (hpm.mem_iff.1 (List.getElem_mem hlt))).2
      exact IH ps[i].2 (.inr hm) (by rw [kids9 h.2]; exact hm) _ (hz.2 i _ _ (List.getElem?_eq_getElem (by omega)) (List.getElem?_eq_getElem hlt)).2
    obtain ⟨ws, hws⟩ := choose_list h2
    have hll : L.length = ps.length := hz.1
    have e1 : L.map Prod.fst = ps.map Prod.fst := hz.map_eq fun a b _ _ h => h.1
    have e2 : L.map Prod.snd = ws.map outY := by
      have := hws.map_eq (f := fun q => q.1.2) (g := outY) fun p w _ _ h => h.1
      rw [← this]
      have := congrArg (List.map Prod.snd) (map_fst_zip (l := L) (l' := ps) (by omega))
      rw [List.map_map] at this
      exact this.symm
    have e3 : All2 (fun w p => srtV w = wr p.2) ws ps := by
      refine ⟨by have := hws.1; rw [List.length_zip] at this; omega, fun i w p hw hpp => ?_⟩
      have hlt := (List.getElem?_eq_some_iff.1 hpp).1
      have hq : (L.zip ps)[i]? = some (L[i]'(by omega), p) := by
        rw [List.getElem?_eq_getElem (by simp; omega), List.getElem_zip]
        rw [List.getElem?_eq_getElem hlt] at hpp
        cases hpp
        rfl
      exact (hws.2 i _ w hq hw).2.1
    refine ⟨.mk 5 0 ⟨#[]⟩ (ps.map Prod.fst) ws, ?_, ?_, .mk (fun _ => by rw [List.length_map]; exact e3.1.symm) (all2_right hws fun p w h => h.2.2)⟩
    · rw [outY_m, ← e1, ← e2]
      congr 2
      exact List.zip_of_prod rfl rfl
    · rw [srt_perm_map hs hl hpm e3]
      simp only [turnV, turnAll, show ¬ ((9 : Int) = 5) from by decide, show ¬ ((9 : Int) = 6) from by decide, show ¬ ((9 : Int) = 7) from by decide, if_false, true_or, if_true]
      rw [mapKids_all h.2, h.1]
  · have h : x.kind = 5 ∧ ∀ y ∈ x.items, y.kind = 4 ∧ ∀ z ∈ y.items, z.kind = 3 := by simpa [FitLoc] using hf
    obtain ⟨he, hl, hs⟩ := plain_m hp h.1
    refine ⟨.mk 5 0 ⟨#[]⟩ (ps.map Prod.fst) (ps.map Prod.snd), ?_, ?_, .mk (fun _ => by simp) (fun y hy => by
      obtain ⟨p, hpp, rfl⟩ := List.mem_map.1 hy
      exact .of_wf _ (hp.item _ (List.of_mem_zip (hpm.mem_iff.1 hpp)).2).wf)⟩
    · rw [outY_m, List.map_map]
      congr 2
      rw [zip_map_eq]
      refine List.map_congr_left fun p hpp => ?_
      have hm := (List.of_mem_zip (hpm.mem_iff.1 hpp)).2
      have hpl := hp.item p.2 hm
      simp only [Function.comp]
      rw [plain_l hpl (h.2 p.2 hm).1, outY_l, outY_texts hpl.item (h.2 p.2 hm).2]
      rfl
    · rw [turn_else (by decide), srt_perm_map (g := id) hs hl hpm, List.map_id]
      · exact he.symm
      · refine ⟨by simp, fun i w p hw hpp => ?_⟩
        rw [List.getElem?_map, hpp] at hw
        cases hw
        exact srt_plain _ (hp.item _ (List.of_mem_zip (hpm.mem_iff.1 (List.mem_of_getElem? hpp))).2)
  · have h : x.kind = 4 ∧ ∀ y ∈ x.items, y.kind = 3 ∨ y.kind = 1 := by simpa [FitLoc] using hf
    refine self (by decide) _ ?_
    rw [outY_list h.1]
    congr 1
    rw [List.map_map]
    refine List.map_congr_left fun y hy => ?_
    simp only [Function.comp]
    unfold evOf
    rcases h.2 y hy with h1 | h1
    · rw [if_pos h1, leaf_text (hp.item y hy) h1, outY_text]; rfl
    · rw [if_neg (by omega), (leaf_bool (hp.item y hy) h1).1, outY_bool]; rfl
  · refine self (by decide) _ ?_
    conv => rhs; rw [leaf_text hp hk, outY_text]
  · have h : x.kind = 3 ∨ (x.kind = 4 ∧ ∀ y ∈ x.items, y.kind = 3) := by simpa [FitLoc] using hf
    rcases h with h | h
    · omega
    · exact self (by decide) _ (texts h.1 h.2).symm
  · have h : x.kind = 4 ∧ ∀ y ∈ x.items, y.kind = 5 := by simpa [FitLoc] using hf
    obtain ⟨w, h1, h2, h3⟩ := lst zs (fun y hy => ⟨h.2 y hy, by rw [kids13 h.2]; exact hy⟩) h.1 hz
    exact ⟨w, h1, by rw [h2]; simp [turnV], h3⟩
end Go.Jw

namespace Go.Jw
open Go Go.RowKit Go.Proofs
def shKeys : List ByteArray := [⟨#[36, 115, 99, 104, 101, 109, 97]⟩, ⟨#[105, 100]⟩, ⟨#[36, 114, 101, 102]⟩, ⟨#[112, 97, 116, 116, 101, 114, 110]⟩, ⟨#[116, 105, 116, 108, 101]⟩, ⟨#[100, 101, 115, 99, 114, 105, 112, 116, 105, 111, 110]⟩, ⟨#[102, 111, 114, 109, 97, 116]⟩, ⟨#[114, 101, 97, 100, 79, 110, 108, 121]⟩, ⟨#[119, 114, 105, 116, 101, 79, 110, 108, 121]⟩, ⟨#[101, 120, 99, 108, 117, 115, 105, 118, 101, 77, 97, 120, 105, 109, 117, 109]⟩, ⟨#[101, 120, 99, 108, 117, 115, 105, 118, 101, 77, 105, 110, 105, 109, 117, 109]⟩, ⟨#[117, 110, 105, 113, 117, 101, 73, 116, 101, 109, 115]⟩, ⟨#[109, 117, 108, 116, 105, 112, 108, 101, 79, 102]⟩, ⟨#[109, 97, 120, 105, 109, 117, 109]⟩, ⟨#[109, 105, 110, 105, 109, 117, 109]⟩, ⟨#[109, 97, 120, 76, 101, 110, 103, 116, 104]⟩, ⟨#[109, 105, 110, 76, 101, 110, 103, 116, 104]⟩, ⟨#[109, 97, 120, 73, 116, 101, 109, 115]⟩, ⟨#[109, 105, 110, 73, 116, 101, 109, 115]⟩, ⟨#[109, 97, 120, 80, 114, 111, 112, 101, 114, 116, 105, 101, 115]⟩, ⟨#[109, 105, 110, 80, 114, 111, 112, 101, 114, 116, 105, 101, 115]⟩, ⟨#[110, 111, 116]⟩, ⟨#[97, 100, 100, 105, 116, 105, 111, 110, 97, 108, 73, 116, 101, 109, 115]⟩, ⟨#[97, 100, 100, 105, 116, 105, 111, 110, 97, 108, 80, 114, 111, 112, 101, 114, 116, 105, 101, 115]⟩, ⟨#[105, 116, 101, 109, 115]⟩, ⟨#[114, 101, 113, 117, 105, 114, 101, 100]⟩, ⟨#[112, 114, 111, 112, 101, 114, 116, 105, 101, 115]⟩, ⟨#[112, 97, 116, 116, 101, 114, 110, 80, 114, 111, 112, 101, 114, 116, 105, 101, 115]⟩, ⟨#[100, 101, 102, 105, 110, 105, 116, 105, 111, 110, 115]⟩, ⟨#[100, 101, 112, 101, 110, 100, 101, 110, 99, 105, 101, 115]⟩, ⟨#[101, 110, 117, 109]⟩, ⟨#[116, 121, 112, 101]⟩, ⟨#[97, 108, 108, 79, 102]⟩, ⟨#[97, 110, 121, 79, 102]⟩, ⟨#[111, 110, 101, 79, 102]⟩, ⟨#[100, 101, 102, 97, 117, 108, 116]⟩]
theorem sh_case {key : ByteArray} (h : shapeOf key ≠ 0) : key ∈ shKeys := by
  unfold shapeOf at h
  by_cases e0 : key = ⟨#[36, 115, 99, 104, 101, 109, 97]⟩
  · exact List.mem_of_getElem? (l := shKeys) (i := 0) (by rw [e0]; rfl)
  rw [if_neg e0] at h
  by_cases e1 : key = ⟨#[105, 100]⟩
  · exact List.mem_of_getElem? (l := shKeys) (i := 1) (by rw [e1]; rfl)
  rw [if_neg e1] at h
  by_cases e2 : key = ⟨#[36, 114, 101, 102]⟩
  · exact List.mem_of_getElem? (l := shKeys) (i := 2) (by rw [e2]; rfl)
  rw [if_neg e2] at h
  by_cases e3 : key = ⟨#[112, 97, 116, 116, 101, 114, 110]⟩
  · exact List.mem_of_getElem? (l := shKeys) (i := 3) (by rw [e3]; rfl)
  rw [if_neg e3] at h
  by_cases e4 : key = ⟨#[116, 105, 116, 108, 101]⟩
  · exact List.mem_of_getElem? (l := shKeys) (i := 4) (by rw [e4]; rfl)
  rw [if_neg e4] at h
  by_cases e5 : key = ⟨#[100, 101, 115, 99, 114, 105, 112, 116, 105, 111, 110]⟩
  · exact List.mem_of_getElem? (l := shKeys) (i := 5) (by rw [e5]; rfl)
  rw [if_neg e5] at h
  by_cases e6 : key = ⟨#[102, 111, 114, 109, 97, 116]⟩
  · exact List.mem_of_getElem? (l := shKeys) (i := 6) (by rw [e6]; rfl)
  rw [if_neg e6] at h
  by_cases e7 : key = ⟨#[114, 101, 97, 100, 79, 110, 108, 121]⟩
  · exact List.mem_of_getElem? (l := shKeys) (i := 7) (by rw [e7]; rfl)
  rw [if_neg e7] at h
  by_cases e8 : key = ⟨#[119, 114, 105, 116, 101, 79, 110, 108, 121]⟩
  · exact List.mem_of_getElem? (l := shKeys) (i := 8) (by rw [e8]; rfl)
  rw [if_neg e8] at h
  by_cases e9 : key = ⟨#[101, 120, 99, 108, 117, 115, 105, 118, 101, 77, 97, 120, 105, 109, 117, 109]⟩
  · exact List.mem_of_getElem? (l := shKeys) (i := 9) (by rw [e9]; rfl)
  rw [if_neg e9] at h
  by_cases e10 : key = ⟨#[101, 120, 99, 108, 117, 115, 105, 118, 101, 77, 105, 110, 105, 109, 117, 109]⟩
  · exact List.mem_of_getElem? (l := shKeys) (i := 10) (by rw [e10]; rfl)
  rw [if_neg e10] at h
  by_cases e11 : key = ⟨#[117, 110, 105, 113, 117, 101, 73, 116, 101, 109, 115]⟩
  · exact List.mem_of_getElem? (l := shKeys) (i := 11) (by rw [e11]; rfl)
  rw [if_neg e11] at h
  by_cases e12 : key = ⟨#[109, 117, 108, 116, 105, 112, 108, 101, 79, 102]⟩
  · exact List.mem_of_getElem? (l := shKeys) (i := 12) (by rw [e12]; rfl)
  rw [if_neg e12] at h
  by_cases e13 : key = ⟨#[109, 97, 120, 105, 109, 117, 109]⟩
  · exact List.mem_of_getElem? (l := shKeys) (i := 13) (by rw [e13]; rfl)
  rw [if_neg e13] at h
  by_cases e14 : key = ⟨#[109, 105, 110, 105, 109, 117, 109]⟩
  · exact List.mem_of_getElem? (l := shKeys) (i := 14) (by rw [e14]; rfl)
  rw [if_neg e14] at h
  by_cases e15 : key = ⟨#[109, 97, 120, 76, 101, 110, 103, 116, 104]⟩
  · exact List.mem_of_getElem? (l := shKeys) (i := 15) (by rw [e15]; rfl)
  rw [if_neg e15] at h
  by_cases e16 : key = ⟨#[109, 105, 110, 76, 101, 110, 103, 116, 104]⟩
  · exact List.mem_of_getElem? (l := shKeys) (i := 16) (by rw [e16]; rfl)
  rw [if_neg e16] at h
  by_cases e17 : key = ⟨#[109, 97, 120, 73, 116, 101, 109, 115]⟩
  · exact List.mem_of_getElem? (l := shKeys) (i := 17) (by rw [e17]; rfl)
  rw [if_neg e17] at h
  by_cases e18 : key = ⟨#[109, 105, 110, 73, 116, 101, 109, 115]⟩
  · exact List.mem_of_getElem? (l := shKeys) (i := 18) (by rw [e18]; rfl)
  rw [if_neg e18] at h
  by_cases e19 : key = ⟨#[109, 97, 120, 80, 114, 111, 112, 101, 114, 116, 105, 101, 115]⟩
  · exact List.mem_of_getElem? (l := shKeys) (i := 19) (by rw [e19]; rfl)
  rw [if_neg e19] at h
  by_cases e20 : key = ⟨#[109, 105, 110, 80, 114, 111, 112, 101, 114, 116, 105, 101, 115]⟩
  · exact List.mem_of_getElem? (l := shKeys) (i := 20) (by rw [e20]; rfl)
  rw [if_neg e20] at h
  by_cases e21 : key = ⟨#[110, 111, 116]⟩
  · exact List.mem_of_getElem? (l := shKeys) (i := 21) (by rw [e21]; rfl)
  rw [if_neg e21] at h
  by_cases e22 : key = ⟨#[97, 100, 100, 105, 116, 105, 111, 110, 97, 108, 73, 116, 101, 109, 115]⟩
  · exact List.mem_of_getElem? (l := shKeys) (i := 22) (by rw [e22]; rfl)
  rw [if_neg e22] at h
  by_cases e23 : key = ⟨#[97, 100, 100, 105, 116, 105, 111, 110, 97, 108, 80, 114, 111, 112, 101, 114, 116, 105, 101, 115]⟩
  · exact List.mem_of_getElem? (l := shKeys) (i := 23) (by rw [e23]; rfl)
  rw [if_neg e23] at h
  by_cases e24 : key = ⟨#[105, 116, 101, 109, 115]⟩
  · exact List.mem_of_getElem? (l := shKeys) (i := 24) (by rw [e24]; rfl)
  rw [if_neg e24] at h
  by_cases e25 : key = ⟨#[114, 101, 113, 117, 105, 114, 101, 100]⟩
  · exact List.mem_of_getElem? (l := shKeys) (i := 25) (by rw [e25]; rfl)
  rw [if_neg e25] at h
  by_cases e26 : key = ⟨#[112, 114, 111, 112, 101, 114, 116, 105, 101, 115]⟩
  · exact List.mem_of_getElem? (l := shKeys) (i := 26) (by rw [e26]; rfl)
  rw [if_neg e26] at h
  by_cases e27 : key = ⟨#[112, 97, 116, 116, 101, 114, 110, 80, 114, 111, 112, 101, 114, 116, 105, 101, 115]⟩
  · exact List.mem_of_getElem? (l := shKeys) (i := 27) (by rw [e27]; rfl)
  rw [if_neg e27] at h
  by_cases e28 : key = ⟨#[100, 101, 102, 105, 110, 105, 116, 105, 111, 110, 115]⟩
  · exact List.mem_of_getElem? (l := shKeys) (i := 28) (by rw [e28]; rfl)
  rw [if_neg e28] at h
  by_cases e29 : key = ⟨#[100, 101, 112, 101, 110, 100, 101, 110, 99, 105, 101, 115]⟩
  · exact List.mem_of_getElem? (l := shKeys) (i := 29) (by rw [e29]; rfl)
  rw [if_neg e29] at h
  by_cases e30 : key = ⟨#[101, 110, 117, 109]⟩
  · exact List.mem_of_getElem? (l := shKeys) (i := 30) (by rw [e30]; rfl)
  rw [if_neg e30] at h
  by_cases e31 : key = ⟨#[116, 121, 112, 101]⟩
  · exact List.mem_of_getElem? (l := shKeys) (i := 31) (by rw [e31]; rfl)
  rw [if_neg e31] at h
  by_cases e32 : key = ⟨#[97, 108, 108, 79, 102]⟩
  · exact List.mem_of_getElem? (l := shKeys) (i := 32) (by rw [e32]; rfl)
  rw [if_neg e32] at h
  by_cases e33 : key = ⟨#[97, 110, 121, 79, 102]⟩
  · exact List.mem_of_getElem? (l := shKeys) (i := 33) (by rw [e33]; rfl)
  rw [if_neg e33] at h
  by_cases e34 : key = ⟨#[111, 110, 101, 79, 102]⟩
  · exact List.mem_of_getElem? (l := shKeys) (i := 34) (by rw [e34]; rfl)
  rw [if_neg e34] at h
  by_cases e35 : key = ⟨#[100, 101, 102, 97, 117, 108, 116]⟩
  · exact List.mem_of_getElem? (l := shKeys) (i := 35) (by rw [e35]; rfl)
  rw [if_neg e35] at h
  exact absurd rfl h
theorem sh_kw {key : ByteArray} (h0 : kwIdx key = 0) : shapeOf key = 0 ∨ isQuiet key = true := by
  by_cases h : shapeOf key = 0
  · exact .inl h
  · have : ∀ k ∈ shKeys, kwIdx k = 0 → isQuiet k = true := by decide +kernel
    exact .inr (this key (sh_case h) h0)
theorem isWr_kw {key : ByteArray} : isWr key = true ↔ kwIdx key ≠ 0 ∧ kwIdx key ≠ 35 := by
  by_cases h0 : kwIdx key = 0
  · have hk : isWr key = false := by
      unfold isWr isKw
      rcases sh_kw h0 with h | h <;> simp [h]
    rw [hk]; simp [h0]
  · have hk := kw_key (key := key) rfl h0
    have hm := kw_range h0
    generalize hq : kwIdx key = q at *
    subst hk
    have : ∀ q ∈ List.range 37, kwIdx (keyOf q) = q → q ≠ 0 → (isWr (keyOf q) = true ↔ q ≠ 0 ∧ q ≠ 35) := by decide +kernel
    exact this q (List.mem_range.2 (by omega)) hq h0
theorem nodup_of_map {α β : Type} {f : α → β} {l : List α} (h : (l.map f).Nodup) : l.Nodup := by
  rw [List.nodup_iff_pairwise_ne, List.pairwise_map] at h
  rw [List.nodup_iff_pairwise_ne]
  exact h.imp fun h e => h (congrArg f e)
theorem mem_zip_get {v x : V} {key : ByteArray} (hp : Pl v) (hk : v.kind = 5) : (key, x) ∈ v.keys.zip v.items ↔ getV v key = some x := by
  constructor
  · intro h
    exact prs_get (back := false) hp.wf hk (hp.keys hk) (p := (key, x)) h
  · intro h
    exact mem_prs (back := false) hp.wf hk h
theorem out_wr (v : V) : Pl v → IsShape v → ∀ y, OutR v y → ∃ u, y = outY u ∧ srtV u = wr v ∧ Eql u := by
  refine V.indS (p := fun v => Pl v → IsShape v → ∀ y, OutR v y → ∃ u, y = outY u ∧ srtV u = wr v ∧ Eql u) (fun v IH hp hs y ho => ?_) v
  obtain ⟨L, rfl, hnd, hmem, hall⟩ := (outR_iff v y).1 ho
  have hk5 := hs.kind
  have hfit := ((isShape_iff v).1 hs).2
  obtain ⟨he, hl, hsort⟩ := plain_m hp hk5
  have hit : ∀ p ∈ L, ∃ w, ∃ x, getV v p.1 = some x ∧ p.2 = outY w ∧ srtV w = turnV (shapeOf p.1) wr x ∧ Eql w := by
    intro p hpm
    obtain ⟨h0, h35, x, hx, hi⟩ := hmem p hpm
    obtain ⟨j, hj1, hj2⟩ := getV_idx hx
    obtain ⟨hf, hkid, _⟩ := hfit j _ _ hj1 hj2
    have hxm : x ∈ v.items := List.mem_of_getElem? hj2
    have hpl := hp.item x hxm
    rw [← kw_sh h0] at hi
    obtain ⟨w, h1, h2, h3⟩ := item_wr hpl hf (fun y hy hyk z hz => by
      refine IH y ?_ ?_ (hkid y hyk) z hz
      · exact Nat.lt_of_le_of_lt (kids_size hyk) (size_item hxm)
      · rcases hy with rfl | hy
        · exact hpl
        · exact hpl.item y hy) hi
    exact ⟨w, x, hx, h1, h2, h3⟩
  obtain ⟨ws, hws⟩ := choose_list hit
  have hkeys : (L.map Prod.fst).Nodup := by
    have : (L.map fun p => kwIdx p.1) = (L.map Prod.fst).map kwIdx := by rw [List.map_map]; rfl
    rw [this] at hnd
    exact nodup_of_map hnd
  refine ⟨.mk 5 0 ⟨#[]⟩ (L.map Prod.fst) ws, ?_, ?_, .mk (fun _ => by rw [List.length_map]; exact hws.1) (all2_right hws fun p w ⟨_, _, _, _, h⟩ => h)⟩
  · rw [outY_m]
    have : L.map Prod.snd = ws.map outY := hws.map_eq fun p w _ _ ⟨x, _, h, _, _⟩ => h
    rw [← this]
    congr 2
    exact List.zip_of_prod rfl rfl
  · have hsrt : srtP ((L.map Prod.fst).zip (ws.map srtV)) = ((v.keys.zip v.items).filter (fun p => isWr p.1)).map (fun p => (p.1, turnV (shapeOf p.1) wr p.2)) := by
      have hzl : L.length = ws.length := hws.1
      have hpw : (((v.keys.zip v.items).filter (fun p => isWr p.1)).map (fun p => (p.1, turnV (shapeOf p.1) wr p.2))).Pairwise (fun a b => rl a.1 < rl b.1) := by
        rw [List.pairwise_map]
        exact (zip_pw hsort).sublist List.filter_sublist
      have hn1 : (((L.map Prod.fst).zip (ws.map srtV)).map Prod.fst).Nodup := by
        rw [map_fst_zip (by simp; omega)]; exact hkeys
      refine srtP_eq ?_ (pw_le hpw) hn1
      refine (List.perm_ext_iff_of_nodup (nodup_of_map (pw_fst hpw)) (nodup_of_map hn1)).2 fun q => ?_
      constructor
      · intro hq
        obtain ⟨p, hpm, rfl⟩ := List.mem_map.1 hq
        obtain ⟨hz, hw⟩ := List.mem_filter.1 hpm
        have hx := (mem_zip_get hp hk5).1 (show (p.1, p.2) ∈ _ from hz)
        obtain ⟨h0, h35⟩ := isWr_kw.1 hw
        obtain ⟨r, hr, hre⟩ := hall p.1 p.2 hx h0 h35
        obtain ⟨i, hi, rfl⟩ := List.getElem_of_mem hr
        obtain ⟨x, hx', _, h2, _⟩ := hws.2 i _ _ (List.getElem?_eq_getElem hi) (List.getElem?_eq_getElem (by omega))
        rw [hre] at hx' h2
        rw [hx] at hx'
        cases hx'
        have : ((L.map Prod.fst).zip (ws.map srtV))[i]'(by simp; omega) = (p.1, turnV (shapeOf p.1) wr p.2) := by
          rw [List.getElem_zip, List.getElem_map, List.getElem_map, hre, h2]
        rw [← this]
        exact List.getElem_mem _
      · intro hq
        obtain ⟨i, hi, rfl⟩ := List.getElem_of_mem hq
        simp only [List.length_zip, List.length_map] at hi
        rw [List.getElem_zip, List.getElem_map, List.getElem_map]
        obtain ⟨x, hx', _, h2, _⟩ := hws.2 i _ _ (List.getElem?_eq_getElem (by omega)) (List.getElem?_eq_getElem (by omega))
        rw [h2]
        obtain ⟨h0, h35, _⟩ := hmem L[i] (List.getElem_mem _)
        exact List.mem_map.2 ⟨(L[i].1, x), List.mem_filter.2 ⟨(mem_zip_get hp hk5).2 hx', isWr_kw.2 ⟨h0, h35⟩⟩, rfl⟩
    rw [srtV_map hsrt, wr_eq]
    unfold filterV
    rw [List.map_map, List.map_map]
    rfl
end Go.Jw

namespace Go.Jw
open Go Go.RowKit Go.Proofs
set_option maxRecDepth 8000
def bs (l : List UInt8) : ByteArray := ⟨l.toArray⟩
theorem rl_bs (l : List UInt8) : rl (bs l) = l := rfl
theorem bs_of {r : ByteArray} {l : List UInt8} (h : rl r = l) : r = bs l := rl_inj h
theorem sz_rl (s : ByteArray) : s.size = (rl s).length := rfl
/-- Lines with a comma behind each but the last. -/
def linesTo (f : Nat → List UInt8) (n : Nat) : Nat → List UInt8
  | 0 => []
  | i + 1 => linesTo f n i ++ (f i ++ ((if i + 1 < n then [44] else []) ++ [10]))
theorem linesTo_congr {f g : Nat → List UInt8} {n : Nat} : ∀ {i : Nat}, (∀ j, j < i → f j = g j) → linesTo f n i = linesTo g n i
  | 0, _ => rfl
  | i + 1, h => by simp only [linesTo]; rw [linesTo_congr fun j hj => h j (by omega), h i (by omega)]
theorem linesTo_le {f : Nat → List UInt8} {n i j : Nat} (h : i ≤ j) : (linesTo f n i).length ≤ (linesTo f n j).length := by
  induction j with
  | zero => have : i = 0 := by omega
            subst this; exact Nat.le_refl _
  | succ j ih =>
    rcases Nat.lt_or_eq_of_le h with h1 | h1
    · refine Nat.le_trans (ih (by omega)) ?_
      simp only [linesTo, List.length_append]; omega
    · subst h1; exact Nat.le_refl _
theorem linesTo_part {f : Nat → List UInt8} {n i : Nat} (h : i < n) : (linesTo f n i).length + (f i).length ≤ (linesTo f n n).length := by
  have h1 := linesTo_le (f := f) (n := n) (i := i + 1) (j := n) h
  simp only [linesTo, List.length_append] at h1
  omega
def lineL (R : Nat → List UInt8) (ind : List UInt8) (i : Nat) : List UInt8 := ind ++ ([32, 32] ++ R i)
def lineM (K R : Nat → List UInt8) (ind : List UInt8) (i : Nat) : List UInt8 := ind ++ ([32, 32] ++ ([34] ++ (K i ++ ([34, 58, 32] ++ R i))))
def rendL (R : Nat → List UInt8) (ind : List UInt8) (n : Nat) : List UInt8 := [91, 10] ++ (linesTo (lineL R ind) n n ++ (ind ++ [93]))
def rendM (K R : Nat → List UInt8) (ind : List UInt8) (n : Nat) : List UInt8 := [123, 10] ++ (linesTo (lineM K R ind) n n ++ (ind ++ [125]))
theorem rendL_congr {R R' : Nat → List UInt8} {ind : List UInt8} {n : Nat} (h : ∀ i, i < n → R i = R' i) : rendL R ind n = rendL R' ind n := by
  unfold rendL; rw [linesTo_congr (f := lineL R ind) (g := lineL R' ind) fun j hj => by unfold lineL; rw [h j hj]]
theorem rendM_congr {K R R' : Nat → List UInt8} {ind : List UInt8} {n : Nat} (h : ∀ i, i < n → R i = R' i) : rendM K R ind n = rendM K R' ind n := by
  unfold rendM; rw [linesTo_congr (f := lineM K R ind) (g := lineM K R' ind) fun j hj => by unfold lineM; rw [h j hj]]
instance : Inhabited (List UInt8 → List UInt8) := ⟨fun _ => []⟩
def zV0 : V := .mk 0 0 ⟨#[]⟩ [] []
/-- The text of a value. -/
noncomputable def rend : V → List UInt8 → List UInt8 := V.fix (α := List UInt8 → List UInt8) (fun t f ind => if t.kind = 1 then rl (fbB (decide (t.num = 1))) else if t.kind = 3 then [34] ++ (rl t.text ++ [34])
    else if t.kind = 4 then rendL (fun i => f (t.items.getD i zV0) (ind ++ [32, 32])) ind t.items.length else if t.kind = 5 then rendM (fun i => rl (t.keys.getD i ⟨#[]⟩)) (fun i => f (t.items.getD i zV0) (ind ++ [32, 32])) ind t.items.length else [])
theorem rend_eq (t : V) (ind : List UInt8) : rend t ind = if t.kind = 1 then rl (fbB (decide (t.num = 1))) else if t.kind = 3 then [34] ++ (rl t.text ++ [34])
    else if t.kind = 4 then rendL (fun i => rend (t.items.getD i zV0) (ind ++ [32, 32])) ind t.items.length else if t.kind = 5 then rendM (fun i => rl (t.keys.getD i ⟨#[]⟩)) (fun i => rend (t.items.getD i zV0) (ind ++ [32, 32])) ind t.items.length else [] := by
  have := V.fix_eq (α := List UInt8 → List UInt8) (G := fun t f ind => if t.kind = 1 then rl (fbB (decide (t.num = 1))) else if t.kind = 3 then [34] ++ (rl t.text ++ [34])
    else if t.kind = 4 then rendL (fun i => f (t.items.getD i zV0) (ind ++ [32, 32])) ind t.items.length else if t.kind = 5 then rendM (fun i => rl (t.keys.getD i ⟨#[]⟩)) (fun i => f (t.items.getD i zV0) (ind ++ [32, 32])) ind t.items.length else []) (fun t g g' h => by
    funext ind
    have hh : ∀ i, i < t.items.length → g (t.items.getD i zV0) (ind ++ [32, 32]) = g' (t.items.getD i zV0) (ind ++ [32, 32]) := fun i hi => by
      rw [List.getD_eq_getElem?_getD, List.getElem?_eq_getElem hi, Option.getD_some, h _ (size_item (List.getElem_mem hi))]
    rw [rendL_congr hh, rendM_congr hh]) t
  exact congrFun this ind
theorem srt_kind (u : V) : (srtV u).kind = u.kind := by
  rw [srtV_eq]
  split
  · rename_i h; exact h.symm
  · rfl
theorem srt_item {u x : V} (he : Eql u) (h : x ∈ u.items) : srtV x ∈ (srtV u).items := by
  rw [srtV_eq]
  split
  · rename_i h5
    have hl := he.len h5
    simp only [V.items]
    rw [((srtP_perm _).map Prod.snd).mem_iff, map_snd_zip (by rw [List.length_map]; exact Nat.le_of_eq hl.symm)]
    exact List.mem_map.2 ⟨x, h, rfl⟩
  · exact List.mem_map.2 ⟨x, h, rfl⟩
theorem ju_scal {u : V} (hp : Pl (srtV u)) (h4 : u.kind ≠ 4) (h5 : u.kind ≠ 5) : Pl u ∧ srtV u = u := by
  have hs := scal_of hp (by rw [srt_kind]; exact h4) (by rw [srt_kind]; exact h5)
  obtain ⟨q, m, s, ks, ts⟩ := u
  simp only [V.kind] at h4 h5
  rw [srtV_no h5] at hs hp ⊢
  simp only [IsScal, V.kind, V.num, V.text, V.keys, V.items] at hs
  have : ts = [] := by simpa using hs.2.1
  subst this
  exact ⟨hp, rfl⟩
theorem ju_l {u : V} (hp : Pl (srtV u)) (he : Eql u) (h : u.kind = 4) : u = .mk 4 0 ⟨#[]⟩ [] u.items ∧ u.items.length ≤ 60 ∧ ∀ x ∈ u.items, Pl (srtV x) ∧ Eql x := by
  have h1 := plain_l hp (by rw [srt_kind]; exact h)
  have h2 := hp.len
  have hit : ∀ x ∈ u.items, Pl (srtV x) ∧ Eql x := fun x hx => ⟨hp.item _ (srt_item he hx), he.item x hx⟩
  obtain ⟨q, m, s, ks, ts⟩ := u
  simp only [V.kind] at h
  subst h
  rw [srtV_no (by decide)] at h1 h2
  simp only [V.items, List.length_map] at h1 h2
  injection h1 with _ a b c _
  subst a; subst b; subst c
  exact ⟨rfl, h2, hit⟩
theorem ju_m {u : V} (hp : Pl (srtV u)) (he : Eql u) (h : u.kind = 5) : u = .mk 5 0 ⟨#[]⟩ u.keys u.items ∧ u.keys.length = u.items.length ∧ u.items.length ≤ 60 ∧ u.keys.Nodup ∧ (∀ k ∈ u.keys, IsWord k ∧ k ∈ (srtV u).keys) ∧ ∀ x ∈ u.items, Pl (srtV x) ∧ Eql x := by
  have h0 := hp.keys (by rw [srt_kind]; exact h)
  obtain ⟨h1, hl, hs⟩ := plain_m hp (by rw [srt_kind]; exact h)
  have h2 := hp.len
  have hle := he.len h
  have hit : ∀ x ∈ u.items, Pl (srtV x) ∧ Eql x := fun x hx => ⟨hp.item _ (srt_item he hx), he.item x hx⟩
  obtain ⟨q, m, s, ks, ts⟩ := u
  simp only [V.kind] at h
  subst h
  simp only [V.keys, V.items] at hle hit ⊢
  have hpk : ((srtP (ks.zip (ts.map srtV))).map Prod.fst).Perm ks := by
    have := (srtP_perm (ks.zip (ts.map srtV))).map Prod.fst
    rw [map_fst_zip (by simp; omega)] at this
    exact this
  have hpi : ((srtP (ks.zip (ts.map srtV))).map Prod.snd).length = ts.length := by
    rw [List.length_map, (srtP_perm _).length_eq, List.length_zip, List.length_map]; omega
  rw [srtV_map rfl] at h0 h1 h2 hs ⊢
  simp only [V.keys, V.items] at h0 h1 h2 hs ⊢
  injection h1 with _ a b _ _
  subst a; subst b
  refine ⟨rfl, hle, by omega, hpk.nodup_iff.1 (lt_nodup hs), fun k hk => ?_, hit⟩
  have hk' := hpk.mem_iff.2 hk
  obtain ⟨i, hi, rfl⟩ := List.getElem_of_mem hk'
  exact ⟨(h0 i hi).1, hk'⟩
/-- The text's length. -/
noncomputable def nodes : V → Nat := V.fix (α := Nat) (fun t f => 1 + (t.items.map f).sum)
theorem nodes_eq (t : V) : nodes t = 1 + (t.items.map nodes).sum := V.fix_eq (α := Nat) (G := fun t f => 1 + (t.items.map f).sum) (fun t g g' h => by
  have : t.items.map g = t.items.map g' := List.map_congr_left fun x hx => h x (size_item hx)
  simp only [this]) t
theorem linesTo_sum {f : Nat → List UInt8} {n : Nat} {ts : List V} {B : Nat} : ∀ {i : Nat}, i ≤ ts.length → (∀ j (h : j < ts.length), (f j).length + 2 ≤ 2 * B * nodes ts[j]) → (linesTo f n i).length ≤ 2 * B * ((ts.take i).map nodes).sum
  | 0, _, _ => by simp [linesTo]
  | i + 1, hi, h => by
    have h1 := linesTo_sum (n := n) (i := i) (by omega) h
    have h2 := h i (by omega)
    have h3 : (ts.take (i + 1)).map nodes = (ts.take i).map nodes ++ [nodes ts[i]] := by rw [List.take_add_one, List.getElem?_eq_getElem (by omega), List.map_append]; rfl
    rw [h3, List.sum_append, List.sum_singleton, Nat.mul_add]
    have h4 : (if i + 1 < n then [44] else ([] : List UInt8)).length ≤ 1 := by split <;> simp
    simp only [linesTo, List.length_append, List.length_singleton]
    omega
theorem nodes_pos (t : V) : 1 ≤ nodes t := by rw [nodes_eq]; omega
theorem nodes_item {t x : V} (h : x ∈ t.items) : nodes x + 1 ≤ nodes t := by
  rw [nodes_eq t]
  have : nodes x ≤ (t.items.map nodes).sum := by
    generalize t.items = l at h
    induction l with
    | nil => cases h
    | cons a l ih =>
      rw [List.map_cons, List.sum_cons]
      rcases List.mem_cons.1 h with rfl | h
      · omega
      · have := ih h; omega
  omega
theorem rend_len (u : V) : Pl (srtV u) → Eql u → ∀ ind, (rend u ind).length + (ind.length + 2 * nodes u + 220) ≤ 2 * (ind.length + 2 * nodes u + 220) * nodes u := by
  refine V.indS (p := fun u => Pl (srtV u) → Eql u → ∀ ind, (rend u ind).length + (ind.length + 2 * nodes u + 220) ≤ 2 * (ind.length + 2 * nodes u + 220) * nodes u) (fun u IH hp he ind => ?_) u
  have hn := nodes_pos u
  have key : ∀ (w : Nat), w ≤ ind.length + 2 * nodes u + 220 → w + (ind.length + 2 * nodes u + 220) ≤ 2 * (ind.length + 2 * nodes u + 220) * nodes u := by
    intro w hw
    have := Nat.mul_le_mul_left (2 * (ind.length + 2 * nodes u + 220)) hn
    omega
  have hlines : ∀ (f : Nat → List UInt8) (n : Nat), (∀ x ∈ u.items, Pl (srtV x) ∧ Eql x) → (∀ j (h : j < u.items.length), (f j).length ≤ (rend u.items[j] (ind ++ [32, 32])).length + ind.length + 206) →
      (linesTo f n u.items.length).length + 2 * (ind.length + 2 * nodes u + 220) ≤ 2 * (ind.length + 2 * nodes u + 220) * nodes u := by
    intro f n hit hf
    have h1 := linesTo_sum (f := f) (n := n) (ts := u.items) (B := ind.length + 2 * nodes u + 220) (i := u.items.length) (Nat.le_refl _) (fun j hj => by
      have hm := List.getElem_mem hj
      have h2 := IH u.items[j] (size_item hm) (hit _ hm).1 (hit _ hm).2 (ind ++ [32, 32])
      have h3 := hf j hj
      have h4 := nodes_item hm
      have h6 : (ind ++ [32, 32]).length = ind.length + 2 := by rw [List.length_append]; rfl
      have h7 : 2 * ((ind ++ [32, 32]).length + 2 * nodes u.items[j] + 220) ≤ 2 * (ind.length + 2 * nodes u + 220) := by omega
      generalize hA : 2 * ((ind ++ [32, 32]).length + 2 * nodes u.items[j] + 220) = A at h2 h7
      generalize hC : 2 * (ind.length + 2 * nodes u + 220) = C at h7 ⊢
      have h5 : A * nodes u.items[j] ≤ C * nodes u.items[j] := Nat.mul_le_mul_right _ h7
      omega)
    rw [List.take_length] at h1
    have h2 : ∀ C, C * nodes u = C * (u.items.map nodes).sum + C := fun C => by rw [nodes_eq u, Nat.mul_add, Nat.mul_one, Nat.add_comm]
    have h3 := h2 (2 * (ind.length + 2 * nodes u + 220))
    omega
  rw [rend_eq]
  split
  · refine key _ ?_
    have : (rl (fbB (decide (u.num = 1)))).length ≤ 5 := by cases decide (u.num = 1) <;> decide
    omega
  split
  · rename_i h1 h3
    refine key _ ?_
    have hl := leaf_text (ju_scal hp (by omega) (by omega)).1 h3
    have hs := scal_of (ju_scal hp (by omega) (by omega)).1 (by omega) (by omega)
    have : u.text.size ≤ 200 := by
      simp only [IsScal] at hs
      rcases hs.2.2 with h | h | h | h | h
      · omega
      · omega
      · omega
      · omega
      · exact h.2.2.2
    rw [sz_rl] at this
    simp only [List.length_append, List.length_singleton]
    omega
  split
  · rename_i h1 h3 h4
    obtain ⟨_, _, hit⟩ := ju_l hp he h4
    have h2 := hlines (lineL (fun i => rend (u.items.getD i zV0) (ind ++ [32, 32])) ind) u.items.length hit (fun j hj => by
      unfold lineL
      simp only []
      rw [List.getD_eq_getElem?_getD, List.getElem?_eq_getElem hj, Option.getD_some]
      simp only [List.length_append, List.length_cons, List.length_nil]
      omega)
    simp only [rendL, List.length_append, List.length_cons, List.length_nil]
    omega
  split
  · rename_i h1 h3 h4 h5
    obtain ⟨_, hkl, _, _, hw, hit⟩ := ju_m hp he h5
    have h2 := hlines (lineM (fun i => rl (u.keys.getD i ⟨#[]⟩)) (fun i => rend (u.items.getD i zV0) (ind ++ [32, 32])) ind) u.items.length hit (fun j hj => by
      unfold lineM
      simp only []
      have e1 : u.items.getD j zV0 = u.items[j] := by rw [List.getD_eq_getElem?_getD, List.getElem?_eq_getElem hj, Option.getD_some]
      have e2 : u.keys.getD j ⟨#[]⟩ = u.keys[j]'(by omega) := by rw [List.getD_eq_getElem?_getD, List.getElem?_eq_getElem (by omega), Option.getD_some]
      rw [e1, e2]
      have := (hw _ (List.getElem_mem (by omega : j < u.keys.length))).1.2
      rw [sz_rl] at this
      simp only [List.length_append, List.length_cons, List.length_nil]
      omega)
    simp only [rendM, List.length_append, List.length_cons, List.length_nil]
    omega
  · exact key _ (by simp)
theorem rl34 : rl ⟨#[34]⟩ = [34] := rfl
theorem rl2 : rl ⟨#[32, 32]⟩ = [32, 32] := rfl
theorem rl3 : rl ⟨#[34, 58, 32]⟩ = [34, 58, 32] := rfl
theorem rl10 : rl ⟨#[10]⟩ = [10] := rfl
theorem rl44 : rl ⟨#[44]⟩ = [44] := rfl
theorem rl125 : rl ⟨#[125]⟩ = [125] := rfl
theorem rl93 : rl ⟨#[93]⟩ = [93] := rfl
theorem rl0 : rl ⟨#[]⟩ = [] := rfl
theorem rl123 : rl ⟨#[123, 10]⟩ = [123, 10] := rfl
theorem rl91 : rl ⟨#[91, 10]⟩ = [91, 10] := rfl
theorem bs_size (l : List UInt8) : (bs l).size = l.length := rfl
end Go.Jw

namespace Go.Jw
open Go Go.RowKit Go.Proofs
set_option maxRecDepth 8000
theorem c164w (b : Nat) (ind : ByteArray) (L : List (ByteArray × Y)) (Kf : Nat → ByteArray) (R : Nat → List UInt8) (hl : L.length ≤ 1000000) (hK0 : ∀ i (h : i < L.length), Kf i = L[i].1)
    (H : ∀ i (h : i < L.length), (L[i].2.kind = 8 ∧ R i = (if L[i].2.tag = tBool then rl L[i].2.val else [34] ++ (rl L[i].2.val ++ [34]))) ∨ (L[i].2.kind = 4 ∧ ∀ vb, CtV Tryz.prog 164 #[ptr vb, .string (ind ++ ⟨#[32, 32]⟩)] [.node vb L[i].2] (.string (bs (R i)))) ∨ (L[i].2.kind = 2 ∧ ∀ vb, CtV Tryz.prog 165 #[ptr vb, .string (ind ++ ⟨#[32, 32]⟩)] [.node vb L[i].2] (.string (bs (R i)))))
    (hB : (rendM (fun i => rl (Kf i)) R (rl ind) L.length).length ≤ 1000000000000000000) : CtV Tryz.prog 164 #[ptr b, .string ind] [.node b (RKids 4 (L.flatMap prY))] (.string (bs (rendM (fun i => rl (Kf i)) R (rl ind) L.length))) := by
  refine Ct.of_run (args := [ptr b, .string ind]) Tryz.func164 (by kernel_rfl) rfl Tryz.ntmps164 rfl (fun c => ?_)
  have z34 : (⟨#[34]⟩ : ByteArray).size = 1 := rfl
  have z2 : (⟨#[32, 32]⟩ : ByteArray).size = 2 := rfl
  have z3 : (⟨#[34, 58, 32]⟩ : ByteArray).size = 3 := rfl
  have z10 : (⟨#[10]⟩ : ByteArray).size = 1 := rfl
  have z44 : (⟨#[44]⟩ : ByteArray).size = 1 := rfl
  have z125 : (⟨#[125]⟩ : ByteArray).size = 1 := rfl
  have z93 : (⟨#[93]⟩ : ByteArray).size = 1 := rfl
  have z0 : (⟨#[]⟩ : ByteArray).size = 0 := rfl
  have hlen : 2 + ((linesTo (lineM (fun i => rl (Kf i)) R (rl ind)) L.length L.length).length + ((rl ind).length + 1)) ≤ 1000000000000000000 := by simpa only [rendM, List.length_append, List.length_cons, List.length_nil] using hB
  have his : ind.size = (rl ind).length := sz_rl ind
  refine wE 0 rfl (fun A0 cap0 ht0 hv0 hl0 hc0 => ?_)
  rw [flat_len]
  rw [flat_len] at hl0
  unfold maxLen at hc0
  refine zD (zB ?_)
  refine zA (zE rfl rfl ?_)
  refine zC (zD ?_)
  refine zB (zA ?_)
  refine zE rfl rfl (zC ?_)
  refine zD (zB ?_)
  refine zA (zF rfl rfl ?_)
  refine zA (xU rfl rfl rfl (by (try simp only [ByteArray.size_append, bs_size, z34, z2, z3, z10, z44, z125, z93, z0]); omega) ?_)
  refine zA (zE rfl rfl ?_)
  refine zC (zD ?_)
  refine zD (zB ?_)
  refine zA (zE rfl rfl ?_)
  refine zC (zP ?_)
  refine zG [6, 4, 5, 0, 1] ?_
  change Run _ _ _ _ _ [(6, _), (4, _), (5, _), (0, _), (1, _)] _ _
  refine xN 2 (fun (⟨i, r⟩ : Nat × ByteArray) => i ≤ L.length ∧ rl r = [123, 10] ++ linesTo (lineM (fun i => rl (Kf i)) R (rl ind)) L.length i) (fun (⟨i, r⟩ : Nat × ByteArray) => [(6, .int .i64 ((2 * i : Nat) : Int)), (4, .string r)]) (fun (⟨i, r⟩ : Nat × ByteArray) => []) (fun (⟨i, r⟩ : Nat × ByteArray) => .dblk b (ycells 4 ⟨#[]⟩ ⟨#[]⟩ A0 (2 * L.length) cap0) 150 :: .kids (.slice A0 (2 * L.length) cap0) (L.flatMap prY) :: .node b (RKids 4 (L.flatMap prY)) :: []) (fun (⟨i, r⟩ : Nat × ByteArray) => L.length - i) (0, ⟨#[123, 10]⟩) (⟨by show 0 ≤ _; omega, rfl⟩) (EnvLe.cons rfl (EnvLe.cons rfl (EnvLe.nil _))) rfl rfl ?_ (EnvLe.cons rfl (EnvLe.cons rfl (EnvLe.cons rfl (EnvLe.nil _))))
  intro ⟨i, r⟩ hI K hK
  replace hI : i ≤ L.length ∧ rl r = [123, 10] ++ linesTo (lineM (fun i => rl (Kf i)) R (rl ind)) L.length i := hI
  change Run _ _ _ _ _ [(6, .int .i64 ((2 * i : Nat) : Int)), (4, .string r), (5, _), (0, _), (1, _)] ([]) (.dblk b (ycells 4 ⟨#[]⟩ ⟨#[]⟩ A0 (2 * L.length) cap0) 150 :: .kids (.slice A0 (2 * L.length) cap0) (L.flatMap prY) :: .node b (RKids 4 (L.flatMap prY)) :: [])
  obtain ⟨hi, hr⟩ := hI
  have hrs : r.size = 2 + (linesTo (lineM (fun i => rl (Kf i)) R (rl ind)) L.length i).length := by rw [sz_rl, hr]; simp only [List.length_append, List.length_cons, List.length_nil]
  refine zD (zD ?_)
  refine zB (zA ?_)
  refine zF rfl rfl (zA ?_)
  refine zF rfl rfl (zA ?_)
  refine zH rfl rfl (zA ?_)
  refine zJ fo150_6 rfl rfl (zA ?_)
  refine zN 0 sc148 rfl rfl rfl rfl (zA ?_)
  refine yO sl148 rfl rfl (zA ?_)
  refine xL rfl rfl rfl (zC ?_)
  refine zT rfl (fun h17 => ?_) (fun h17 => ?_)
  · refine zL (zD ?_)
    refine zP (zD ?_)
    refine zB (zA ?_)
    refine zF rfl rfl (zA ?_)
    refine zH rfl rfl (zA ?_)
    refine zJ fo150_6 rfl rfl (zA ?_)
    refine zN 0 sc148 rfl rfl rfl rfl (zA ?_)
    refine zF rfl rfl (zA ?_)
    have hlt : i < L.length := by omega
    have hKi := hK0 i hlt
    have hpart := linesTo_part (f := (lineM (fun i => rl (Kf i)) R (rl ind))) (n := L.length) hlt
    have hfl : ((lineM (fun i => rl (Kf i)) R (rl ind)) i).length = (rl ind).length + (2 + (1 + ((rl (Kf i)).length + (3 + (R i).length)))) := by simp only [lineM, List.length_append, List.length_cons, List.length_nil]
    have hks : L[i].1.size = (rl (Kf i)).length := by rw [hKi]; exact sz_rl _
    refine xY (i := 2 * i) 1 sl148 rfl rfl rfl rfl (by omega) (ops_kid 1 (2 * i) rfl (flat_get0 hlt) (fun b1 => ?_))
    refine ops_nodeM 1 rfl (fun A1 cap1 ht1 hv1 hl1 hc1 => ?_)
    refine zA (xS sc102 rfl rfl (fun _ h => cell_at h (j := 2) rfl) ?_)
    refine zA (zH rfl rfl ?_)
    refine zA (zJ fo150_3 rfl rfl ?_)
    refine zA (zN 0 sc9 rfl rfl rfl rfl ?_)
    refine zA (zE rfl rfl ?_)
    refine zC (zG [7, 6, 4, 5, 0, 1] ?_)
    change Run _ _ _ _ _ [(7, _), (6, _), (4, _), (5, _), (0, _), (1, _)] _ _
    refine zD (zB ?_)
    refine zA (zF rfl rfl ?_)
    refine zA (zF rfl rfl ?_)
    refine zA (xU rfl rfl rfl (by (try simp only [ByteArray.size_append, bs_size, z34, z2, z3, z10, z44, z125, z93, z0]); omega) ?_)
    refine zA (zF rfl rfl ?_)
    refine zA (xU rfl rfl rfl (by (try simp only [ByteArray.size_append, bs_size, z34, z2, z3, z10, z44, z125, z93, z0]); omega) ?_)
    refine zA (xU rfl rfl rfl (by (try simp only [ByteArray.size_append, bs_size, z34, z2, z3, z10, z44, z125, z93, z0]); omega) ?_)
    refine zA (xU rfl rfl rfl (by (try simp only [ByteArray.size_append, bs_size, z34, z2, z3, z10, z44, z125, z93, z0]); omega) ?_)
    refine zA (zE rfl rfl ?_)
    refine zC (zD ?_)
    refine zB (zA ?_)
    refine zF rfl rfl (zA ?_)
    refine zH rfl rfl (zA ?_)
    refine zJ fo150_6 rfl rfl (zA ?_)
    refine zN 4 sc148 rfl rfl rfl rfl (zA ?_)
    refine zF rfl rfl (zA ?_)
    refine xC rfl rfl (by omega) (zA ?_)
    refine xY (i := 2 * i + 1) 5 sl148 rfl rfl rfl rfl (by omega) (ops_kid 5 (2 * i + 1) rfl (flat_get1 hlt) (fun b2 => ?_))
    refine ops_node 1 rfl (fun A2 cap2 ht2 hv2 hl2 hc2 => ?_)
    refine zA (xS sc102 rfl rfl (fun _ h => cell_at h (j := 2) rfl) ?_)
    refine zA (zE rfl rfl ?_)
    refine zC (zG [8, 4, 6, 5, 0, 1] ?_)
    change Run _ _ _ _ _ [(8, _), (4, _), (6, _), (5, _), (0, _), (1, _)] _ _
    refine zD (zD ?_)
    refine zB (zA ?_)
    refine zF rfl rfl (zA ?_)
    refine zH rfl rfl (zA ?_)
    refine zJ fo150_0 rfl rfl (zA ?_)
    refine zN 0 sc146 rfl rfl rfl rfl (zC ?_)
    refine zG [48, 8, 4, 6, 5, 0, 1] ?_
    change Run _ _ _ _ _ [(48, _), (8, _), (4, _), (6, _), (5, _), (0, _), (1, _)] _ _
    refine yU [6, 5, 0, 1] (fun (r2 : ByteArray) => rl r2 = [123, 10] ++ (linesTo (lineM (fun i => rl (Kf i)) R (rl ind)) L.length i ++ (lineM (fun i => rl (Kf i)) R (rl ind)) i)) (fun (r2 : ByteArray) => [(4, .string r2)]) (fun (r2 : ByteArray) => []) (fun (r2 : ByteArray) => .dblk b (ycells 4 ⟨#[]⟩ ⟨#[]⟩ A0 (2 * L.length) cap0) 150 :: .kids (.slice A0 (2 * L.length) cap0) (L.flatMap prY) :: .node b (RKids 4 (L.flatMap prY)) :: []) ?_ ?_
    · intro Kj1 hKj1
      refine zP (zD ?_)
      refine zB (zA ?_)
      refine zZ rfl rfl rfl (zA ?_)
      refine zE rfl rfl (zC ?_)
      refine zT rfl (fun h51 => ?_) (fun h51 => ?_)
      · have hR := (H i hlt).elim (fun h => h.2) (fun h => h.elim (fun h => absurd (h51.symm.trans h.1) (by decide)) (fun h => absurd (h51.symm.trans h.1) (by decide)))
        have hvs : (R i).length ≤ L[i].2.val.size + 2 ∧ L[i].2.val.size ≤ (R i).length := by rw [hR, sz_rl]; split <;> simp <;> omega
        refine zD (zB ?_)
        refine zA (zF rfl rfl ?_)
        refine zA (zH rfl rfl ?_)
        refine zA (zJ fo150_2 rfl rfl ?_)
        refine zA (zN 0 sc9 rfl rfl rfl rfl ?_)
        refine zA (yA rfl rfl rfl ?_)
        refine zC (zT rfl (fun h57 => ?_) (fun h57 => ?_))
        · refine zB (zA ?_)
          refine zF rfl rfl (zA ?_)
          refine zF rfl rfl (zA ?_)
          refine zH rfl rfl (zA ?_)
          refine zJ fo150_3 rfl rfl (zA ?_)
          refine zN 0 sc9 rfl rfl rfl rfl (zA ?_)
          refine xU rfl rfl rfl (by (try simp only [ByteArray.size_append, bs_size, z34, z2, z3, z10, z44, z125, z93, z0]); omega) (zA ?_)
          refine zE rfl rfl (zC ?_)
          refine zG [4, 6, 5, 0, 1] ?_
          change Run _ _ _ _ _ [(4, _), (6, _), (5, _), (0, _), (1, _)] _ _
          refine zQ ?_
          exact kQ (hKj1 _ (by show rl _ = _; simp only [hr, hR, if_pos h57, hKi, lineM, rl_app, rl34, rl2, rl3, rl10, rl44, rl125, rl93, rl0, rl123, rl91, rl_bs, List.append_assoc, List.append_nil, List.nil_append])) (EnvLe.cons rfl (EnvLe.cons rfl (EnvLe.cons rfl (EnvLe.cons rfl (EnvLe.cons rfl (EnvLe.nil _))))))
        refine zB (zA ?_)
        refine zF rfl rfl (zA ?_)
        refine zF rfl rfl (zA ?_)
        refine zH rfl rfl (zA ?_)
        refine zJ fo150_3 rfl rfl (zA ?_)
        refine zN 0 sc9 rfl rfl rfl rfl (zA ?_)
        refine xU rfl rfl rfl (by (try simp only [ByteArray.size_append, bs_size, z34, z2, z3, z10, z44, z125, z93, z0]); omega) (zA ?_)
        refine xU rfl rfl rfl (by (try simp only [ByteArray.size_append, bs_size, z34, z2, z3, z10, z44, z125, z93, z0]); omega) (zA ?_)
        refine xU rfl rfl rfl (by (try simp only [ByteArray.size_append, bs_size, z34, z2, z3, z10, z44, z125, z93, z0]); omega) (zA ?_)
        refine zE rfl rfl (zC ?_)
        refine zG [4, 6, 5, 0, 1] ?_
        change Run _ _ _ _ _ [(4, _), (6, _), (5, _), (0, _), (1, _)] _ _
        refine zQ ?_
        exact kQ (hKj1 _ (by show rl _ = _; simp only [hr, hR, if_neg h57, hKi, lineM, rl_app, rl34, rl2, rl3, rl10, rl44, rl125, rl93, rl0, rl123, rl91, rl_bs, List.append_assoc, List.append_nil, List.nil_append])) (EnvLe.cons rfl (EnvLe.cons rfl (EnvLe.cons rfl (EnvLe.cons rfl (EnvLe.cons rfl (EnvLe.nil _))))))
      refine zD (zB ?_)
      refine zA (zZ rfl rfl rfl ?_)
      refine zA (zE rfl rfl ?_)
      refine zC (zT rfl (fun h72 => ?_) (fun h72 => ?_))
      · refine zB (zA ?_)
        refine zF rfl rfl (zA ?_)
        refine zF rfl rfl (zA ?_)
        refine zF rfl rfl (zA ?_)
        refine yF rfl rfl rfl ((H i hlt).elim (fun h => absurd h.1 h51) (fun h => h.elim (fun h => h.2 b2) (fun h => absurd (h72.symm.trans h.1) (by decide)))) (sub1 3 rfl) (zA ?_)
        refine xU rfl rfl rfl (by (try simp only [ByteArray.size_append, bs_size, z34, z2, z3, z10, z44, z125, z93, z0]); omega) (zA ?_)
        refine zE rfl rfl (zC ?_)
        refine zG [4, 6, 5, 0, 1] ?_
        change Run _ _ _ _ _ [(4, _), (6, _), (5, _), (0, _), (1, _)] _ _
        refine zQ ?_
        exact kQ (hKj1 _ (by show rl _ = _; simp only [hr, hKi, lineM, rl_app, rl34, rl2, rl3, rl10, rl44, rl125, rl93, rl0, rl123, rl91, rl_bs, List.append_assoc, List.append_nil, List.nil_append])) (EnvLe.cons rfl (EnvLe.cons rfl (EnvLe.cons rfl (EnvLe.cons rfl (EnvLe.cons rfl (EnvLe.nil _))))))
      refine zD (zB ?_)
      refine zA (zZ rfl rfl rfl ?_)
      refine zA (zE rfl rfl ?_)
      refine zC (zT rfl (fun h79 => ?_) (fun h79 => ?_))
      · refine zB (zA ?_)
        refine zF rfl rfl (zA ?_)
        refine zF rfl rfl (zA ?_)
        refine zF rfl rfl (zA ?_)
        refine yF rfl rfl rfl ((H i hlt).elim (fun h => absurd h.1 h51) (fun h => h.elim (fun h => absurd h.1 h72) (fun h => h.2 b2))) (sub1 3 rfl) (zA ?_)
        refine xU rfl rfl rfl (by (try simp only [ByteArray.size_append, bs_size, z34, z2, z3, z10, z44, z125, z93, z0]); omega) (zA ?_)
        refine zE rfl rfl (zC ?_)
        refine zG [4, 6, 5, 0, 1] ?_
        change Run _ _ _ _ _ [(4, _), (6, _), (5, _), (0, _), (1, _)] _ _
        refine zQ ?_
        exact kQ (hKj1 _ (by show rl _ = _; simp only [hr, hKi, lineM, rl_app, rl34, rl2, rl3, rl10, rl44, rl125, rl93, rl0, rl123, rl91, rl_bs, List.append_assoc, List.append_nil, List.nil_append])) (EnvLe.cons rfl (EnvLe.cons rfl (EnvLe.cons rfl (EnvLe.cons rfl (EnvLe.cons rfl (EnvLe.nil _))))))
      exact False.elim ((H i hlt).elim (fun h => h51 h.1) (fun h => h.elim (fun h => h72 h.1) (fun h => h79 h.1)))
    intro r2 hI
    replace hI : rl r2 = [123, 10] ++ (linesTo (lineM (fun i => rl (Kf i)) R (rl ind)) L.length i ++ (lineM (fun i => rl (Kf i)) R (rl ind)) i) := hI
    change Run _ _ _ _ _ [(4, .string r2), (6, _), (5, _), (0, _), (1, _)] ([]) (.dblk b (ycells 4 ⟨#[]⟩ ⟨#[]⟩ A0 (2 * L.length) cap0) 150 :: .kids (.slice A0 (2 * L.length) cap0) (L.flatMap prY) :: .node b (RKids 4 (L.flatMap prY)) :: [])
    have hr2 := hI
    have hrs2 : r2.size = 2 + ((linesTo (lineM (fun i => rl (Kf i)) R (rl ind)) L.length i).length + ((lineM (fun i => rl (Kf i)) R (rl ind)) i).length) := by rw [sz_rl, hr2]; simp only [List.length_append, List.length_cons, List.length_nil]
    refine zD (zD ?_)
    refine zB (zA ?_)
    refine zF rfl rfl (zA ?_)
    refine zF rfl rfl (zA ?_)
    refine zH rfl rfl (zA ?_)
    refine zJ fo150_6 rfl rfl (zA ?_)
    refine zN 0 sc148 rfl rfl rfl rfl (zA ?_)
    refine yO sl148 rfl rfl (zA ?_)
    refine op_subF (s := ((2 * L.length : Nat) : Int) - 2) rfl rfl rfl rfl (by omega) (by omega) (zA ?_)
    refine op_lss rfl rfl rfl (zC ?_)
    refine zG [93, 4, 6, 5, 0, 1] ?_
    change Run _ _ _ _ _ [(93, _), (4, _), (6, _), (5, _), (0, _), (1, _)] _ _
    refine yU [6, 5, 0, 1] (fun (r3 : ByteArray) => rl r3 = [123, 10] ++ (linesTo (lineM (fun i => rl (Kf i)) R (rl ind)) L.length i ++ ((lineM (fun i => rl (Kf i)) R (rl ind)) i ++ (if i + 1 < L.length then [44] else [])))) (fun (r3 : ByteArray) => [(4, .string r3)]) (fun (r3 : ByteArray) => []) (fun (r3 : ByteArray) => .dblk b (ycells 4 ⟨#[]⟩ ⟨#[]⟩ A0 (2 * L.length) cap0) 150 :: .kids (.slice A0 (2 * L.length) cap0) (L.flatMap prY) :: .node b (RKids 4 (L.flatMap prY)) :: []) ?_ ?_
    · intro Kj2 hKj2
      refine zT rfl (fun h93 => ?_) (fun h93 => ?_)
      · refine zB (zA ?_)
        refine zF rfl rfl (zA ?_)
        refine xU rfl rfl rfl (by (try simp only [ByteArray.size_append, bs_size, z34, z2, z3, z10, z44, z125, z93, z0]); omega) (zA ?_)
        refine zE rfl rfl (zC ?_)
        exact kQ (hKj2 _ (by show rl _ = _; rw [if_pos (by omega)]; simp only [hr2, rl_app, rl34, rl2, rl3, rl10, rl44, rl125, rl93, rl0, rl123, rl91, rl_bs, List.append_assoc, List.append_nil, List.nil_append])) (EnvLe.cons rfl (EnvLe.cons rfl (EnvLe.cons rfl (EnvLe.cons rfl (EnvLe.cons rfl (EnvLe.nil _))))))
      refine zL ?_
      exact kQ (hKj2 _ (by show rl _ = _; rw [if_neg (by omega)]; simp only [hr2, rl_app, rl34, rl2, rl3, rl10, rl44, rl125, rl93, rl0, rl123, rl91, rl_bs, List.append_assoc, List.append_nil, List.nil_append])) (EnvLe.cons rfl (EnvLe.cons rfl (EnvLe.cons rfl (EnvLe.cons rfl (EnvLe.cons rfl (EnvLe.nil _))))))
    intro r3 hI
    replace hI : rl r3 = [123, 10] ++ (linesTo (lineM (fun i => rl (Kf i)) R (rl ind)) L.length i ++ ((lineM (fun i => rl (Kf i)) R (rl ind)) i ++ (if i + 1 < L.length then [44] else []))) := hI
    change Run _ _ _ _ _ [(4, .string r3), (6, _), (5, _), (0, _), (1, _)] ([]) (.dblk b (ycells 4 ⟨#[]⟩ ⟨#[]⟩ A0 (2 * L.length) cap0) 150 :: .kids (.slice A0 (2 * L.length) cap0) (L.flatMap prY) :: .node b (RKids 4 (L.flatMap prY)) :: [])
    have hr3 := hI
    have hrs3 : r3.size ≤ 3 + ((linesTo (lineM (fun i => rl (Kf i)) R (rl ind)) L.length i).length + ((lineM (fun i => rl (Kf i)) R (rl ind)) i).length) := by rw [sz_rl, hr3]; split <;> simp only [List.length_append, List.length_cons, List.length_nil] <;> omega
    refine zB (zA ?_)
    refine zF rfl rfl (zA ?_)
    refine xU rfl rfl rfl (by (try simp only [ByteArray.size_append, bs_size, z34, z2, z3, z10, z44, z125, z93, z0]); omega) (zA ?_)
    refine zE rfl rfl (zC ?_)
    refine zQ (zB ?_)
    refine zA (zF rfl rfl ?_)
    refine zA (xM (s := ((2 * (i + 1) : Nat) : Int)) rfl rfl rfl (by omega) (by omega) (by omega) ?_)
    refine zA (zE rfl rfl ?_)
    refine zC ?_
    exact kQ (hK (i + 1, _) (⟨by show i + 1 ≤ _; omega, by show rl _ = _; simp only [linesTo, hr3, rl_app, rl34, rl2, rl3, rl10, rl44, rl125, rl93, rl0, rl123, rl91, rl_bs, List.append_assoc, List.append_nil, List.nil_append]⟩) (by show L.length - (i + 1) < L.length - i; omega)) (EnvLe.cons rfl (EnvLe.cons rfl (EnvLe.cons rfl (EnvLe.cons rfl (EnvLe.cons rfl (EnvLe.nil _))))))
  obtain rfl : i = L.length := by omega
  refine yL rfl (zD ?_)
  refine zB (zA ?_)
  refine zF rfl rfl (zA ?_)
  refine zF rfl rfl (zA ?_)
  refine xU rfl rfl rfl (by (try simp only [ByteArray.size_append, bs_size, z34, z2, z3, z10, z44, z125, z93, z0]); omega) (zA ?_)
  refine xU rfl rfl rfl (by (try simp only [ByteArray.size_append, bs_size, z34, z2, z3, z10, z44, z125, z93, z0]); omega) (zA ?_)
  refine zE rfl rfl (zC ?_)
  refine zG [4] ?_
  change Run _ _ _ _ _ [(4, _)] _ _
  refine zD (zB ?_)
  refine zA (zF rfl rfl ?_)
  refine zA (zE rfl rfl ?_)
  refine zC ?_
  exact zK Tryz.results164 rfl ⟨congrArg Value.string (bs_of (by simp only [rendM, hr, rl_app, rl34, rl2, rl3, rl10, rl44, rl125, rl93, rl0, rl123, rl91, rl_bs, List.append_assoc, List.append_nil, List.nil_append])), rfl, rfl⟩ (List.nil_sublist _) (fun _ h => by cases h)
theorem c165w (b : Nat) (ind : ByteArray) (L : List Y) (R : Nat → List UInt8) (hl : L.length ≤ 1000000)
    (H : ∀ i (h : i < L.length), (L[i].kind = 8 ∧ R i = (if L[i].tag = tBool then rl L[i].val else [34] ++ (rl L[i].val ++ [34]))) ∨ (L[i].kind = 4 ∧ ∀ vb, CtV Tryz.prog 164 #[ptr vb, .string (ind ++ ⟨#[32, 32]⟩)] [.node vb L[i]] (.string (bs (R i)))))
    (hB : (rendL R (rl ind) L.length).length ≤ 1000000000000000000) : CtV Tryz.prog 165 #[ptr b, .string ind] [.node b (RKids 2 L)] (.string (bs (rendL R (rl ind) L.length))) := by
  refine Ct.of_run (args := [ptr b, .string ind]) Tryz.func165 (by kernel_rfl) rfl Tryz.ntmps165 rfl (fun c => ?_)
  have z34 : (⟨#[34]⟩ : ByteArray).size = 1 := rfl
  have z2 : (⟨#[32, 32]⟩ : ByteArray).size = 2 := rfl
  have z3 : (⟨#[34, 58, 32]⟩ : ByteArray).size = 3 := rfl
  have z10 : (⟨#[10]⟩ : ByteArray).size = 1 := rfl
  have z44 : (⟨#[44]⟩ : ByteArray).size = 1 := rfl
  have z125 : (⟨#[125]⟩ : ByteArray).size = 1 := rfl
  have z93 : (⟨#[93]⟩ : ByteArray).size = 1 := rfl
  have z0 : (⟨#[]⟩ : ByteArray).size = 0 := rfl
  have hlen : 2 + ((linesTo (lineL R (rl ind)) L.length L.length).length + ((rl ind).length + 1)) ≤ 1000000000000000000 := by simpa only [rendL, List.length_append, List.length_cons, List.length_nil] using hB
  have his : ind.size = (rl ind).length := sz_rl ind
  refine wE 0 rfl (fun A0 cap0 ht0 hv0 hl0 hc0 => ?_)
  unfold maxLen at hc0
  refine zD (zB ?_)
  refine zA (zE rfl rfl ?_)
  refine zC (zD ?_)
  refine zB (zA ?_)
  refine zE rfl rfl (zC ?_)
  refine zD (zB ?_)
  refine zA (zF rfl rfl ?_)
  refine zA (xU rfl rfl rfl (by (try simp only [ByteArray.size_append, bs_size, z34, z2, z3, z10, z44, z125, z93, z0]); omega) ?_)
  refine zA (zE rfl rfl ?_)
  refine zC (zD ?_)
  refine zD (zB ?_)
  refine zA (zE rfl rfl ?_)
  refine zC (zP ?_)
  refine zG [6, 4, 5, 0, 1] ?_
  change Run _ _ _ _ _ [(6, _), (4, _), (5, _), (0, _), (1, _)] _ _
  refine xN 2 (fun (⟨i, r⟩ : Nat × ByteArray) => i ≤ L.length ∧ rl r = [91, 10] ++ linesTo (lineL R (rl ind)) L.length i) (fun (⟨i, r⟩ : Nat × ByteArray) => [(6, .int .i64 ((i : Nat) : Int)), (4, .string r)]) (fun (⟨i, r⟩ : Nat × ByteArray) => []) (fun (⟨i, r⟩ : Nat × ByteArray) => .dblk b (ycells 2 ⟨#[]⟩ ⟨#[]⟩ A0 L.length cap0) 150 :: .kids (.slice A0 L.length cap0) L :: .node b (RKids 2 L) :: []) (fun (⟨i, r⟩ : Nat × ByteArray) => L.length - i) (0, ⟨#[91, 10]⟩) (⟨by show 0 ≤ _; omega, rfl⟩) (EnvLe.cons rfl (EnvLe.cons rfl (EnvLe.nil _))) rfl rfl ?_ (EnvLe.cons rfl (EnvLe.cons rfl (EnvLe.cons rfl (EnvLe.nil _))))
  intro ⟨i, r⟩ hI K hK
  replace hI : i ≤ L.length ∧ rl r = [91, 10] ++ linesTo (lineL R (rl ind)) L.length i := hI
  change Run _ _ _ _ _ [(6, .int .i64 ((i : Nat) : Int)), (4, .string r), (5, _), (0, _), (1, _)] ([]) (.dblk b (ycells 2 ⟨#[]⟩ ⟨#[]⟩ A0 L.length cap0) 150 :: .kids (.slice A0 L.length cap0) L :: .node b (RKids 2 L) :: [])
  obtain ⟨hi, hr⟩ := hI
  have hrs : r.size = 2 + (linesTo (lineL R (rl ind)) L.length i).length := by rw [sz_rl, hr]; simp only [List.length_append, List.length_cons, List.length_nil]
  refine zD (zD ?_)
  refine zB (zA ?_)
  refine zF rfl rfl (zA ?_)
  refine zF rfl rfl (zA ?_)
  refine zH rfl rfl (zA ?_)
  refine zJ fo150_6 rfl rfl (zA ?_)
  refine zN 0 sc148 rfl rfl rfl rfl (zA ?_)
  refine yO sl148 rfl rfl (zA ?_)
  refine xL rfl rfl rfl (zC ?_)
  refine zT rfl (fun h16 => ?_) (fun h16 => ?_)
  · refine zL (zD ?_)
    refine zP (zD ?_)
    refine zB (zA ?_)
    refine zF rfl rfl (zA ?_)
    refine zH rfl rfl (zA ?_)
    refine zJ fo150_6 rfl rfl (zA ?_)
    refine zN 0 sc148 rfl rfl rfl rfl (zA ?_)
    refine zF rfl rfl (zA ?_)
    have hlt : i < L.length := by omega
    have hpart := linesTo_part (f := (lineL R (rl ind))) (n := L.length) hlt
    have hfl : ((lineL R (rl ind)) i).length = (rl ind).length + (2 + (R i).length) := by simp only [lineL, List.length_append, List.length_cons, List.length_nil]
    refine xY (i := i) 1 sl148 rfl rfl rfl rfl (by omega) (ops_kid 1 i rfl (List.getElem?_eq_getElem hlt) (fun b1 => ?_))
    refine ops_node 1 rfl (fun A1 cap1 ht1 hv1 hl1 hc1 => ?_)
    refine zA (xS sc102 rfl rfl (fun _ h => cell_at h (j := 2) rfl) ?_)
    refine zA (zE rfl rfl ?_)
    refine zC (zG [7, 6, 4, 5, 0, 1] ?_)
    change Run _ _ _ _ _ [(7, _), (6, _), (4, _), (5, _), (0, _), (1, _)] _ _
    refine zD (zD ?_)
    refine zB (zA ?_)
    refine zF rfl rfl (zA ?_)
    refine zH rfl rfl (zA ?_)
    refine zJ fo150_0 rfl rfl (zA ?_)
    refine zN 0 sc146 rfl rfl rfl rfl (zC ?_)
    refine zG [29, 7, 6, 4, 5, 0, 1] ?_
    change Run _ _ _ _ _ [(29, _), (7, _), (6, _), (4, _), (5, _), (0, _), (1, _)] _ _
    refine yU [6, 5, 0, 1] (fun (r2 : ByteArray) => rl r2 = [91, 10] ++ (linesTo (lineL R (rl ind)) L.length i ++ (lineL R (rl ind)) i)) (fun (r2 : ByteArray) => [(4, .string r2)]) (fun (r2 : ByteArray) => []) (fun (r2 : ByteArray) => .dblk b (ycells 2 ⟨#[]⟩ ⟨#[]⟩ A0 L.length cap0) 150 :: .kids (.slice A0 L.length cap0) L :: .node b (RKids 2 L) :: []) ?_ ?_
    · intro Kj1 hKj1
      refine zP (zD ?_)
      refine zB (zA ?_)
      refine zZ rfl rfl rfl (zA ?_)
      refine zE rfl rfl (zC ?_)
      refine zT rfl (fun h34 => ?_) (fun h34 => ?_)
      · have hR := (H i hlt).elim (fun h => h.2) (fun h => absurd (h34.symm.trans h.1) (by decide))
        have hvs : (R i).length ≤ L[i].val.size + 2 ∧ L[i].val.size ≤ (R i).length := by rw [hR, sz_rl]; split <;> simp <;> omega
        refine zD (zB ?_)
        refine zA (zF rfl rfl ?_)
        refine zA (zH rfl rfl ?_)
        refine zA (zJ fo150_2 rfl rfl ?_)
        refine zA (zN 0 sc9 rfl rfl rfl rfl ?_)
        refine zA (yA rfl rfl rfl ?_)
        refine zC (zT rfl (fun h40 => ?_) (fun h40 => ?_))
        · refine zB (zA ?_)
          refine zF rfl rfl (zA ?_)
          refine zF rfl rfl (zA ?_)
          refine zF rfl rfl (zA ?_)
          refine zH rfl rfl (zA ?_)
          refine zJ fo150_3 rfl rfl (zA ?_)
          refine zN 0 sc9 rfl rfl rfl rfl (zA ?_)
          refine xU rfl rfl rfl (by (try simp only [ByteArray.size_append, bs_size, z34, z2, z3, z10, z44, z125, z93, z0]); omega) (zA ?_)
          refine xU rfl rfl rfl (by (try simp only [ByteArray.size_append, bs_size, z34, z2, z3, z10, z44, z125, z93, z0]); omega) (zA ?_)
          refine zE rfl rfl (zC ?_)
          refine zG [4, 6, 5, 0, 1] ?_
          change Run _ _ _ _ _ [(4, _), (6, _), (5, _), (0, _), (1, _)] _ _
          refine zQ ?_
          exact kQ (hKj1 _ (by show rl _ = _; simp only [hr, hR, if_pos h40, lineL, rl_app, rl34, rl2, rl3, rl10, rl44, rl125, rl93, rl0, rl123, rl91, rl_bs, List.append_assoc, List.append_nil, List.nil_append])) (EnvLe.cons rfl (EnvLe.cons rfl (EnvLe.cons rfl (EnvLe.cons rfl (EnvLe.cons rfl (EnvLe.nil _))))))
        refine zB (zA ?_)
        refine zF rfl rfl (zA ?_)
        refine zF rfl rfl (zA ?_)
        refine xU rfl rfl rfl (by (try simp only [ByteArray.size_append, bs_size, z34, z2, z3, z10, z44, z125, z93, z0]); omega) (zA ?_)
        refine zF rfl rfl (zA ?_)
        refine zH rfl rfl (zA ?_)
        refine zJ fo150_3 rfl rfl (zA ?_)
        refine zN 0 sc9 rfl rfl rfl rfl (zA ?_)
        refine xU rfl rfl rfl (by (try simp only [ByteArray.size_append, bs_size, z34, z2, z3, z10, z44, z125, z93, z0]); omega) (zA ?_)
        refine xU rfl rfl rfl (by (try simp only [ByteArray.size_append, bs_size, z34, z2, z3, z10, z44, z125, z93, z0]); omega) (zA ?_)
        refine xU rfl rfl rfl (by (try simp only [ByteArray.size_append, bs_size, z34, z2, z3, z10, z44, z125, z93, z0]); omega) (zA ?_)
        refine zE rfl rfl (zC ?_)
        refine zG [4, 6, 5, 0, 1] ?_
        change Run _ _ _ _ _ [(4, _), (6, _), (5, _), (0, _), (1, _)] _ _
        refine zQ ?_
        exact kQ (hKj1 _ (by show rl _ = _; simp only [hr, hR, if_neg h40, lineL, rl_app, rl34, rl2, rl3, rl10, rl44, rl125, rl93, rl0, rl123, rl91, rl_bs, List.append_assoc, List.append_nil, List.nil_append])) (EnvLe.cons rfl (EnvLe.cons rfl (EnvLe.cons rfl (EnvLe.cons rfl (EnvLe.cons rfl (EnvLe.nil _))))))
      refine zD (zB ?_)
      refine zA (zZ rfl rfl rfl ?_)
      refine zA (zE rfl rfl ?_)
      refine zC (zT rfl (fun h59 => ?_) (fun h59 => ?_))
      · refine zB (zA ?_)
        refine zF rfl rfl (zA ?_)
        refine zF rfl rfl (zA ?_)
        refine zF rfl rfl (zA ?_)
        refine zF rfl rfl (zA ?_)
        refine yF rfl rfl rfl ((H i hlt).elim (fun h => absurd h.1 h34) (fun h => h.2 b1)) (sub1 3 rfl) (zA ?_)
        refine xU rfl rfl rfl (by (try simp only [ByteArray.size_append, bs_size, z34, z2, z3, z10, z44, z125, z93, z0]); omega) (zA ?_)
        refine xU rfl rfl rfl (by (try simp only [ByteArray.size_append, bs_size, z34, z2, z3, z10, z44, z125, z93, z0]); omega) (zA ?_)
        refine xU rfl rfl rfl (by (try simp only [ByteArray.size_append, bs_size, z34, z2, z3, z10, z44, z125, z93, z0]); omega) (zA ?_)
        refine zE rfl rfl (zC ?_)
        refine zG [4, 6, 5, 0, 1] ?_
        change Run _ _ _ _ _ [(4, _), (6, _), (5, _), (0, _), (1, _)] _ _
        refine zQ ?_
        exact kQ (hKj1 _ (by show rl _ = _; simp only [hr, lineL, rl_app, rl34, rl2, rl3, rl10, rl44, rl125, rl93, rl0, rl123, rl91, rl_bs, List.append_assoc, List.append_nil, List.nil_append])) (EnvLe.cons rfl (EnvLe.cons rfl (EnvLe.cons rfl (EnvLe.cons rfl (EnvLe.cons rfl (EnvLe.nil _))))))
      exact False.elim ((H i hlt).elim (fun h => h34 h.1) (fun h => h59 h.1))
    intro r2 hI
    replace hI : rl r2 = [91, 10] ++ (linesTo (lineL R (rl ind)) L.length i ++ (lineL R (rl ind)) i) := hI
    change Run _ _ _ _ _ [(4, .string r2), (6, _), (5, _), (0, _), (1, _)] ([]) (.dblk b (ycells 2 ⟨#[]⟩ ⟨#[]⟩ A0 L.length cap0) 150 :: .kids (.slice A0 L.length cap0) L :: .node b (RKids 2 L) :: [])
    have hr2 := hI
    have hrs2 : r2.size = 2 + ((linesTo (lineL R (rl ind)) L.length i).length + ((lineL R (rl ind)) i).length) := by rw [sz_rl, hr2]; simp only [List.length_append, List.length_cons, List.length_nil]
    refine zD (zD ?_)
    refine zB (zA ?_)
    refine zF rfl rfl (zA ?_)
    refine zF rfl rfl (zA ?_)
    refine zH rfl rfl (zA ?_)
    refine zJ fo150_6 rfl rfl (zA ?_)
    refine zN 0 sc148 rfl rfl rfl rfl (zA ?_)
    refine yO sl148 rfl rfl (zA ?_)
    refine op_subF (s := ((L.length : Nat) : Int) - 1) rfl rfl rfl rfl (by omega) (by omega) (zA ?_)
    refine op_lss rfl rfl rfl (zC ?_)
    refine zG [76, 4, 6, 5, 0, 1] ?_
    change Run _ _ _ _ _ [(76, _), (4, _), (6, _), (5, _), (0, _), (1, _)] _ _
    refine yU [6, 5, 0, 1] (fun (r3 : ByteArray) => rl r3 = [91, 10] ++ (linesTo (lineL R (rl ind)) L.length i ++ ((lineL R (rl ind)) i ++ (if i + 1 < L.length then [44] else [])))) (fun (r3 : ByteArray) => [(4, .string r3)]) (fun (r3 : ByteArray) => []) (fun (r3 : ByteArray) => .dblk b (ycells 2 ⟨#[]⟩ ⟨#[]⟩ A0 L.length cap0) 150 :: .kids (.slice A0 L.length cap0) L :: .node b (RKids 2 L) :: []) ?_ ?_
    · intro Kj2 hKj2
      refine zT rfl (fun h76 => ?_) (fun h76 => ?_)
      · refine zB (zA ?_)
        refine zF rfl rfl (zA ?_)
        refine xU rfl rfl rfl (by (try simp only [ByteArray.size_append, bs_size, z34, z2, z3, z10, z44, z125, z93, z0]); omega) (zA ?_)
        refine zE rfl rfl (zC ?_)
        exact kQ (hKj2 _ (by show rl _ = _; rw [if_pos (by omega)]; simp only [hr2, rl_app, rl34, rl2, rl3, rl10, rl44, rl125, rl93, rl0, rl123, rl91, rl_bs, List.append_assoc, List.append_nil, List.nil_append])) (EnvLe.cons rfl (EnvLe.cons rfl (EnvLe.cons rfl (EnvLe.cons rfl (EnvLe.cons rfl (EnvLe.nil _))))))
      refine zL ?_
      exact kQ (hKj2 _ (by show rl _ = _; rw [if_neg (by omega)]; simp only [hr2, rl_app, rl34, rl2, rl3, rl10, rl44, rl125, rl93, rl0, rl123, rl91, rl_bs, List.append_assoc, List.append_nil, List.nil_append])) (EnvLe.cons rfl (EnvLe.cons rfl (EnvLe.cons rfl (EnvLe.cons rfl (EnvLe.cons rfl (EnvLe.nil _))))))
    intro r3 hI
    replace hI : rl r3 = [91, 10] ++ (linesTo (lineL R (rl ind)) L.length i ++ ((lineL R (rl ind)) i ++ (if i + 1 < L.length then [44] else []))) := hI
    change Run _ _ _ _ _ [(4, .string r3), (6, _), (5, _), (0, _), (1, _)] ([]) (.dblk b (ycells 2 ⟨#[]⟩ ⟨#[]⟩ A0 L.length cap0) 150 :: .kids (.slice A0 L.length cap0) L :: .node b (RKids 2 L) :: [])
    have hr3 := hI
    have hrs3 : r3.size ≤ 3 + ((linesTo (lineL R (rl ind)) L.length i).length + ((lineL R (rl ind)) i).length) := by rw [sz_rl, hr3]; split <;> simp only [List.length_append, List.length_cons, List.length_nil] <;> omega
    refine zB (zA ?_)
    refine zF rfl rfl (zA ?_)
    refine xU rfl rfl rfl (by (try simp only [ByteArray.size_append, bs_size, z34, z2, z3, z10, z44, z125, z93, z0]); omega) (zA ?_)
    refine zE rfl rfl (zC ?_)
    refine zQ (zB ?_)
    refine zA (zF rfl rfl ?_)
    refine zA (xC rfl rfl (by omega) ?_)
    refine zA (zE rfl rfl ?_)
    refine zC ?_
    exact kQ (hK (i + 1, _) (⟨by show i + 1 ≤ _; omega, by show rl _ = _; simp only [linesTo, hr3, rl_app, rl34, rl2, rl3, rl10, rl44, rl125, rl93, rl0, rl123, rl91, rl_bs, List.append_assoc, List.append_nil, List.nil_append]⟩) (by show L.length - (i + 1) < L.length - i; omega)) (EnvLe.cons rfl (EnvLe.cons rfl (EnvLe.cons rfl (EnvLe.cons rfl (EnvLe.cons rfl (EnvLe.nil _))))))
  obtain rfl : i = L.length := by omega
  refine yL rfl (zD ?_)
  refine zB (zA ?_)
  refine zF rfl rfl (zA ?_)
  refine zF rfl rfl (zA ?_)
  refine xU rfl rfl rfl (by (try simp only [ByteArray.size_append, bs_size, z34, z2, z3, z10, z44, z125, z93, z0]); omega) (zA ?_)
  refine xU rfl rfl rfl (by (try simp only [ByteArray.size_append, bs_size, z34, z2, z3, z10, z44, z125, z93, z0]); omega) (zA ?_)
  refine zE rfl rfl (zC ?_)
  refine zG [4] ?_
  change Run _ _ _ _ _ [(4, _)] _ _
  refine zD (zB ?_)
  refine zA (zF rfl rfl ?_)
  refine zA (zE rfl rfl ?_)
  refine zC ?_
  exact zK Tryz.results165 rfl ⟨congrArg Value.string (bs_of (by simp only [rendL, hr, rl_app, rl34, rl2, rl3, rl10, rl44, rl125, rl93, rl0, rl123, rl91, rl_bs, List.append_assoc, List.append_nil, List.nil_append])), rfl, rfl⟩ (List.nil_sublist _) (fun _ h => by cases h)
end Go.Jw

namespace Go.Jw
open Go Go.RowKit Go.Proofs
set_option maxRecDepth 8000
theorem imk {q m : Int} {s : ByteArray} {ks : List ByteArray} {ts : List V} : (V.mk q m s ks ts).items = ts := rfl
theorem kmk {q m : Int} {s : ByteArray} {ks : List ByteArray} {ts : List V} : (V.mk q m s ks ts).kind = q := rfl
theorem ymk {q m : Int} {s : ByteArray} {ks : List ByteArray} {ts : List V} : (V.mk q m s ks ts).keys = ks := rfl
theorem tmk {q m : Int} {s : ByteArray} {ks : List ByteArray} {ts : List V} : (V.mk q m s ks ts).text = s := rfl
theorem ju_kind {u : V} (hp : Pl (srtV u)) : 0 ≤ u.kind ∧ u.kind ≤ 6 := by
  rw [← srt_kind u]
  by_cases h : (srtV u).kind = 4 ∨ (srtV u).kind = 5
  · omega
  · have := scal_of hp (by omega) (by omega)
    simp only [IsScal] at this
    omega
theorem nodes_srt (u : V) : Eql u → nodes (srtV u) = nodes u := by
  refine V.indS (p := fun u => Eql u → nodes (srtV u) = nodes u) (fun u IH he => ?_) u
  have hm : (u.items.map srtV).map nodes = u.items.map nodes := by
    rw [List.map_map]
    exact List.map_congr_left fun x hx => IH x (size_item hx) (he.item x hx)
  rw [nodes_eq, nodes_eq u, srtV_eq]
  split
  · rename_i h5
    have hp := (srtP_perm (u.keys.zip (u.items.map srtV))).map Prod.snd
    rw [map_snd_zip (by rw [List.length_map]; exact Nat.le_of_eq (he.len h5).symm)] at hp
    simp only [imk]
    rw [(hp.map nodes).sum_nat, hm]
  · simp only [imk]
    rw [hm]
theorem sum_filter_le {α : Type} (q : α → Bool) (f : α → Nat) (l : List α) : ((l.filter q).map f).sum ≤ (l.map f).sum := by
  induction l with
  | nil => simp
  | cons a l ih =>
    rw [List.filter_cons]
    split
    · simp only [List.map_cons, List.sum_cons]; omega
    · simp only [List.map_cons, List.sum_cons]; omega
theorem sum_map_le {α : Type} {f g : α → Nat} {l : List α} (h : ∀ a ∈ l, f a ≤ g a) : (l.map f).sum ≤ (l.map g).sum := by
  induction l with
  | nil => simp
  | cons a l ih =>
    simp only [List.map_cons, List.sum_cons]
    have := h a List.mem_cons_self
    have := ih fun b hb => h b (List.mem_cons_of_mem _ hb)
    omega
theorem nodes_turn {sh : Int} {g : V → V} {x : V} (h : ∀ y, SizeOf.sizeOf y ≤ SizeOf.sizeOf x → nodes (g y) ≤ nodes y) : nodes (turnV sh g x) ≤ nodes x := by
  have ha : nodes (turnAll g x) ≤ nodes x := by
    rw [nodes_eq, nodes_eq x]
    unfold turnAll
    simp only [imk]
    rw [List.map_map]
    have := sum_map_le (f := nodes ∘ mapKids g) (g := nodes) (l := x.items) fun y hy => by
      simp only [Function.comp]
      unfold mapKids
      split
      · exact h y (Nat.le_of_lt (size_item hy))
      · exact Nat.le_refl _
    omega
  unfold turnV
  split
  · exact h x (Nat.le_refl _)
  split
  · split
    · exact h x (Nat.le_refl _)
    · exact Nat.le_refl _
  split
  · split
    · exact h x (Nat.le_refl _)
    · exact ha
  split
  · exact ha
  · exact Nat.le_refl _
theorem zip_snd_sum {α β : Type} (f : β → Nat) : ∀ (l : List α) (l' : List β), ((l.zip l').map fun p => f p.2).sum ≤ (l'.map f).sum
  | [], l' => by simp
  | a :: l, [] => by simp
  | a :: l, b :: l' => by
    have := zip_snd_sum f l l'
    simp only [List.zip_cons_cons, List.map_cons, List.sum_cons]
    omega
theorem nodes_wr (v : V) : nodes (wr v) ≤ nodes v := by
  refine V.indS (p := fun v => nodes (wr v) ≤ nodes v) (fun v IH => ?_) v
  rw [nodes_eq, nodes_eq v, wr_eq]
  unfold filterV
  simp only [imk]
  rw [List.map_map]
  have h1 := sum_map_le (f := nodes ∘ fun p : ByteArray × V => turnV (shapeOf p.1) wr p.2) (g := fun p => nodes p.2) (l := (v.keys.zip v.items).filter (fun p => isWr p.1)) fun p hp => by
    have hm := (List.of_mem_zip (List.mem_filter.1 hp).1).2
    exact nodes_turn fun y hy => IH y (Nat.lt_of_le_of_lt hy (size_item hm))
  have h2 := sum_filter_le (fun p : ByteArray × V => isWr p.1) (fun p => nodes p.2) (v.keys.zip v.items)
  have h3 := zip_snd_sum nodes v.keys v.items
  omega
theorem outY_kind {u : V} (h0 : 0 ≤ u.kind) (h6 : u.kind ≤ 6) : (outY u).kind = if u.kind = 4 then 2 else if u.kind = 5 then 4 else 8 := by
  rw [outY_eq]
  split
  · rename_i h; first | rfl | (rw [h]; rfl)
  split
  · rename_i h; first | rfl | (rw [h]; rfl)
  split
  · rename_i h; first | rfl | (rw [h]; rfl)
  split
  · rename_i h; first | rfl | (rw [h]; rfl)
  split
  · rename_i h; first | rfl | (rw [h]; rfl)
  split
  · rename_i h; first | rfl | (rw [h]; rfl)
  · rfl
theorem getD_at {α : Type} {l : List α} {i : Nat} {d : α} (h : i < l.length) : l.getD i d = l[i] := by rw [List.getD_eq_getElem?_getD, List.getElem?_eq_getElem h, Option.getD_some]
theorem rend5 {u : V} (h : u.kind = 5) (ind : List UInt8) : rend u ind = rendM (fun i => rl (u.keys.getD i ⟨#[]⟩)) (fun i => rend (u.items.getD i zV0) (ind ++ [32, 32])) ind u.items.length := by
  rw [rend_eq]; simp [h]
theorem rend4 {u : V} (h : u.kind = 4) (ind : List UInt8) : rend u ind = rendL (fun i => rend (u.items.getD i zV0) (ind ++ [32, 32])) ind u.items.length := by
  rw [rend_eq]; simp [h]
theorem rend_scal {x : V} (h : x.kind = 1 ∨ x.kind = 3) (ind : List UInt8) : (outY x).kind = 8 ∧ rend x ind = (if (outY x).tag = tBool then rl (outY x).val else [34] ++ (rl (outY x).val ++ [34])) := by
  rw [rend_eq, outY_eq]
  rcases h with h | h
  · rw [if_pos h, if_pos h]
    exact ⟨rfl, (if_pos rfl).symm⟩
  · rw [if_neg (by omega), if_pos h, if_neg (by omega), if_neg (by omega), if_neg (by omega), if_pos h]
    exact ⟨rfl, (if_neg (by simp only [scal, Y.tag]; decide)).symm⟩
/-- The renderer's contract. -/
theorem c_rend (u : V) : Pl (srtV u) → Eql u → IsPrint (srtV u) → (u.kind = 5 → ∀ b ind, (rend u (rl ind)).length ≤ 1000000000000000000 → CtV Tryz.prog 164 #[ptr b, .string ind] [.node b (outY u)] (.string (bs (rend u (rl ind))))) ∧
    (u.kind = 4 → ∀ b ind, (rend u (rl ind)).length ≤ 1000000000000000000 → CtV Tryz.prog 165 #[ptr b, .string ind] [.node b (outY u)] (.string (bs (rend u (rl ind))))) := by
  refine V.indS (p := fun u => Pl (srtV u) → Eql u → IsPrint (srtV u) → (u.kind = 5 → ∀ b ind, (rend u (rl ind)).length ≤ 1000000000000000000 → CtV Tryz.prog 164 #[ptr b, .string ind] [.node b (outY u)] (.string (bs (rend u (rl ind))))) ∧
    (u.kind = 4 → ∀ b ind, (rend u (rl ind)).length ≤ 1000000000000000000 → CtV Tryz.prog 165 #[ptr b, .string ind] [.node b (outY u)] (.string (bs (rend u (rl ind)))))) (fun u IH hp he hi => ?_) u
  have hk := ju_kind hp
  have hip := (isPrint_iff _).1 hi
  have hitem : u.kind ≠ 3 → ∀ x ∈ u.items, IsPrint (srtV x) ∧ ¬ (u.kind = 4 ∧ x.kind = 4) := fun h3 x hx => by
    have h1 := (hip.2.2.2.2 (by rw [srt_kind]; exact h3)).2 _ (srt_item he hx)
    rw [srt_kind, srt_kind] at h1
    exact h1
  refine ⟨fun h5 b ind hB => ?_, fun h4 b ind hB => ?_⟩
  · obtain ⟨hu, hl, h60, hnd, hkw, hit⟩ := ju_m hp he h5
    have hy : outY u = RKids 4 ((u.keys.zip (u.items.map outY)).flatMap prY) := by rw [outY_eq]; simp [h5]
    have hll : (u.keys.zip (u.items.map outY)).length = u.items.length := by simp; omega
    rw [hy]
    rw [rend5 h5] at hB ⊢
    have hw := c164w b ind (u.keys.zip (u.items.map outY)) (fun i => u.keys.getD i ⟨#[]⟩) (fun i => rend (u.items.getD i zV0) (rl ind ++ [32, 32])) (by omega) (fun i h => by
      rw [List.getElem_zip]
      exact getD_at (by omega)) (fun i h => by
      have hlt : i < u.items.length := by omega
      have e1 : (u.keys.zip (u.items.map outY))[i].2 = outY u.items[i] := by rw [List.getElem_zip]; simp
      have e2 : u.items.getD i zV0 = u.items[i] := getD_at hlt
      rw [e1, e2]
      have hm := List.getElem_mem hlt
      obtain ⟨hpx, hex⟩ := hit _ hm
      obtain ⟨hix, _⟩ := hitem (by omega) _ hm
      have hkx := ju_kind hpx
      have hpr := (isPrint_iff _).1 hix
      rw [srt_kind] at hpr
      have hBx : (rend u.items[i] (rl ind ++ [32, 32])).length ≤ 1000000000000000000 := by
        have := linesTo_part (f := lineM (fun i => rl (u.keys.getD i ⟨#[]⟩)) (fun i => rend (u.items.getD i zV0) (rl ind ++ [32, 32])) (rl ind)) (n := u.items.length) hlt
        simp only [rendM, List.length_append] at hB
        simp only [lineM, List.length_append, e2] at this
        omega
      have hri : rl (ind ++ ⟨#[32, 32]⟩) = rl ind ++ [32, 32] := by rw [rl_app]; rfl
      by_cases h4x : u.items[i].kind = 4
      · right; right
        refine ⟨by rw [outY_kind hkx.1 hkx.2, if_pos h4x], fun vb => ?_⟩
        have := (IH _ (size_item hm) hpx hex hix).2 h4x vb (ind ++ ⟨#[32, 32]⟩) (by rw [hri]; exact hBx)
        rw [hri] at this
        exact this
      · by_cases h5x : u.items[i].kind = 5
        · right; left
          refine ⟨by rw [outY_kind hkx.1 hkx.2, if_neg h4x, if_pos h5x], fun vb => ?_⟩
          have := (IH _ (size_item hm) hpx hex hix).1 h5x vb (ind ++ ⟨#[32, 32]⟩) (by rw [hri]; exact hBx)
          rw [hri] at this
          exact this
        · left
          exact rend_scal (by omega) _) (by rw [hll]; exact hB)
    rw [hll] at hw
    exact hw
  · obtain ⟨hu, h60, hit⟩ := ju_l hp he h4
    have hll : (u.items.map outY).length = u.items.length := by simp
    rw [outY_list h4]
    rw [rend4 h4] at hB ⊢
    have hw := c165w b ind (u.items.map outY) (fun i => rend (u.items.getD i zV0) (rl ind ++ [32, 32])) (by omega) (fun i h => by
      have hlt : i < u.items.length := by omega
      have e1 : (u.items.map outY)[i] = outY u.items[i] := by simp
      have e2 : u.items.getD i zV0 = u.items[i] := getD_at hlt
      rw [e1, e2]
      have hm := List.getElem_mem hlt
      obtain ⟨hpx, hex⟩ := hit _ hm
      obtain ⟨hix, h44⟩ := hitem (by omega) _ hm
      have hkx := ju_kind hpx
      have hpr := (isPrint_iff _).1 hix
      rw [srt_kind] at hpr
      have hBx : (rend u.items[i] (rl ind ++ [32, 32])).length ≤ 1000000000000000000 := by
        have := linesTo_part (f := lineL (fun i => rend (u.items.getD i zV0) (rl ind ++ [32, 32])) (rl ind)) (n := u.items.length) hlt
        simp only [rendL, List.length_append] at hB
        simp only [lineL, List.length_append, e2] at this
        omega
      have hri : rl (ind ++ ⟨#[32, 32]⟩) = rl ind ++ [32, 32] := by rw [rl_app]; rfl
      have h4x : ¬ u.items[i].kind = 4 := fun h => h44 ⟨h4, h⟩
      by_cases h5x : u.items[i].kind = 5
      · right
        refine ⟨by rw [outY_kind hkx.1 hkx.2, if_neg h4x, if_pos h5x], fun vb => ?_⟩
        have := (IH _ (size_item hm) hpx hex hix).1 h5x vb (ind ++ ⟨#[32, 32]⟩) (by rw [hri]; exact hBx)
        rw [hri] at this
        exact this
      · left
        exact rend_scal (by omega) _) (by rw [hll]; exact hB)
    rw [hll] at hw
    exact hw
/-- What is printed of a schema that is printed. -/
theorem print_turn {sh : Int} {g g' : V → V} {x : V} (hg : ∀ y, (g y).kind = 5) (hg' : ∀ y, (g' y).kind = 5) (h : ∀ y, SizeOf.sizeOf y ≤ SizeOf.sizeOf x → IsPrint (g y) → IsPrint (g' y)) (hx : IsPrint (turnV sh g x)) : IsPrint (turnV sh g' x) := by
  have ha : IsPrint (turnAll g x) → IsPrint (turnAll g' x) := by
    intro h1
    rw [isPrint_iff] at h1 ⊢
    unfold turnAll at h1 ⊢
    simp only [kmk, ymk, imk, tmk] at h1 ⊢
    refine ⟨h1.1, h1.2.1, h1.2.2.1, h1.2.2.2.1, fun h3 => ⟨(h1.2.2.2.2 h3).1, fun y hy => ?_⟩⟩
    obtain ⟨z, hz, rfl⟩ := List.mem_map.1 hy
    have := (h1.2.2.2.2 h3).2 _ (List.mem_map.2 ⟨z, hz, rfl⟩)
    unfold mapKids at this ⊢
    split
    · rename_i hk
      rw [if_pos hk] at this
      exact ⟨h z (Nat.le_of_lt (size_item hz)) this.1, by rw [hg']; omega⟩
    · rename_i hk
      rw [if_neg hk] at this
      exact this
  unfold turnV at hx ⊢
  split
  · rename_i h5
    rw [if_pos h5] at hx
    exact h x (Nat.le_refl _) hx
  rename_i h5
  rw [if_neg h5] at hx
  split
  · rename_i h6
    rw [if_pos h6] at hx
    split
    · rename_i hk
      rw [if_pos hk] at hx
      exact h x (Nat.le_refl _) hx
    · rename_i hk
      rw [if_neg hk] at hx
      exact hx
  rename_i h6
  rw [if_neg h6] at hx
  split
  · rename_i h7
    rw [if_pos h7] at hx
    split
    · rename_i hk
      rw [if_pos hk] at hx
      exact h x (Nat.le_refl _) hx
    · rename_i hk
      rw [if_neg hk] at hx
      exact ha hx
  rename_i h7
  rw [if_neg h7] at hx
  split
  · rename_i h9
    rw [if_pos h9] at hx
    exact ha hx
  · rename_i h9
    rw [if_neg h9] at hx
    exact hx
theorem print_wr (v : V) : IsPrint (normalV v) → IsPrint (wr v) := by
  refine V.indS (p := fun v => IsPrint (normalV v) → IsPrint (wr v)) (fun v IH h => ?_) v
  rw [normalV_eq, isPrint_iff] at h
  rw [wr_eq, isPrint_iff]
  unfold filterV at h ⊢
  simp only [kmk, ymk, imk, tmk] at h ⊢
  obtain ⟨h1, h2, h3, h4, h5⟩ := h
  obtain ⟨h6, h7⟩ := h5 (by decide)
  have sub : ∀ p, p ∈ (v.keys.zip v.items).filter (fun p => isWr p.1) → p ∈ (v.keys.zip v.items).filter (fun p => isKw p.1) := fun p hp => by
    obtain ⟨a, b⟩ := List.mem_filter.1 hp
    refine List.mem_filter.2 ⟨a, ?_⟩
    unfold isWr at b
    exact (Bool.and_eq_true _ _ ▸ b).1
  refine ⟨h1, h2, h3, h4, fun _ => ⟨fun s hs => ?_, fun x hx => ?_⟩⟩
  · obtain ⟨p, hp, rfl⟩ := List.mem_map.1 hs
    exact h6 _ (List.mem_map.2 ⟨p, sub p hp, rfl⟩)
  · obtain ⟨p, hp, rfl⟩ := List.mem_map.1 hx
    have hpp := sub p hp
    have := (h7 _ (List.mem_map.2 ⟨p, hpp, rfl⟩)).1
    refine ⟨print_turn normal_kind wr_kind (fun y hy hyp => IH y ?_ hyp) this, fun hc => absurd hc.1 (by decide)⟩
    exact Nat.lt_of_le_of_lt hy (size_item (List.of_mem_zip (List.mem_filter.1 hp).1).2)
end Go.Jw

namespace Go.Jw
open Go Go.RowKit Go.Proofs
set_option maxRecDepth 8000
theorem keysOk_mk {ks : List ByteArray} (hw : ∀ k ∈ ks, IsWord k) (h : ks.Pairwise (fun a b => rl a < rl b)) : KeysOk ks := by
  intro i hi
  refine ⟨hw _ (List.getElem_mem hi), fun h0 => ?_⟩
  have hlt := (List.pairwise_iff_getElem.1 h) (i - 1) i (by omega) hi (by omega)
  refine ⟨?_, fun e => ?_⟩
  · rw [less_lt, rl_toList, rl_toList]
    exact decide_eq_false fun h2 => List.lt_irrefl _ (List.lt_trans hlt h2)
  · rw [e] at hlt
    exact List.lt_irrefl _ hlt
theorem keysOk_word {ks : List ByteArray} (h : KeysOk ks) : ∀ k ∈ ks, IsWord k := by
  intro k hk
  obtain ⟨i, hi, rfl⟩ := List.getElem_of_mem hk
  exact (h i hi).1
theorem plain_all {d : Nat} {g : V → V} {x : V} (h : ∀ y ∈ x.items, y.kind = 5 → ∀ d, IsPlain d y → IsPlain d (g y)) (hx : IsPlain d x) (hk : x.kind = 4 ∨ x.kind = 5) : IsPlain d (turnAll g x) := by
  obtain ⟨q, m, s, ks, ts⟩ := x
  cases d with
  | zero => exact absurd hx (plain_head0 hk)
  | succ d =>
    obtain ⟨⟨h1, h2, h3⟩, h4, h5⟩ := (plain_head hk).1 hx
    unfold turnAll
    simp only [kmk, ymk, imk] at h hk ⊢
    refine (plain_head hk).2 ⟨⟨rfl, rfl, ?_⟩, by simpa using h4, fun y hy => ?_⟩
    · rw [List.length_map]; exact h3
    · obtain ⟨z, hz, rfl⟩ := List.mem_map.1 hy
      unfold mapKids
      split
      · rename_i hk5
        exact h z hz hk5 d (h5 z hz)
      · exact h5 z hz
theorem plain_turn {d : Nat} {sh : Int} {g : V → V} {x : V} (hf : FitLoc sh x) (h : ∀ y ∈ kidsOf sh x, ∀ d, IsPlain d y → IsPlain d (g y)) (hx : IsPlain d x) : IsPlain d (turnV sh g x) := by
  unfold turnV
  split
  · rename_i h5
    exact h x (by simp [kidsOf, h5]) d hx
  split
  · rename_i h6
    split
    · rename_i hk
      exact h x (by rw [h6, kids6 hk]; simp) d hx
    · exact hx
  split
  · rename_i h7
    subst h7
    split
    · rename_i hk
      exact h x (by rw [kids7 hk]; simp) d hx
    · rename_i hk
      have hf' : x.kind = 5 ∨ (x.kind = 4 ∧ ∀ x' ∈ x.items, x'.kind = 5) := by simpa [FitLoc] using hf
      have h4 : x.kind = 4 ∧ ∀ x' ∈ x.items, x'.kind = 5 := hf'.elim (fun e => absurd e hk) id
      exact plain_all (fun y hy _ => h y (by rw [kids7l h4.1 h4.2]; exact hy)) hx (.inl h4.1)
  split
  · rename_i h9
    rcases h9 with h9 | h9
    · subst h9
      have hf' : x.kind = 5 ∧ ∀ x' ∈ x.items, x'.kind = 5 := by simpa [FitLoc] using hf
      exact plain_all (fun y hy _ => h y (by rw [kids9 hf'.2]; exact hy)) hx (.inr hf'.1)
    · subst h9
      have hf' : x.kind = 4 ∧ ∀ x' ∈ x.items, x'.kind = 5 := by simpa [FitLoc] using hf
      exact plain_all (fun y hy _ => h y (by rw [kids13 hf'.2]; exact hy)) hx (.inl hf'.1)
  · exact hx
theorem plain_wr (v : V) : IsShape v → ∀ d, IsPlain d v → IsPlain d (wr v) := by
  refine V.indS (p := fun v => IsShape v → ∀ d, IsPlain d v → IsPlain d (wr v)) (fun v IH hs d hp => ?_) v
  have hk5 := hs.kind
  have hfit := ((isShape_iff v).1 hs).2
  have hPl : Pl v := ⟨d, hp⟩
  have hko := hPl.keys hk5
  obtain ⟨he, hl, hsort⟩ := plain_m hPl hk5
  rw [wr_eq]
  unfold filterV
  cases d with
  | zero =>
    obtain ⟨q, m, s, ks, ts⟩ := v
    exact absurd hp (plain_head0 (.inr hk5))
  | succ d =>
    have hpi : v.items.length ≤ 60 ∧ ∀ x ∈ v.items, IsPlain d x := by
      obtain ⟨q, m, s, ks, ts⟩ := v
      exact ((plain_head (.inr hk5)).1 hp).2
    have hfl : ((v.keys.zip v.items).filter (fun p => isWr p.1)).length ≤ v.items.length := by
      have := List.length_filter_le (fun p : ByteArray × V => isWr p.1) (v.keys.zip v.items)
      rw [List.length_zip] at this
      omega
    refine (plain_head (.inr rfl)).2 ⟨⟨rfl, rfl, .inr ⟨rfl, by simp, ?_⟩⟩, by rw [List.length_map]; omega, fun x hx => ?_⟩
    · refine keysOk_mk (fun k hk => ?_) ?_
      · obtain ⟨p, hpm, rfl⟩ := List.mem_map.1 hk
        exact keysOk_word hko _ (List.of_mem_zip (List.mem_filter.1 hpm).1).1
      · rw [List.pairwise_map]
        exact (zip_pw hsort).sublist List.filter_sublist
    · obtain ⟨p, hpm, rfl⟩ := List.mem_map.1 hx
      have hz := (List.mem_filter.1 hpm).1
      obtain ⟨j, hj1, hj2⟩ := getV_idx ((mem_zip_get hPl hk5).1 (show (p.1, p.2) ∈ _ from hz))
      obtain ⟨hf, hkid, _⟩ := hfit j _ _ hj1 hj2
      have hm := List.mem_of_getElem? hj2
      exact plain_turn hf (fun y hy d hd => IH y (Nat.lt_of_le_of_lt (kids_size hy) (size_item hm)) (hkid y hy) d hd) (hpi.2 _ hm)
theorem pl_wr {v : V} (hs : IsShape v) (hp : Pl v) : Pl (wr v) := hp.elim fun d h => ⟨d, plain_wr v hs d h⟩
/-- The text of few values is not long. -/
theorem rend_small {u : V} (hp : Pl (srtV u)) (he : Eql u) (hn : nodes u ≤ 1000000) : (rend u []).length ≤ 1000000000000000 := by
  have := rend_len u hp he []
  have h2 : 2 * (([] : List UInt8).length + 2 * nodes u + 220) * nodes u ≤ 2 * (2 * 1000000 + 220) * 1000000 := by
    refine Nat.mul_le_mul ?_ hn
    simp only [List.length_nil]
    omega
  omega
end Go.Jw

namespace Go.Jw
open Go Go.RowKit Go.Proofs
set_option maxRecDepth 8000
theorem c106 (u : V) (hp : Pl (srtV u)) (he : Eql u) (hi : IsPrint (srtV u)) (h5 : u.kind = 5) (hB : (rend u []).length ≤ 1000000000000000000) (b : Nat) : CtV Tryz.prog 106 #[ptr b] [.node b (outY u)] (.string (bs (rend u [] ++ [10]))) := by
  refine Ct.of_run (args := [ptr b]) Tryz.func106 (by kernel_rfl) rfl Tryz.ntmps106 rfl (fun c => ?_)
  have hk4 : (outY u).kind = 4 := by rw [outY_kind (by omega) (by omega)]; simp [h5]
  refine run_node 0 rfl (fun A0 cap0 ht0 hv0 hl0 hc0 => ?_)
  refine zD (zB ?_)
  refine zA (zE rfl rfl ?_)
  refine zC (zD ?_)
  refine zD (zB ?_)
  refine zA (zF rfl rfl ?_)
  refine zA (zH rfl rfl ?_)
  refine zA (zJ fo150_0 rfl rfl ?_)
  refine zA (zN 0 sc146 rfl rfl rfl rfl ?_)
  refine zA (zZ rfl rfl rfl ?_)
  refine zC (xJ rfl (by rw [hk4]; rfl) ?_)
  refine zD (zB ?_)
  refine zA (zF rfl rfl ?_)
  refine zA (zH rfl rfl ?_)
  refine zA (zJ fo150_0 rfl rfl ?_)
  refine zA (zN 0 sc146 rfl rfl rfl rfl ?_)
  refine zA (zZ rfl rfl rfl ?_)
  refine zC (zG [25, 0] ?_)
  change Run _ _ _ _ _ [(25, _), (0, _)] _ _
  refine xG rfl (decide_eq_true hk4) (zD ?_)
  refine zB (zA ?_)
  refine zF rfl rfl (zA ?_)
  refine yF rfl rfl rfl ((c_rend u hp he hi).1 h5 b ⟨#[]⟩ hB) (sub1 2 rfl) (zA ?_)
  refine xU rfl rfl rfl (by have h1 : (rend u (rl ⟨#[]⟩)).length ≤ 1000000000000000000 := hB; rw [bs_size]; show _ + 1 ≤ _; omega) (zA ?_)
  refine zE rfl rfl (zC ?_)
  exact zK Tryz.results106 rfl ⟨congrArg Value.string (bs_of (by rw [rl_app]; rfl)), rfl, rfl⟩ (List.nil_sublist _) (fun _ h => by cases h)
/-- The text of a schema. -/
def RT (v : V) (r : Value) (D' : List DA) : Prop := D' = [] ∧ ∃ u, srtV u = wr v ∧ Eql u ∧ nodes u ≤ 1000000 ∧ r = .string (bs (rend u [] ++ [10]))
theorem c58 (ft : DA) (mb : Nat) (G : Gr) (v : V) (b : Nat) (hU : Unf G v b) (hC : C105 ft mb G v) (hp : Pl v) (hs : IsShape v) (hpr : IsPrint (normalV v)) (hn : nodes v ≤ 1000000) : CtR Tryz.prog 58 #[ptr b] [.gr mb G, .tab, ft] (RT v) := by
  refine Ct.of_run (args := [ptr b]) Tryz.func58 (by kernel_rfl) rfl Tryz.ntmps58 rfl (fun c => ?_)
  refine zD (zB ?_)
  refine zA (zE rfl rfl ?_)
  refine zC (zD ?_)
  refine zB (zA ?_)
  refine zF rfl rfl (zA ?_)
  refine zV rfl rfl rfl (hC b hU) (subc 0 rfl (sub2 1 2 rfl rfl)) (fun u5 D5 hv5 => ?_)
  obtain ⟨y5, hy5, b5, rfl, rfl⟩ := hv5
  obtain ⟨u, rfl, hu, he⟩ := out_wr v hp hs y5 hy5
  have hpu : Pl (srtV u) := hu ▸ pl_wr hs hp
  have hiu : IsPrint (srtV u) := hu ▸ print_wr v hpr
  have h5u : u.kind = 5 := by rw [← srt_kind, hu]; exact wr_kind v
  have hnu : nodes u ≤ 1000000 := by rw [← nodes_srt u he, hu]; exact Nat.le_trans (nodes_wr v) hn
  refine zA (zE rfl rfl ?_)
  refine zC (zD ?_)
  refine zB (zA ?_)
  refine zF rfl rfl (zA ?_)
  refine yF rfl rfl rfl (c106 u hpu he hiu h5u (Nat.le_trans (rend_small hpu he hnu) (by decide)) b5) (sub1 0 rfl) (zA ?_)
  refine zE rfl rfl (zC ?_)
  exact zK Tryz.results58 rfl ⟨rfl, rfl, u, hu, he, hnu, rfl⟩ (List.nil_sublist _) (fun _ h => by cases h)
theorem c24 (ft : DA) (v : V) (x : Value) (hN : NumC ft ∨ NoNum v) (hW : NumW ft ∨ NoNum v) (hp : Pl v) (hs : IsShape v) (hpr : IsPrint (normalV v)) (hn : nodes v ≤ 1000000) : CtR Tryz.prog 24 #[x] [.val x v, .tab, ft] (RT v) := by
  refine Ct.of_run (args := [x]) Tryz.func24 (by kernel_rfl) rfl Tryz.ntmps24 rfl (fun c => ?_)
  refine wA 0 rfl (fun A1 c1 A2 c2 hx hsz hk1 hk2 hi1 hi2 => ?_)
  subst hx
  refine zD (zB ?_)
  refine zA (xP rfl rfl rfl (fun b1 => ?_))
  refine zA (zE rfl rfl ?_)
  refine zC (zD ?_)
  refine zB (zA ?_)
  refine yM 0 rfl ag25 rfl rfl (zA ?_)
  refine op_call (M1 := []) rfl rfl rfl (c57 ft false v _ hN hp hs) rfl (subc 2 rfl (sub2 3 4 rfl rfl)) (fun u5 M5 D5 hv5 => ?_)
  obtain ⟨b5, G5, mb5, es5, ck5, rfl, rfl, rfl, hU5, hO5, hN5⟩ := hv5
  refine zA (zE rfl rfl ?_)
  refine zC (zD ?_)
  refine zD (zB ?_)
  refine zA (zF rfl rfl ?_)
  refine zA (op_eqlNil pn63 rfl rfl ?_)
  refine zC (xJ rfl (rfl) ?_)
  refine run_frMany 0 0 rfl rfl (by intro b h; cases h) (zL ?_)
  refine zD (zB ?_)
  refine zA (zF rfl rfl ?_)
  refine zA (zV rfl rfl rfl (c58 ft mb5 G5 v b5 hU5 (c105 ft mb5 G5 v hW hp hs) hp hs hpr hn) (subc 0 rfl (sub2 5 6 rfl rfl)) (fun u9 D9 hv9 => ?_))
  obtain ⟨rfl, u9, hu9, he9, hn9, rfl⟩ := hv9
  refine zA (zE rfl rfl ?_)
  refine zC (zG [2] ?_)
  change Run _ _ _ _ _ [(2, _)] _ _
  exact zK Tryz.results24 rfl ⟨rfl, rfl, u9, hu9, he9, hn9, rfl⟩ (List.nil_sublist _) (fun _ h => by cases h)
end Go.Jw

namespace Go.Jw
open Go Go.RowKit Go.Proofs Go.Sort
set_option maxRecDepth 20000
abbrev encN (p : Nat) : Value := .int .i64 (p : Int)
theorem siK (n : Nat) (h2 : 2 ≤ n) : Lib.swapperK n Tryz.t3 2 = 5 := by
  have a : Tryz.t3.hasPointers = false := by kernel_rfl
  have b : Tryz.t3.bytes = 8 := by kernel_rfl
  have c : (n == 0) = false := by simp; omega
  have d : (n == 1) = false := by simp; omega
  simp [Lib.swapperK, a, b, c, d]
theorem fun130 : Fun Tryz.prog 130 := ⟨_, Tryz.func130, by kernel_rfl, rfl⟩
theorem putRow_heap {α : Type} [Inhabited α] (encN : α → Value) (w : World) (m b : Nat) (d : Array α) (os : Array Obj) {k : Nat} (hk : k < w.heap.size) (hb : k ≠ b) : (grow (putRow encN (Sort.ahead w m) b 0 d) os).heap[k]? = w.heap[k]? := by
  have h1 : (putRow encN (Sort.ahead w m) b 0 d).heap[k]? = w.heap[k]? := by
    unfold putRow mapBlock
    simp only [heap_ahead]
    rw [Array.getElem?_modify]
    split
    · rename_i h; exact absurd h.symm hb
    · rfl
  show ((putRow encN (Sort.ahead w m) b 0 d).heap ++ os)[k]? = _
  rw [Array.getElem?_append_left (by rw [Go.Sort.size_putRow]; exact hk)]
  exact h1
theorem putRow_own {α : Type} [Inhabited α] (encN : α → Value) (w : World) (m b : Nat) (d : Array α) (os : Array Obj) {cur : Array Value} (hb : w.heap[b]? = some (.cells cur 3 (0, 0))) (hl : d.size ≤ cur.size) :
    ∃ cur', (grow (putRow encN (Sort.ahead w m) b 0 d) os).heap[b]? = some (.cells cur' 3 (0, 0)) ∧ cur'.size = cur.size ∧ cur'.toList.take d.size = d.toList.map encN := by
  have hlt := lt_of_heap hb
  refine ⟨putCells encN 0 d cur, ?_, by simp [putCells], ?_⟩
  · show ((putRow encN (Sort.ahead w m) b 0 d).heap ++ os)[b]? = _
    rw [Array.getElem?_append_left (by rw [Go.Sort.size_putRow]; exact hlt)]
    unfold putRow mapBlock
    simp only [heap_ahead]
    rw [Array.getElem?_modify, if_pos rfl, hb]
    rfl
  · apply List.ext_getElem?
    intro i
    rw [List.getElem?_take]
    by_cases hi : i < d.size
    · rw [if_pos hi]
      have : i < cur.size := by omega
      simp [putCells, hi, this]
    · rw [if_neg hi, List.getElem?_eq_none (by simp; omega)]
/-- The sort of places by a comparison that reads. -/
theorem c130 (g : FuncId) (lb : Array Value) (b n c N : Nat) (ds : List Nat) (hds : ∀ x ∈ ds, x < N) (lt : Nat → Nat → Bool) (hO : SWO lt) (M2 : List HA) (D : List DA) (hsz : n < 4611686018427387904) (eg : ∀ args w, (callFunc g args).run Tryz.prog w = .ok (.enter g args) w)
    (hless : ∀ (W : World) (dk : List Nat), dk.length = n → (∀ x ∈ dk, x < N) → (∀ x ∈ M2, x.holds W) → (∀ j x, dk[j]? = some x → W.cell? ⟨b, j, none⟩ = some (encN x)) → (∃ ok, ∀ d ∈ D, d.p W ok) → ∀ (i j : Nat) (hi : i < dk.length) (hj : j < dk.length),
      Calls Tryz.prog g (#[.int .i64 i, .int .i64 j] ++ lb) W fun e w' => e = .returned (.bool (lt dk[i] dk[j])) ∧ ∃ q, w' = W.drewN q) :
    Ct Tryz.prog 130 #[.iface 139 (.slice (some ⟨b, 0, none⟩) n c), .func (.func g) #[] lb] (.row (some ⟨b, 0, none⟩) n c 3 1 (ds.map encN) :: M2) D
      (fun u M' D' => u = .tuple #[] ∧ (∃ ds' : List Nat, ds'.Perm ds ∧ ds'.Pairwise (fun x y => lt y x = false) ∧ M' = .row (some ⟨b, 0, none⟩) n c 3 1 (ds'.map encN) :: M2) ∧ D' = []) := by
  refine ⟨fun130, fun w ok hok hM hn hD => ?_⟩
  have hrow : w.ownsRow 0 3 1 (.slice (some ⟨b, 0, none⟩) n c) n (ds.map encN) := hM _ List.mem_cons_self
  obtain ⟨h1, h2⟩ := hrow
  have hdl : ds.length = n := by simpa using h1
  obtain ⟨cur, hb, hnc, hcm, hcs, hct⟩ : ∃ cur, w.heap[b]? = some (.cells cur 3 (0, 0)) ∧ n ≤ c ∧ c ≤ maxLen ∧ cur.size = c * 1 ∧ cur.toList.take (n * 1) = ds.map encN := by
    rcases h2 with ⟨h, _⟩ | ⟨g', cap, cur, hv, _, a1, a2, a3, a4, a5⟩
    · cases h
    · injection hv with e1 _ e3
      injection e1 with e1
      injection e1 with e1
      subst e1; subst e3
      exact ⟨cur, a1, a2, a3, a4, a5⟩
  have hblk : b < w.heap.size := lt_of_heap hb
  have hfoot : foots (.row (some ⟨b, 0, none⟩) n c 3 1 (ds.map encN) :: M2) = b :: foots M2 := rfl
  rw [hfoot] at hn
  have hb2 : b ∉ foots M2 := (List.nodup_cons.1 hn).1
  have hfin : ∀ (w' : World) (ds' : List Nat), ds'.Perm ds → ds'.Pairwise (fun x y => lt y x = false) → Chg [b] w w' → (HA.row (some ⟨b, 0, none⟩) n c 3 1 (ds'.map encN)).holds w' →
      ∃ (v : Value) (M' : List HA) (D' : List DA), (Ending.returned (.tuple #[])) = .returned v ∧ (v = .tuple #[] ∧ (∃ ds' : List Nat, ds'.Perm ds ∧ ds'.Pairwise (fun x y => lt y x = false) ∧ M' = HA.row (some ⟨b, 0, none⟩) n c 3 1 (ds'.map encN) :: M2) ∧ D' = []) ∧ Chg (b :: foots M2) w w' ∧ (∀ h ∈ M', h.holds w') ∧ (foots M').Nodup ∧ (∀ q ∈ foots M', q ∈ b :: foots M2 ∨ w.heap.size ≤ q) ∧
      ∀ d ∈ D', d.p w' (fun k => (ok k ∨ w.heap.size ≤ k) ∧ k < w'.heap.size ∧ k ∉ foots M') := by
    intro w' ds' hp hs hc hh
    refine ⟨_, HA.row (some ⟨b, 0, none⟩) n c 3 1 (ds'.map encN) :: M2, [], rfl, ⟨rfl, ⟨ds', hp, hs, rfl⟩, rfl⟩, hc.mono (fun k _ hk => by rw [List.mem_singleton.1 hk]; exact List.mem_cons_self), ?_, hn, fun q hq => .inl hq, by simp⟩
    intro x hx
    rcases List.mem_cons.1 hx with rfl | hx2
    · exact hh
    · have hx0 := hM x (List.mem_cons_of_mem _ hx2)
      exact HA.move hx0 fun q hq => hc.block q (HA.foot_lt hx0 q hq) (by
        intro hqb
        rw [List.mem_singleton.1 hqb] at hq
        exact hb2 (mem_foots.2 ⟨x, hx2, hq⟩))
  rcases Nat.lt_or_ge n 2 with h2n | h2n
  · have hK : Lib.swapperK n Tryz.t3 2 = n + 1 := by
      rcases Nat.eq_zero_or_pos n with h | h
      · subst h; simp [Lib.swapperK]
      · obtain rfl : n = 1 := by omega
        simp [Lib.swapperK]
    have hS := Any.sort_Slice_tiny Tryz.laysGg6 139 3 Tryz.t139 Tryz.t3 (inf_of Tryz.typeInfo139) (by kernel_rfl) (by kernel_rfl) (inf_of Tryz.typeInfo3) 2 (fun _ => by kernel_rfl) (some ⟨b, 0, none⟩) n c (by omega) (196 + n) (by
      rw [hK]
      rcases Nat.eq_zero_or_pos n with h | h
      · subst h; kernel_rfl
      · obtain rfl : n = 1 := by omega
        kernel_rfl) (.func g) #[] lb w
    refine Calls.mono hS ?_
    rintro e w' ⟨rfl, os, rfl⟩
    refine hfin _ ds (.refl _) ?_ ⟨rfl, rfl, rfl, by simp [grow], fun k hk _ => ?_⟩ ?_
    · match ds, hdl with
      | [], _ => exact .nil
      | [x], _ => simp
      | _ :: _ :: _, h => simp at h; omega
    · show (w.heap ++ os)[k]? = _
      exact Array.getElem?_append_left hk
    · refine ⟨h1, .inr ⟨b, c, cur, rfl, Nat.zero_le _, ?_, hnc, hcm, hcs, hct⟩⟩
      show (w.heap ++ os)[b]? = _
      rw [Array.getElem?_append_left hblk]
      exact hb
  · have hcell : ∀ j x, ds[j]? = some x → w.cell? ⟨b, j, none⟩ = some (encN x) := by
      intro j x hj
      have hlt := (List.getElem?_eq_some_iff.1 hj).1
      have h3 : (cur.toList.take (n * 1))[j]? = some (encN x) := by rw [hct, List.getElem?_map, hj]; rfl
      rw [List.getElem?_take, if_pos (by omega)] at h3
      simp only [World.cell?, hb]
      simpa using h3
    have hN : 0 < N := by
      match ds, hdl, hds with
      | [], h, _ => simp at h; omega
      | x :: _, _, h => exact Nat.lt_of_le_of_lt (Nat.zero_le _) (h x List.mem_cons_self)
    letI : Inhabited (Fin N) := ⟨⟨0, hN⟩⟩
    let encF : Fin N → Value := fun x => encN x.1
    let fs : List (Fin N) := ds.pmap (fun x h => ⟨x, h⟩) hds
    have hfs : fs.map (fun x => x.1) = ds := by
      show (ds.pmap (fun x h => (⟨x, h⟩ : Fin N)) hds).map (fun x => x.1) = ds
      rw [List.map_pmap]
      simp
    have hfl : fs.length = n := by rw [← hdl, ← hfs, List.length_map]
    have hval : ∀ l : List (Fin N), (l.map fun x => x.1).map encN = l.map encF := fun l => by rw [List.map_map]; rfl
    have hlto : ∀ l : List (Fin N), ∀ x ∈ l.map (fun x => x.1), x < N := fun l x hx => by
      obtain ⟨y, _, rfl⟩ := List.mem_map.1 hx
      exact y.2
    have hH : Holds encF w b 0 fs.toArray := by
      intro j hj
      have hj' : j < fs.length := by simpa using hj
      refine ⟨?_, ?_⟩
      · rw [Nat.zero_add, hcell j fs[j].1 (by rw [← hfs, List.getElem?_map, List.getElem?_eq_getElem hj']; rfl)]
        simp [hj', encF]
      · simp [World.frozen?, hb]
    have hL : LessReads Tryz.prog g lb encF (fun x y => lt x.1 y.1) b 0 fs.toArray.size w := by
      intro m os dk hs i j hi hj
      have hs' : dk.size = n := by rw [hs]; simpa using hfl
      obtain ⟨cur', a1, a2, a3⟩ := putRow_own encF w m b dk os hb (by omega)
      have key := hless (sortWorld encF w b 0 m dk os) (dk.toList.map fun x => x.1) (by simpa using hs') (hlto _) (fun x hx => by
        have hx0 := hM x (List.mem_cons_of_mem _ hx)
        exact HA.move hx0 fun q hq => putRow_heap encF w m b dk os (HA.foot_lt hx0 q hq) (by rintro rfl; exact hb2 (mem_foots.2 ⟨x, hx, hq⟩))) (fun q x hq => by
        have hlt := (List.getElem?_eq_some_iff.1 hq).1
        have h3 : (cur'.toList.take dk.size)[q]? = some (encN x) := by rw [a3, ← hval, List.getElem?_map, hq]; rfl
        rw [List.getElem?_take, if_pos (by simpa using hlt)] at h3
        show World.cell? (grow (putRow encF (Sort.ahead w m) b 0 dk) os) _ = _
        simp only [World.cell?, a1]
        simpa using h3) ⟨ok, fun d hd => d.mono (fun k hk => hk) (fun k hk => putRow_heap encF w m b dk os (hok k hk).1 (by rintro rfl; exact (hok k hk).2 (by rw [hfoot]; exact List.mem_cons_self))) (hD d hd)⟩ i j (by simp at hi ⊢; omega) (by simp at hj ⊢; omega)
      have hi' : i < dk.size := by simp at hi; omega
      have hj' : j < dk.size := by simp at hj; omega
      have e1 : dk[i]! = dk.toList[i]'(by simpa using hi') := by simp [hi']
      have e2 : dk[j]! = dk.toList[j]'(by simpa using hj') := by simp [hj']
      rw [e1, e2]
      simpa using key
    have hO' : SWO (fun x y : Fin N => lt x.1 y.1) := ⟨fun x => hO.irrefl _, fun x y z => hO.trans _ _ _, fun x y z => hO.ntrans _ _ _⟩
    have hS := Any.sort_Slice_sorted Tryz.laysGg6 139 3 Tryz.t139 Tryz.t3 (inf_of Tryz.typeInfo139) (by kernel_rfl) (by kernel_rfl) (inf_of Tryz.typeInfo3) 2 (fun _ => by kernel_rfl) (by kernel_rfl) (fun _ => by kernel_rfl) encF (fun _ => rfl) (fun x y => lt x.1 y.1) hO' g lb eg b 0 c fs.toArray (by simp; omega) (by simp; omega) 200
      (by rw [siK _ (by simp; omega)]; kernel_rfl) true (fun args W => run_callFunc_extern Tryz.func200 (by kernel_rfl) (by kernel_rfl) (by kernel_rfl) (e := Extern.ReflectliteSwapper.swap true) (by kernel_rfl) args W) w hL hH hblk
    have e0 : fs.toArray.size = n := by simpa using hfl
    rw [e0] at hS
    refine Calls.mono hS ?_
    rintro e w' ⟨rfl, d', m, os, hp, hs, rfl⟩
    have hd' : d'.size = n := by rw [hp.1, e0]
    obtain ⟨cur', a1, a2, a3⟩ := putRow_own encF w m b d' os hb (by omega)
    refine hfin _ (d'.toList.map fun x => x.1) ?_ ?_ ⟨rfl, rfl, rfl, by simp [grow], fun k hk hkb => putRow_heap encF w m b d' os hk (by simpa using hkb)⟩ ?_
    · have := hp.2.2
      have e3 : d'.extract 0 n = d' := by rw [← hd']; simp
      have e4 : fs.toArray.extract 0 n = fs.toArray := by rw [← e0]; simp
      rw [e3, e4] at this
      have h2 := this.map (fun x : Fin N => x.1)
      simp only [] at h2
      rw [hfs] at h2
      exact h2
    · rw [List.pairwise_map, List.pairwise_iff_getElem]
      intro i j hi hj hij
      have := hs i j (Nat.zero_le _) hij (by simp at hj; omega)
      have e1 : d'[i]! = d'.toList[i] := by simp at hi; simp [hi]
      have e2 : d'[j]! = d'.toList[j] := by simp at hj; simp [hj]
      rw [e1, e2] at this
      exact this
    · refine ⟨by simp [hd'], .inr ⟨b, c, cur', rfl, Nat.zero_le _, a1, hnc, hcm, by rw [a2, hcs], ?_⟩⟩
      rw [Nat.mul_one, ← hd', hval]
      exact a3
end Go.Jw

namespace Go.Jw
open Go Go.RowKit Go.Proofs
set_option maxRecDepth 8000
section rules
variable {P : Program} {n : Nat} {F : List Nat} {c : Ctx F} {ops : Array Oper} {d : Nat} {T : TypeId} {l : List Oper} {k : List KI} {Q : Post} {e : Env} {M : List HA} {D : List DA}
/-- A function without results, at its end. -/
theorem run_end0 {fn : Func} {R : Value → List HA → List DA → Prop} {M' : List HA} {D' : List DA} (hr : fn.results = #[]) (hR : R (.tuple #[]) M' D') (hM : List.Sublist M' M) (hD : ∀ d ∈ D', d ∈ D) : Run P n c [] (RetQ P c fn R) e M D := by
  intro a w hf
  have hsub := foots_sub hM
  have hres : (results fn a.tmps).run P w = .ok (.tuple #[]) w := by simp [results, hr]
  refine ⟨hf.defers, .tuple #[], hres, .tuple #[], M', D', rfl, hR, hf.chg, fun x hx => hf.own x (hM.mem hx), hf.nodup.sublist hsub, fun b hb => hf.foot b (hsub.mem hb), fun x hx => ?_⟩
  exact x.mono (fun q hq => ⟨hq.1, hq.2.1, fun h' => hq.2.2 (hsub.mem h')⟩) (fun _ _ => rfl) (hf.dat x (hD x hx))
end rules
/-- What stands behind a place of a text. -/
def Sf (S : ByteArray) (p : Nat) (l : List UInt8) : Prop := (rl S).drop p = l ∧ p ≤ S.size
theorem Sf.size {S : ByteArray} {p : Nat} {l : List UInt8} (h : Sf S p l) : S.size = p + l.length := by
  have h1 := congrArg List.length h.1
  rw [List.length_drop, ← sz_rl] at h1
  have := h.2
  omega
theorem Sf.get {S : ByteArray} {p : Nat} {l : List UInt8} (h : Sf S p l) {i : Nat} (hi : i < l.length) (hs : p + i < S.size) : S[p + i] = l[i] := by
  have h1 : ((rl S).drop p)[i]? = l[i]? := by rw [h.1]
  rw [List.getElem?_drop, List.getElem?_eq_getElem hi] at h1
  have h2 : (rl S)[p + i]? = some S[p + i] := by
    have h3 : p + i < (rl S).length := by rw [← sz_rl]; exact hs
    rw [List.getElem?_eq_getElem h3]
    rfl
  rw [h2] at h1
  exact Option.some.inj h1
theorem Sf.adv {S : ByteArray} {p : Nat} {a l : List UInt8} (h : Sf S p (a ++ l)) : Sf S (p + a.length) l := by
  refine ⟨?_, ?_⟩
  · rw [← List.drop_drop, h.1, List.drop_left]
  · have := h.size
    rw [List.length_append] at this
    omega
theorem Sf.adv1 {S : ByteArray} {p : Nat} {b : UInt8} {l : List UInt8} (h : Sf S p (b :: l)) : Sf S (p + 1) l := Sf.adv (a := [b]) h
theorem Sf.zero (l : List UInt8) : Sf (bs l) 0 l := ⟨by rw [rl_bs]; rfl, Nat.zero_le _⟩
def isBl (b : UInt8) : Prop := b.toNat = 32 ∨ b.toNat = 10 ∨ b.toNat = 9 ∨ b.toNat = 13
def Blanks (l : List UInt8) : Prop := ∀ b ∈ l, isBl b
def NoBl (l : List UInt8) : Prop := ∀ b r, l = b :: r → ¬ isBl b
theorem bl_lt {S : ByteArray} {p i : Nat} {ws rest : List UInt8} (hS : Sf S p (ws ++ rest)) (hr : NoBl rest) (hi : i ≤ ws.length) (h : p + i < S.size) (hb : isBl S[p + i]) : i + 1 ≤ ws.length := by
  rcases Nat.lt_or_eq_of_le hi with h1 | h1
  · exact h1
  · exfalso
    have hsz := hS.size
    rw [List.length_append] at hsz
    have hlt : i < (ws ++ rest).length := by rw [List.length_append]; omega
    rw [hS.get hlt h, List.getElem_append_right (by omega)] at hb
    cases rest with
    | nil => simp at hsz; omega
    | cons b r =>
      have : i - ws.length = 0 := by omega
      simp only [this, List.getElem_cons_zero] at hb
      exact hr b r rfl hb
theorem bl_eq {S : ByteArray} {p i : Nat} {ws rest : List UInt8} (hS : Sf S p (ws ++ rest)) (hw : Blanks ws) (hi : i ≤ ws.length) (h : ∀ h : p + i < S.size, ¬ isBl S[p + i]) : i = ws.length := by
  rcases Nat.lt_or_eq_of_le hi with h1 | h1
  · exfalso
    have hsz := hS.size
    rw [List.length_append] at hsz
    have hlt : p + i < S.size := by omega
    refine h hlt ?_
    rw [hS.get (by rw [List.length_append]; omega) hlt, List.getElem_append_left h1]
    exact hw _ (List.getElem_mem h1)
  · exact h1
abbrev rblk (rb : Nat) (S : ByteArray) (p : Nat) (bd : Bool) : HA := .blk rb [.string S, .int .i64 (p : Int), .bool bd] 61
def headN (l : List UInt8) : Nat := match l with
  | [] => 0
  | b :: _ => b.toNat

set_option maxHeartbeats 4000000 in
theorem c56 (rb : Nat) (S : ByteArray) (p : Nat) (bd : Bool) (ws rest : List UInt8) (hS : Sf S p (ws ++ rest)) (hws : Blanks ws) (hr : NoBl rest) (hm : S.size ≤ maxLen) : Ct Tryz.prog 56 #[ptr rb] [rblk rb S p bd] [] (fun u M' D' => u = .tuple #[] ∧ M' = [rblk rb S (p + ws.length) bd] ∧ D' = []) := by
  refine Ct.of_run (args := [ptr rb]) Tryz.func56 (by kernel_rfl) rfl Tryz.ntmps56 rfl (fun c => ?_)
  have hsz := hS.size
  rw [List.length_append] at hsz
  unfold maxLen at hm
  refine zP (zG [0] ?_)
  change Run _ _ _ _ _ [(0, _)] _ _
  refine run_loopM 0 (fun (i : Nat) => i ≤ ws.length) (fun (i : Nat) => []) (fun (i : Nat) => rblk rb S (p + i) bd :: []) (fun (i : Nat) => ws.length - i) 0 (by show 0 ≤ _; omega) (EnvLe.nil _) rfl ?_ (EnvLe.cons rfl (EnvLe.nil _))
  intro i hI K hK
  change Run _ _ _ _ _ [(0, _)] _ _
  replace hI : i ≤ ws.length := hI
  change Run _ _ _ _ _ _ (HA.blk rb [.string S, .int .i64 ((p + i : Nat) : Int), .bool bd] 61 :: []) _
  refine zD (zD ?_)
  refine xK Tryz_mixed (zW ?_)
  refine tP 0 rfl wanted0 (zX rfl) (tP 1 rfl wanted0 (yG rfl) ?_)
  refine tP 2 rfl wanted0 (yB fo61_1 rfl) (tP 4 rfl wanted0 (zX rfl) ?_)
  refine tP 5 rfl wanted0 (yG rfl) (tP 6 rfl wanted0 (yB fo61_0 rfl) ?_)
  refine yJ (tM 3 rfl wanted0 (yK 0 sc3 rfl rfl rfl) ?_)
  refine tM 7 rfl wanted0 (yK 0 sc9 rfl rfl rfl) (tM 8 rfl wanted0 (st_lenStr st9 rfl) ?_)
  refine tM 9 rfl wanted0 (st_lssN rfl rfl) (zW ?_)
  refine tP 10 rfl wanted0 (zX rfl) (any_splitD (s := 12) rfl (fun h12 => ?_) (fun h12 => ?_))
  · refine tP 11 rfl (wanted1 rfl rfl) (zX rfl) (tP 12 rfl (wanted1 rfl rfl) (yG rfl) ?_)
    refine tP 13 rfl (wanted1 rfl rfl) (yB fo61_0 rfl) (tP 15 rfl (wanted1 rfl rfl) (zX rfl) ?_)
    refine tP 16 rfl (wanted1 rfl rfl) (yG rfl) (tP 17 rfl (wanted1 rfl rfl) (yB fo61_1 rfl) ?_)
    refine yJ (tM 14 rfl (wanted1 rfl rfl) (yK 0 sc9 rfl rfl rfl) ?_)
    refine tM 18 rfl (wanted1 rfl rfl) (yK 0 sc3 rfl rfl rfl) (tM 19 rfl (wanted1 rfl rfl) (st_index st9 rfl rfl (by omega)) ?_)
    refine tM 20 rfl (wanted1 rfl rfl) (st_eql rfl rfl) (zW ?_)
    refine tP 21 rfl (wanted1 rfl rfl) (zX rfl) (any_splitD (s := 23) rfl (fun h23 => ?_) (fun h23 => ?_))
    · refine yJ (tS 22 rfl rfl rfl rfl ?_)
      refine tS 23 rfl rfl rfl rfl (tS 24 rfl rfl rfl rfl ?_)
      refine tS 26 rfl rfl rfl rfl (tS 27 rfl rfl rfl rfl ?_)
      refine tS 28 rfl rfl rfl rfl (tS 25 rfl rfl rfl rfl ?_)
      refine tS 29 rfl rfl rfl rfl (tS 30 rfl rfl rfl rfl ?_)
      refine tS 31 rfl rfl rfl rfl (zW ?_)
      refine tP 32 rfl (wanted1 rfl rfl) (wB rfl rfl) (tP 33 rfl (wanted1 rfl rfl) (zX rfl) ?_)
      refine yJ (tS 34 rfl rfl rfl rfl ?_)
      refine tS 35 rfl rfl rfl rfl (tS 36 rfl rfl rfl rfl ?_)
      refine tS 38 rfl rfl rfl rfl (tS 39 rfl rfl rfl rfl ?_)
      refine tS 40 rfl rfl rfl rfl (tS 37 rfl rfl rfl rfl ?_)
      refine tS 41 rfl rfl rfl rfl (tS 42 rfl rfl rfl rfl ?_)
      refine tS 43 rfl rfl rfl rfl (zW ?_)
      refine tP 44 rfl (wanted1 rfl rfl) (wB rfl rfl) (tP 45 rfl (wanted1 rfl rfl) (zX rfl) ?_)
      refine yJ (tS 46 rfl rfl rfl rfl ?_)
      refine tS 47 rfl rfl rfl rfl (tS 48 rfl rfl rfl rfl ?_)
      refine tS 50 rfl rfl rfl rfl (tS 51 rfl rfl rfl rfl ?_)
      refine tS 52 rfl rfl rfl rfl (tS 49 rfl rfl rfl rfl ?_)
      refine tS 53 rfl rfl rfl rfl (tS 54 rfl rfl rfl rfl ?_)
      refine tS 55 rfl rfl rfl rfl (zW ?_)
      refine tP 56 rfl (wanted1 rfl rfl) (wB rfl rfl) (tP 57 rfl wanted0 (wB rfl rfl) ?_)
      refine yV (by decide +kernel) (zG [59, 0] ?_)
      change Run _ _ _ _ _ [(59, _), (0, _)] _ _
      refine yT rfl (zL ?_)
      refine zP (zB ?_)
      refine zA (zF rfl rfl ?_)
      refine zA (zH rfl rfl ?_)
      refine zA (zJ fo61_1 rfl rfl ?_)
      refine zA (zS 0 sc3 rfl rfl rfl rfl ?_)
      refine zA (xC rfl rfl (by omega) ?_)
      refine zA (zH rfl rfl ?_)
      refine zA (zJ fo61_1 rfl rfl ?_)
      refine zA (zU 0 (M' := [HA.blk _ [_, _, _] _]) rfl rfl rfl rfl si3 rfl rfl rfl ?_)
      refine zC (zQ ?_)
      have hbl : isBl S[p + i] := .inl (by omega)
      have hlt1 := bl_lt hS hr hI h12 hbl
      exact kQ (hK (i + 1) (hlt1) (by show ws.length - (i + 1) < ws.length - i; omega)) (EnvLe.cons rfl (EnvLe.nil _))
    refine tP 22 rfl (wanted1 rfl rfl) (zX rfl) (tP 23 rfl (wanted1 rfl rfl) (yG rfl) ?_)
    refine tP 24 rfl (wanted1 rfl rfl) (yB fo61_0 rfl) (tP 26 rfl (wanted1 rfl rfl) (zX rfl) ?_)
    refine tP 27 rfl (wanted1 rfl rfl) (yG rfl) (tP 28 rfl (wanted1 rfl rfl) (yB fo61_1 rfl) ?_)
    refine yJ (tM 25 rfl (wanted1 rfl rfl) (yK 0 sc9 rfl rfl rfl) ?_)
    refine tM 29 rfl (wanted1 rfl rfl) (yK 0 sc3 rfl rfl rfl) (tM 30 rfl (wanted1 rfl rfl) (st_index st9 rfl rfl (by omega)) ?_)
    refine tM 31 rfl (wanted1 rfl rfl) (st_eql rfl rfl) (zW ?_)
    refine tP 32 rfl (wanted1 rfl rfl) (wB rfl rfl) (tP 33 rfl (wanted1 rfl rfl) (zX rfl) ?_)
    refine any_splitD (s := 35) rfl (fun h35 => ?_) (fun h35 => ?_)
    · refine yJ (tS 34 rfl rfl rfl rfl ?_)
      refine tS 35 rfl rfl rfl rfl (tS 36 rfl rfl rfl rfl ?_)
      refine tS 38 rfl rfl rfl rfl (tS 39 rfl rfl rfl rfl ?_)
      refine tS 40 rfl rfl rfl rfl (tS 37 rfl rfl rfl rfl ?_)
      refine tS 41 rfl rfl rfl rfl (tS 42 rfl rfl rfl rfl ?_)
      refine tS 43 rfl rfl rfl rfl (zW ?_)
      refine tP 44 rfl (wanted1 rfl rfl) (wB rfl rfl) (tP 45 rfl (wanted1 rfl rfl) (zX rfl) ?_)
      refine yJ (tS 46 rfl rfl rfl rfl ?_)
      refine tS 47 rfl rfl rfl rfl (tS 48 rfl rfl rfl rfl ?_)
      refine tS 50 rfl rfl rfl rfl (tS 51 rfl rfl rfl rfl ?_)
      refine tS 52 rfl rfl rfl rfl (tS 49 rfl rfl rfl rfl ?_)
      refine tS 53 rfl rfl rfl rfl (tS 54 rfl rfl rfl rfl ?_)
      refine tS 55 rfl rfl rfl rfl (zW ?_)
      refine tP 56 rfl (wanted1 rfl rfl) (wB rfl rfl) (tP 57 rfl wanted0 (wB rfl rfl) ?_)
      refine yV (by decide +kernel) (zG [59, 0] ?_)
      change Run _ _ _ _ _ [(59, _), (0, _)] _ _
      refine yT rfl (zL ?_)
      refine zP (zB ?_)
      refine zA (zF rfl rfl ?_)
      refine zA (zH rfl rfl ?_)
      refine zA (zJ fo61_1 rfl rfl ?_)
      refine zA (zS 0 sc3 rfl rfl rfl rfl ?_)
      refine zA (xC rfl rfl (by omega) ?_)
      refine zA (zH rfl rfl ?_)
      refine zA (zJ fo61_1 rfl rfl ?_)
      refine zA (zU 0 (M' := [HA.blk _ [_, _, _] _]) rfl rfl rfl rfl si3 rfl rfl rfl ?_)
      refine zC (zQ ?_)
      have hbl : isBl S[p + i] := .inr (.inl (by omega))
      have hlt1 := bl_lt hS hr hI h12 hbl
      exact kQ (hK (i + 1) (hlt1) (by show ws.length - (i + 1) < ws.length - i; omega)) (EnvLe.cons rfl (EnvLe.nil _))
    refine tP 34 rfl (wanted1 rfl rfl) (zX rfl) (tP 35 rfl (wanted1 rfl rfl) (yG rfl) ?_)
    refine tP 36 rfl (wanted1 rfl rfl) (yB fo61_0 rfl) (tP 38 rfl (wanted1 rfl rfl) (zX rfl) ?_)
    refine tP 39 rfl (wanted1 rfl rfl) (yG rfl) (tP 40 rfl (wanted1 rfl rfl) (yB fo61_1 rfl) ?_)
    refine yJ (tM 37 rfl (wanted1 rfl rfl) (yK 0 sc9 rfl rfl rfl) ?_)
    refine tM 41 rfl (wanted1 rfl rfl) (yK 0 sc3 rfl rfl rfl) (tM 42 rfl (wanted1 rfl rfl) (st_index st9 rfl rfl (by omega)) ?_)
    refine tM 43 rfl (wanted1 rfl rfl) (st_eql rfl rfl) (zW ?_)
    refine tP 44 rfl (wanted1 rfl rfl) (wB rfl rfl) (tP 45 rfl (wanted1 rfl rfl) (zX rfl) ?_)
    refine any_splitD (s := 47) rfl (fun h47 => ?_) (fun h47 => ?_)
    · refine yJ (tS 46 rfl rfl rfl rfl ?_)
      refine tS 47 rfl rfl rfl rfl (tS 48 rfl rfl rfl rfl ?_)
      refine tS 50 rfl rfl rfl rfl (tS 51 rfl rfl rfl rfl ?_)
      refine tS 52 rfl rfl rfl rfl (tS 49 rfl rfl rfl rfl ?_)
      refine tS 53 rfl rfl rfl rfl (tS 54 rfl rfl rfl rfl ?_)
      refine tS 55 rfl rfl rfl rfl (zW ?_)
      refine tP 56 rfl (wanted1 rfl rfl) (wB rfl rfl) (tP 57 rfl wanted0 (wB rfl rfl) ?_)
      refine yV (by decide +kernel) (zG [59, 0] ?_)
      change Run _ _ _ _ _ [(59, _), (0, _)] _ _
      refine yT rfl (zL ?_)
      refine zP (zB ?_)
      refine zA (zF rfl rfl ?_)
      refine zA (zH rfl rfl ?_)
      refine zA (zJ fo61_1 rfl rfl ?_)
      refine zA (zS 0 sc3 rfl rfl rfl rfl ?_)
      refine zA (xC rfl rfl (by omega) ?_)
      refine zA (zH rfl rfl ?_)
      refine zA (zJ fo61_1 rfl rfl ?_)
      refine zA (zU 0 (M' := [HA.blk _ [_, _, _] _]) rfl rfl rfl rfl si3 rfl rfl rfl ?_)
      refine zC (zQ ?_)
      have hbl : isBl S[p + i] := .inr (.inr (.inl (by omega)))
      have hlt1 := bl_lt hS hr hI h12 hbl
      exact kQ (hK (i + 1) (hlt1) (by show ws.length - (i + 1) < ws.length - i; omega)) (EnvLe.cons rfl (EnvLe.nil _))
    refine tP 46 rfl (wanted1 rfl rfl) (zX rfl) (tP 47 rfl (wanted1 rfl rfl) (yG rfl) ?_)
    refine tP 48 rfl (wanted1 rfl rfl) (yB fo61_0 rfl) (tP 50 rfl (wanted1 rfl rfl) (zX rfl) ?_)
    refine tP 51 rfl (wanted1 rfl rfl) (yG rfl) (tP 52 rfl (wanted1 rfl rfl) (yB fo61_1 rfl) ?_)
    refine yJ (tM 49 rfl (wanted1 rfl rfl) (yK 0 sc9 rfl rfl rfl) ?_)
    refine tM 53 rfl (wanted1 rfl rfl) (yK 0 sc3 rfl rfl rfl) (tM 54 rfl (wanted1 rfl rfl) (st_index st9 rfl rfl (by omega)) ?_)
    refine tM 55 rfl (wanted1 rfl rfl) (st_eql rfl rfl) (zW ?_)
    refine tP 56 rfl (wanted1 rfl rfl) (wB rfl rfl) (tP 57 rfl wanted0 (wB rfl rfl) ?_)
    refine yV (by decide +kernel) (zG [59, 0] ?_)
    change Run _ _ _ _ _ [(59, _), (0, _)] _ _
    refine zT rfl (fun h59 => ?_) (fun h59 => ?_)
    · refine zL (zP ?_)
      refine zB (zA ?_)
      refine zF rfl rfl (zA ?_)
      refine zH rfl rfl (zA ?_)
      refine zJ fo61_1 rfl rfl (zA ?_)
      refine zS 0 sc3 rfl rfl rfl rfl (zA ?_)
      refine xC rfl rfl (by omega) (zA ?_)
      refine zH rfl rfl (zA ?_)
      refine zJ fo61_1 rfl rfl (zA ?_)
      refine zU 0 (M' := [HA.blk _ [_, _, _] _]) rfl rfl rfl rfl si3 rfl rfl rfl (zC ?_)
      refine zQ ?_
      have hbl : isBl S[p + i] := .inr (.inr (.inr (by omega)))
      have hlt1 := bl_lt hS hr hI h12 hbl
      exact kQ (hK (i + 1) (hlt1) (by show ws.length - (i + 1) < ws.length - i; omega)) (EnvLe.cons rfl (EnvLe.nil _))
    refine yL rfl ?_
    obtain rfl := bl_eq hS hws hI (fun h => by unfold isBl; omega)
    exact run_end0 Tryz.results56 ⟨rfl, rfl, rfl⟩ (List.Sublist.refl _) (fun _ h => by cases h)
  refine yJ (tS 11 rfl rfl rfl rfl ?_)
  refine tS 12 rfl rfl rfl rfl (tS 13 rfl rfl rfl rfl ?_)
  refine tS 15 rfl rfl rfl rfl (tS 16 rfl rfl rfl rfl ?_)
  refine tS 17 rfl rfl rfl rfl (tS 14 rfl rfl rfl rfl ?_)
  refine tS 18 rfl rfl rfl rfl (tS 19 rfl rfl rfl rfl ?_)
  refine tS 20 rfl rfl rfl rfl (tS 21 rfl rfl rfl rfl ?_)
  refine xH 22 (yW _ _ _ _) rfl rfl rfl (by decide +kernel) (by decide +kernel) (by decide +kernel) rfl (xH 23 (yW _ _ _ _) rfl rfl rfl (by decide +kernel) (by decide +kernel) (by decide +kernel) rfl ?_)
  refine xH 24 (yW _ _ _ _) rfl rfl rfl (by decide +kernel) (by decide +kernel) (by decide +kernel) rfl (xH 26 (yW _ _ _ _) rfl rfl rfl (by decide +kernel) (by decide +kernel) (by decide +kernel) rfl ?_)
  refine xH 27 (yW _ _ _ _) rfl rfl rfl (by decide +kernel) (by decide +kernel) (by decide +kernel) rfl (xH 28 (yW _ _ _ _) rfl rfl rfl (by decide +kernel) (by decide +kernel) (by decide +kernel) rfl ?_)
  refine xH 25 (yW _ _ _ _) rfl rfl rfl (by decide +kernel) (by decide +kernel) (by decide +kernel) rfl (xH 29 (yW _ _ _ _) rfl rfl rfl (by decide +kernel) (by decide +kernel) (by decide +kernel) rfl ?_)
  refine xH 30 (yW _ _ _ _) rfl rfl rfl (by decide +kernel) (by decide +kernel) (by decide +kernel) rfl (xH 31 (yW _ _ _ _) rfl rfl rfl (by decide +kernel) (by decide +kernel) (by decide +kernel) rfl ?_)
  refine tS 32 rfl rfl rfl rfl (tS 33 rfl rfl rfl rfl ?_)
  refine xH 34 (yW _ _ _ _) rfl rfl rfl (by decide +kernel) (by decide +kernel) (by decide +kernel) rfl (xH 35 (yW _ _ _ _) rfl rfl rfl (by decide +kernel) (by decide +kernel) (by decide +kernel) rfl ?_)
  refine xH 36 (yW _ _ _ _) rfl rfl rfl (by decide +kernel) (by decide +kernel) (by decide +kernel) rfl (xH 38 (yW _ _ _ _) rfl rfl rfl (by decide +kernel) (by decide +kernel) (by decide +kernel) rfl ?_)
  refine xH 39 (yW _ _ _ _) rfl rfl rfl (by decide +kernel) (by decide +kernel) (by decide +kernel) rfl (xH 40 (yW _ _ _ _) rfl rfl rfl (by decide +kernel) (by decide +kernel) (by decide +kernel) rfl ?_)
  refine xH 37 (yW _ _ _ _) rfl rfl rfl (by decide +kernel) (by decide +kernel) (by decide +kernel) rfl (xH 41 (yW _ _ _ _) rfl rfl rfl (by decide +kernel) (by decide +kernel) (by decide +kernel) rfl ?_)
  refine xH 42 (yW _ _ _ _) rfl rfl rfl (by decide +kernel) (by decide +kernel) (by decide +kernel) rfl (xH 43 (yW _ _ _ _) rfl rfl rfl (by decide +kernel) (by decide +kernel) (by decide +kernel) rfl ?_)
  refine tS 44 rfl rfl rfl rfl (tS 45 rfl rfl rfl rfl ?_)
  refine xH 46 (yW _ _ _ _) rfl rfl rfl (by decide +kernel) (by decide +kernel) (by decide +kernel) rfl (xH 47 (yW _ _ _ _) rfl rfl rfl (by decide +kernel) (by decide +kernel) (by decide +kernel) rfl ?_)
  refine xH 48 (yW _ _ _ _) rfl rfl rfl (by decide +kernel) (by decide +kernel) (by decide +kernel) rfl (xH 50 (yW _ _ _ _) rfl rfl rfl (by decide +kernel) (by decide +kernel) (by decide +kernel) rfl ?_)
  refine xH 51 (yW _ _ _ _) rfl rfl rfl (by decide +kernel) (by decide +kernel) (by decide +kernel) rfl (xH 52 (yW _ _ _ _) rfl rfl rfl (by decide +kernel) (by decide +kernel) (by decide +kernel) rfl ?_)
  refine xH 49 (yW _ _ _ _) rfl rfl rfl (by decide +kernel) (by decide +kernel) (by decide +kernel) rfl (xH 53 (yW _ _ _ _) rfl rfl rfl (by decide +kernel) (by decide +kernel) (by decide +kernel) rfl ?_)
  refine xH 54 (yW _ _ _ _) rfl rfl rfl (by decide +kernel) (by decide +kernel) (by decide +kernel) rfl (xH 55 (yW _ _ _ _) rfl rfl rfl (by decide +kernel) (by decide +kernel) (by decide +kernel) rfl ?_)
  refine tS 56 rfl rfl rfl rfl (zW ?_)
  refine tP 57 rfl wanted0 (wB rfl rfl) (yV (by decide +kernel) ?_)
  refine zG [59, 0] ?_
  change Run _ _ _ _ _ [(59, _), (0, _)] _ _
  refine run_false rfl (yL rfl ?_)
  obtain rfl := bl_eq hS hws hI (fun h => absurd h h12)
  exact run_end0 Tryz.results56 ⟨rfl, rfl, rfl⟩ (List.Sublist.refl _) (fun _ h => by cases h)
end Go.Jw

