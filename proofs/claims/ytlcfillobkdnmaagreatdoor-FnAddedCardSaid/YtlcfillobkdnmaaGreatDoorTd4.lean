/- Part 4 of the proof's texts, made small by a program. -/
import Derived.Test.YtlcfillobkdnmaaGreatDoorTd3
import Derived.Deep.QuietTactic
import Derived.Lib.RowBridge
import Derived.Lib.SortBridge
import Derived.Sort.LotA
import Derived.WalkKit
import Derived.Laws.FloatArith
import Derived.Scope
import Derived.Laws.Externs
import Derived.Laws.Small
import Derived.Laws.MakeOwn
import Derived.Lib.ParseIntBTie
import Derived.Lib.AtoiTie
import Derived.Lib.ItoaMem
set_option linter.unusedVariables false
set_option linter.unusedSimpArgs false
set_option maxHeartbeats 4000000
namespace Go.Jw
open Go Go.RowKit Go.Proofs
set_option maxRecDepth 8000
def keyOf : Nat → ByteArray
  | 1 => k1
  | 2 => k2
  | 3 => k3
  | 6 => k6
  | 7 => k7
  | 8 => k8
  | 9 => k9
  | 10 => k10
  | 11 => k11
  | 12 => k12
  | 13 => k13
  | 14 => k14
  | 15 => k15
  | 16 => k16
  | 17 => k17
  | 18 => k18
  | 19 => k19
  | 20 => k20
  | 21 => k21
  | 22 => k22
  | 23 => k23
  | 24 => k24
  | 25 => k25
  | 26 => k26
  | 27 => k27
  | 28 => k28
  | 29 => k29
  | 30 => k30
  | 31 => k31
  | 32 => k32
  | 33 => k33
  | 34 => k34
  | 35 => k35
  | 36 => k36
  | _ => ⟨#[]⟩
def kwAll : List Nat := [36, 32, 31, 30, 29, 28, 26, 20, 19, 18, 17, 16, 14, 13, 12, 11, 10, 9, 8, 7, 6, 3, 25, 23, 24, 22, 21, 34, 15, 27, 1, 2, 33]
theorem kw_case {key : ByteArray} : key = keyOf (kwIdx key) ∧ kwIdx key ∈ [35, 36, 32, 31, 30, 29, 28, 26, 20, 19, 18, 17, 16, 14, 13, 12, 11, 10, 9, 8, 7, 6, 3, 25, 23, 24, 22, 21, 34, 15, 27, 1, 2, 33] ∨ kwIdx key = 0 := by
 unfold kwIdx
 by_cases e1 : key = ⟨#[36, 115, 99, 104, 101, 109, 97]⟩
 ·rw [if_pos e1]; exact .inl ⟨e1, by decide⟩
 rw [if_neg e1]
 by_cases e2 : key = ⟨#[105, 100]⟩
 ·rw [if_pos e2]; exact .inl ⟨e2, by decide⟩
 rw [if_neg e2]
 by_cases e6 : key = ⟨#[109, 117, 108, 116, 105, 112, 108, 101, 79, 102]⟩
 ·rw [if_pos e6]; exact .inl ⟨e6, by decide⟩
 rw [if_neg e6]
 by_cases e7 : key = ⟨#[109, 97, 120, 105, 109, 117, 109]⟩
 ·rw [if_pos e7]; exact .inl ⟨e7, by decide⟩
 rw [if_neg e7]
 by_cases e8 : key = ⟨#[101, 120, 99, 108, 117, 115, 105, 118, 101, 77, 97, 120, 105, 109, 117, 109]⟩
 ·rw [if_pos e8]; exact .inl ⟨e8, by decide⟩
 rw [if_neg e8]
 by_cases e9 : key = ⟨#[109, 105, 110, 105, 109, 117, 109]⟩
 ·rw [if_pos e9]; exact .inl ⟨e9, by decide⟩
 rw [if_neg e9]
 by_cases e10 : key = ⟨#[101, 120, 99, 108, 117, 115, 105, 118, 101, 77, 105, 110, 105, 109, 117, 109]⟩
 ·rw [if_pos e10]; exact .inl ⟨e10, by decide⟩
 rw [if_neg e10]
 by_cases e11 : key = ⟨#[109, 97, 120, 76, 101, 110, 103, 116, 104]⟩
 ·rw [if_pos e11]; exact .inl ⟨e11, by decide⟩
 rw [if_neg e11]
 by_cases e12 : key = ⟨#[109, 105, 110, 76, 101, 110, 103, 116, 104]⟩
 ·rw [if_pos e12]; exact .inl ⟨e12, by decide⟩
 rw [if_neg e12]
 by_cases e13 : key = ⟨#[112, 97, 116, 116, 101, 114, 110]⟩
 ·rw [if_pos e13]; exact .inl ⟨e13, by decide⟩
 rw [if_neg e13]
 by_cases e14 : key = ⟨#[97, 100, 100, 105, 116, 105, 111, 110, 97, 108, 73, 116, 101, 109, 115]⟩
 ·rw [if_pos e14]; exact .inl ⟨e14, by decide⟩
 rw [if_neg e14]
 by_cases e15 : key = ⟨#[105, 116, 101, 109, 115]⟩
 ·rw [if_pos e15]; exact .inl ⟨e15, by decide⟩
 rw [if_neg e15]
 by_cases e16 : key = ⟨#[109, 97, 120, 73, 116, 101, 109, 115]⟩
 ·rw [if_pos e16]; exact .inl ⟨e16, by decide⟩
 rw [if_neg e16]
 by_cases e17 : key = ⟨#[109, 105, 110, 73, 116, 101, 109, 115]⟩
 ·rw [if_pos e17]; exact .inl ⟨e17, by decide⟩
 rw [if_neg e17]
 by_cases e18 : key = ⟨#[117, 110, 105, 113, 117, 101, 73, 116, 101, 109, 115]⟩
 ·rw [if_pos e18]; exact .inl ⟨e18, by decide⟩
 rw [if_neg e18]
 by_cases e19 : key = ⟨#[109, 97, 120, 80, 114, 111, 112, 101, 114, 116, 105, 101, 115]⟩
 ·rw [if_pos e19]; exact .inl ⟨e19, by decide⟩
 rw [if_neg e19]
 by_cases e20 : key = ⟨#[109, 105, 110, 80, 114, 111, 112, 101, 114, 116, 105, 101, 115]⟩
 ·rw [if_pos e20]; exact .inl ⟨e20, by decide⟩
 rw [if_neg e20]
 by_cases e21 : key = ⟨#[114, 101, 113, 117, 105, 114, 101, 100]⟩
 ·rw [if_pos e21]; exact .inl ⟨e21, by decide⟩
 rw [if_neg e21]
 by_cases e22 : key = ⟨#[97, 100, 100, 105, 116, 105, 111, 110, 97, 108, 80, 114, 111, 112, 101, 114, 116, 105, 101, 115]⟩
 ·rw [if_pos e22]; exact .inl ⟨e22, by decide⟩
 rw [if_neg e22]
 by_cases e23 : key = ⟨#[112, 114, 111, 112, 101, 114, 116, 105, 101, 115]⟩
 ·rw [if_pos e23]; exact .inl ⟨e23, by decide⟩
 rw [if_neg e23]
 by_cases e24 : key = ⟨#[112, 97, 116, 116, 101, 114, 110, 80, 114, 111, 112, 101, 114, 116, 105, 101, 115]⟩
 ·rw [if_pos e24]; exact .inl ⟨e24, by decide⟩
 rw [if_neg e24]
 by_cases e25 : key = ⟨#[100, 101, 112, 101, 110, 100, 101, 110, 99, 105, 101, 115]⟩
 ·rw [if_pos e25]; exact .inl ⟨e25, by decide⟩
 rw [if_neg e25]
 by_cases e26 : key = ⟨#[101, 110, 117, 109]⟩
 ·rw [if_pos e26]; exact .inl ⟨e26, by decide⟩
 rw [if_neg e26]
 by_cases e27 : key = ⟨#[116, 121, 112, 101]⟩
 ·rw [if_pos e27]; exact .inl ⟨e27, by decide⟩
 rw [if_neg e27]
 by_cases e28 : key = ⟨#[97, 108, 108, 79, 102]⟩
 ·rw [if_pos e28]; exact .inl ⟨e28, by decide⟩
 rw [if_neg e28]
 by_cases e29 : key = ⟨#[97, 110, 121, 79, 102]⟩
 ·rw [if_pos e29]; exact .inl ⟨e29, by decide⟩
 rw [if_neg e29]
 by_cases e30 : key = ⟨#[111, 110, 101, 79, 102]⟩
 ·rw [if_pos e30]; exact .inl ⟨e30, by decide⟩
 rw [if_neg e30]
 by_cases e31 : key = ⟨#[110, 111, 116]⟩
 ·rw [if_pos e31]; exact .inl ⟨e31, by decide⟩
 rw [if_neg e31]
 by_cases e32 : key = ⟨#[100, 101, 102, 105, 110, 105, 116, 105, 111, 110, 115]⟩
 ·rw [if_pos e32]; exact .inl ⟨e32, by decide⟩
 rw [if_neg e32]
 by_cases e33 : key = ⟨#[116, 105, 116, 108, 101]⟩
 ·rw [if_pos e33]; exact .inl ⟨e33, by decide⟩
 rw [if_neg e33]
 by_cases e34 : key = ⟨#[100, 101, 115, 99, 114, 105, 112, 116, 105, 111, 110]⟩
 ·rw [if_pos e34]; exact .inl ⟨e34, by decide⟩
 rw [if_neg e34]
 by_cases e35 : key = ⟨#[100, 101, 102, 97, 117, 108, 116]⟩
 ·rw [if_pos e35]; exact .inl ⟨e35, by decide⟩
 rw [if_neg e35]
 by_cases e36 : key = ⟨#[102, 111, 114, 109, 97, 116]⟩
 ·rw [if_pos e36]; exact .inl ⟨e36, by decide⟩
 rw [if_neg e36]
 by_cases e3 : key = ⟨#[36, 114, 101, 102]⟩
 ·rw [if_pos e3]; exact .inl ⟨e3, by decide⟩
 rw [if_neg e3]
 exact .inr rfl
theorem kw_key {key : ByteArray} {q : Nat} (h : kwIdx key = q) (h0 : q ≠ 0) : key = keyOf q := by
 subst h
 exact kw_case.elim (fun h => h.1) (fun h => absurd h h0)
theorem kw_mem {key : ByteArray} (h0 : kwIdx key ≠ 0) (h35 : kwIdx key ≠ 35) : kwIdx key ∈ kwAll := by
 rcases kw_case (key := key) with h | h
 ·exact (List.mem_cons.1 h.2).elim (fun e => absurd e h35) id
 ·exact absurd h h0
theorem kw_range {key : ByteArray} (h0 : kwIdx key ≠ 0) : 1 ≤ kwIdx key ∧ kwIdx key ≤ 36 := by
 rcases kw_case (key := key) with h | h
 ·have := h.2
  generalize kwIdx key = q at this
  simp only [List.mem_cons, List.not_mem_nil, or_false] at this
  omega
 ·exact absurd h h0
theorem kw_inj {a b : ByteArray} (h : kwIdx a = kwIdx b) (h0 : kwIdx a ≠ 0) : a = b := (kw_key rfl h0).trans (by rw [h]; exact (kw_key rfl (by rwa [← h])).symm)
structure WI (v : V) (f : Flds) (qs : List Nat) (L : List (ByteArray × Y)) : Prop where
 nd : (L.map fun p => kwIdx p.1).Nodup
 mem : ∀ p ∈ L, kwIdx p.1 ∈ qs ∧ kwIdx p.1 ≠ 0 ∧ kwIdx p.1 ≠ 35 ∧ ∃ x, getV v p.1 = some x ∧ ItemR OutR (shIdx (kwIdx p.1)) x p.2
 all : ∀ q ∈ qs, f q ≠ none → ∃ p ∈ L, kwIdx p.1 = q
 len : L.length ≤ qs.length
theorem WI.nil (v : V) (f : Flds) : WI v f [] [] := ⟨by simp, by simp, by simp, by simp⟩
theorem WI.skip {v : V} {f : Flds} {qs : List Nat} {L : List (ByteArray × Y)} {q : Nat} (h : WI v f qs L) (hq : f q = none) : WI v f (q :: qs) L :=
 ⟨h.nd, fun p hp => ⟨List.mem_cons_of_mem _ (h.mem p hp).1, (h.mem p hp).2⟩, fun r hr hn => (List.mem_cons.1 hr).elim (fun e => absurd (e ▸ hq) hn) (fun hr => h.all r hr hn), Nat.le_succ_of_le h.len⟩
theorem WI.add {v : V} {f : Flds} {qs : List Nat} {L : List (ByteArray × Y)} {q : Nat} {key : ByteArray} {x : V} {z : Y} (h : WI v f qs L) (hn : qs.contains q = false) (hkw : kwIdx key = q) (h0 : q ≠ 0) (h35 : q ≠ 35) (hx : getV v key = some x) (hi : ItemR OutR (shIdx q) x z) : WI v f (q :: qs) (L ++ [(key, z)]) := by
 have hn' : q ∉ qs := by simpa using hn
 subst hkw
 refine ⟨?_, ?_, ?_, by simp; exact h.len⟩
 ·rw [List.map_append, List.nodup_append]
  refine ⟨h.nd, by simp, ?_⟩
  intro a ha b hb hab
  obtain ⟨p, hp, rfl⟩ := List.mem_map.1 ha
  simp only [List.map_cons, List.map_nil, List.mem_singleton] at hb
  subst hab
  exact hn' (hb ▸ (h.mem p hp).1)
 ·intro p hp
  rcases List.mem_append.1 hp with hp | hp
  ·exact ⟨List.mem_cons_of_mem _ (h.mem p hp).1, (h.mem p hp).2⟩
  ·rw [List.mem_singleton.1 hp]
   exact ⟨List.mem_cons_self, h0, h35, x, hx, hi⟩
 ·intro r hr hnn
  rcases List.mem_cons.1 hr with rfl | hr
  ·exact ⟨(key, z), by simp, rfl⟩
  ·obtain ⟨p, hp, e⟩ := h.all r hr hnn
   exact ⟨p, List.mem_append_left _ hp, e⟩
theorem WI.out {G : Gr} {v : V} {f : Flds} {L : List (ByteArray × Y)} (h : WI v f kwAll L) (hU : ∀ i, 1 ≤ i → i ≤ 36 → FldRel (fun b x => Unf G x b) v i (f i)) : OutR v (RKids 4 (L.flatMap prY)) := by
 refine (outR_iff v _).2 ⟨L, rfl, h.nd, fun p hp => (h.mem p hp).2, fun key x hx h0 h35 => ?_⟩
 have hm := kw_mem h0 h35
 have hq := kw_range h0
 have hf := hU _ hq.1 hq.2
 obtain ⟨p, hp, e⟩ := h.all _ hm (fun hn => by rw [hn] at hf; have := hf key rfl; rw [hx] at this; cases this)
 exact ⟨p, hp, kw_inj e (by rw [e]; exact h0)⟩
theorem IsPlain.len60 : ∀ {d : Nat} {t : V}, IsPlain d t → t.items.length ≤ 60
  | 0, .mk q m s ks ts, h => by
    obtain ⟨_, h2, _⟩ := h
    simp only [V.items] at h2 ⊢
    subst h2; simp
  | d + 1, .mk q m s ks ts, h => by
    rcases h with ⟨_, h2, _⟩ | ⟨_, h2, _⟩
    · simp only [V.items] at h2 ⊢
      subst h2; simp
    · exact h2
theorem Pl.len {v : V} (h : Pl v) : v.items.length ≤ 60 := h.elim fun _ h => h.len60
theorem perm_len {ps : List (ByteArray × V)} {x : V} (hp : ps.Perm (x.keys.zip x.items)) (h : x.items.length ≤ 60) : ps.length ≤ 400000 := by
 rw [hp.length_eq, List.length_zip]; omega
structure Fld (ft : DA) (mb : Nat) (G : Gr) (sh : Int) (x : V) : Prop where
 pl : Pl x
 fit : FitLoc sh x
 kid : ∀ z ∈ kidsOf sh x, C105 ft mb G z
 num : sh = 3 → x.kind = 6 → CtR Tryz.prog 188 #[.float .f64 (quartBits x.num)] [ft] (RN (scal tFloat (quartF x.num)))
section
variable {ft : DA} {mb : Nat} {G : Gr} {x : V} {fv : FVal} {u : Value}
theorem Fld.int (h : x.kind = 2 ∨ x.kind = 6) (hp : Pl x) : -9223372036854775808 ≤ x.num ∧ x.num ≤ 9223372036854775807 := by
 have := hp.num.num h
 omega
theorem CtR.data {P : Program} {f : FuncId} {args : Array Value} {D D2 : List DA} {R : Value → List DA → Prop} (h : CtR P f args D R) (hs : ∀ d ∈ D, d ∈ D2) : CtR P f args D2 R := Ct.data h hs
theorem w3 (h : Fld ft mb G 3 x) (hr : FvRel (fun b z => Unf G z b) 3 x fv) : CtR Tryz.prog 160 #[u] [.fv u fv, .gr mb G, .tab, ft] (fun u D' => ∃ z, ItemR OutR 3 x z ∧ RN z u D') := by
 cases fv <;> try exact absurd hr.1 (by decide)
 case any => exact absurd (show (3 : Int) = 14 from hr) (by decide)
 case numI n =>
  obtain ⟨_, hk, rfl⟩ := hr
  have hb := Fld.int (.inl hk) h.pl
  exact ((c160i u x.num hb.1 hb.2).data (sub2 0 2 rfl rfl)).mono fun u D' hn => ⟨_, .inr (.inr (.inl ⟨rfl, hk, rfl⟩)), hn⟩
 case numF n =>
  obtain ⟨_, hk, rfl⟩ := hr
  exact ((c160f ft u _ _ (h.num rfl hk)).data (sub2 0 3 rfl rfl)).mono fun u D' hn => ⟨_, .inr (.inr (.inr (.inl ⟨rfl, hk, rfl⟩))), hn⟩
theorem w6 (h : Fld ft mb G 6 x) (hr : FvRel (fun b z => Unf G z b) 6 x fv) : CtR Tryz.prog 157 #[u] [.fv u fv, .gr mb G, .tab, ft] (fun u D' => ∃ z, ItemR OutR 6 x z ∧ RN z u D') := by
 cases fv <;> try exact absurd hr.1 (by decide)
 case any => exact absurd (show (6 : Int) = 14 from hr) (by decide)
 case sbS q =>
  obtain ⟨_, hk, hU⟩ := hr
  refine (c157s ft mb G u q x hU (h.kid x (by rw [kids6 hk]; simp))).mono fun u D' hn => ?_
  obtain ⟨z, hz, hn⟩ := hn
  exact ⟨z, .inr (.inr (.inr (.inr (.inr (.inr (.inr (.inl ⟨rfl, hk, hz⟩))))))), hn⟩
 case sbB b =>
  obtain ⟨_, hk, rfl⟩ := hr
  exact ((c157b u _).data (sub1 0 rfl)).mono fun u D' hn => ⟨_, .inr (.inr (.inr (.inr (.inr (.inr (.inl ⟨rfl, hk, rfl⟩)))))), hn⟩
theorem w7 (h : Fld ft mb G 7 x) (hr : FvRel (fun b z => Unf G z b) 7 x fv) : CtR Tryz.prog 155 #[u] [.fv u fv, .gr mb G, .tab, ft] (fun u D' => ∃ z, ItemR OutR 7 x z ∧ RN z u D') := by
 cases fv <;> try exact absurd hr.1 (by decide)
 case any => exact absurd (show (7 : Int) = 14 from hr) (by decide)
 case itS q =>
  obtain ⟨_, hk, hU⟩ := hr
  refine (c155s ft mb G u q x hU (h.kid x (by rw [kids7 hk]; simp))).mono fun u D' hn => ?_
  obtain ⟨z, hz, hn⟩ := hn
  exact ⟨z, .inr (.inr (.inr (.inr (.inr (.inr (.inr (.inr (.inl ⟨rfl, hk, hz⟩)))))))), hn⟩
 case itL bs =>
  obtain ⟨_, hk, hU⟩ := hr
  have h5 : ∀ y ∈ x.items, y.kind = 5 := by
   have := h.fit
   simp [FitLoc, hk] at this
   exact this
  refine (c155l ft mb G u bs x.items (by have := h.pl.len; omega) hU (fun z hz => h.kid z (by rw [kids7l hk h5]; exact hz))).mono fun u D' hn => ?_
  obtain ⟨zs, hz, hn⟩ := hn
  exact ⟨_, .inr (.inr (.inr (.inr (.inr (.inr (.inr (.inr (.inr (.inl ⟨rfl, hk, zs, rfl, hz⟩))))))))), hn⟩
theorem w9 (h : Fld ft mb G 9 x) (hr : FvRel (fun b z => Unf G z b) 9 x fv) : CtR Tryz.prog 158 #[u] [.fv u fv, .gr mb G, .tab, ft] (fun u D' => ∃ z, ItemR OutR 9 x z ∧ RN z u D') := by
 cases fv <;> try exact absurd hr.1 (by decide)
 case any => exact absurd (show (9 : Int) = 14 from hr) (by decide)
 case named l =>
  obtain ⟨_, ps, hp, hU⟩ := hr
  have h5 : ∀ y ∈ x.items, y.kind = 5 := by
   have := h.fit
   simp [FitLoc] at this
   exact this.2
  refine (c158 ft mb G u l ps (perm_len hp h.pl.len) hU (fun p hq => h.kid p.2 (by rw [kids9 h5]; exact (List.of_mem_zip (hp.mem_iff.1 hq)).2))).mono fun u D' hn => ?_
  obtain ⟨L, hz, hn⟩ := hn
  exact ⟨_, .inr (.inr (.inr (.inr (.inr (.inr (.inr (.inr (.inr (.inr (.inr (.inl ⟨rfl, ps, L, rfl, hp, hz⟩))))))))))), hn⟩
theorem w10 (h : Fld ft mb G 10 x) (hr : FvRel (fun b z => Unf G z b) 10 x fv) : CtR Tryz.prog 159 #[u] [.fv u fv, .gr mb G, .tab, ft] (fun u D' => ∃ z, ItemR OutR 10 x z ∧ RN z u D') := by
 cases fv <;> try exact absurd hr.1 (by decide)
 case any => exact absurd (show (10 : Int) = 14 from hr) (by decide)
 case deps l =>
  obtain ⟨_, ps, hp, rfl⟩ := hr
  refine ((c159 u _ (by rw [List.length_map]; exact perm_len hp h.pl.len) (fun q hq => ?_)).data (sub1 0 rfl)).mono fun u D' hn => ?_
  ·obtain ⟨p, hm, rfl⟩ := List.mem_map.1 hq
   have := (h.pl.item p.2 (List.of_mem_zip (hp.mem_iff.1 hm)).2).len
   rw [List.length_map]; omega
  ·rw [List.map_map] at hn
   exact ⟨_, .inr (.inr (.inr (.inr (.inr (.inr (.inr (.inr (.inr (.inr (.inr (.inr (.inl ⟨rfl, ps, hp, rfl⟩)))))))))))), hn⟩
theorem w11 (h : Fld ft mb G 11 x) (hr : FvRel (fun b z => Unf G z b) 11 x fv) : CtR Tryz.prog 162 #[u] [.fv u fv, .gr mb G, .tab, ft] (fun u D' => ∃ z, ItemR OutR 11 x z ∧ RN z u D') := by
 cases fv <;> try exact absurd hr.1 (by decide)
 case any => exact absurd (show (11 : Int) = 14 from hr) (by decide)
 case enums l =>
  obtain ⟨_, rfl⟩ := hr
  exact ((c162 u _ (by rw [List.length_map]; have := h.pl.len; omega)).data (sub1 0 rfl)).mono fun u D' hn => ⟨_, .inr (.inr (.inr (.inr (.inr (.inr (.inr (.inr (.inr (.inr (.inr (.inr (.inr (.inl ⟨rfl, rfl⟩))))))))))))), hn⟩
theorem w12 (h : Fld ft mb G 12 x) (hr : FvRel (fun b z => Unf G z b) 12 x fv) : CtR Tryz.prog 154 #[u] [.fv u fv, .gr mb G, .tab, ft] (fun u D' => ∃ z, ItemR OutR 12 x z ∧ RN z u D') := by
 cases fv <;> try exact absurd hr.1 (by decide)
 case any => exact absurd (show (12 : Int) = 14 from hr) (by decide)
 case tyS s =>
  obtain ⟨_, hk, rfl⟩ := hr
  exact ((c154s u _).data (sub1 0 rfl)).mono fun u D' hn => ⟨_, .inr (.inr (.inr (.inr (.inr (.inr (.inr (.inr (.inr (.inr (.inr (.inr (.inr (.inr (.inl ⟨rfl, hk, rfl⟩)))))))))))))), hn⟩
 case tyL s =>
  obtain ⟨_, hk, rfl⟩ := hr
  exact ((c154l u _ (by rw [List.length_map]; have := h.pl.len; omega)).data (sub1 0 rfl)).mono fun u D' hn => ⟨_, .inr (.inr (.inr (.inr (.inr (.inr (.inr (.inr (.inr (.inr (.inr (.inr (.inr (.inr (.inr (.inl ⟨rfl, hk, rfl⟩))))))))))))))), hn⟩
theorem w8 {sl : Value} {bs : List ByteArray} (h : Fld ft mb G 8 x) (hr : bs = x.items.map V.text) : CtR Tryz.prog 156 #[sl] [.strs sl bs] (fun u D' => ∃ z, ItemR OutR 8 x z ∧ RN z u D') := by
 subst hr
 exact (c156 sl _ (by rw [List.length_map]; have := h.pl.len; omega)).mono fun u D' hn => ⟨_, .inr (.inr (.inr (.inr (.inr (.inr (.inr (.inr (.inr (.inr (.inl ⟨rfl, rfl⟩)))))))))), hn⟩
theorem w13 {sl : Value} {bs : List Nat} (h : Fld ft mb G 13 x) (hr : All2 (fun b z => Unf G z b) bs x.items) : CtR Tryz.prog 163 #[sl] [.rowp sl bs, .gr mb G, .tab, ft] (fun u D' => ∃ z, ItemR OutR 13 x z ∧ RN z u D') := by
 have h5 : ∀ y ∈ x.items, y.kind = 5 := by
  have := h.fit
  simp [FitLoc] at this
  exact this.2
 refine (c163 ft mb G sl bs x.items (by have := h.pl.len; omega) hr (fun z hz => h.kid z (by rw [kids13 h5]; exact hz))).mono fun u D' hn => ?_
 obtain ⟨zs, hz, hn⟩ := hn
 exact ⟨_, .inr (.inr (.inr (.inr (.inr (.inr (.inr (.inr (.inr (.inr (.inr (.inr (.inr (.inr (.inr (.inr ⟨rfl, zs, rfl, hz⟩))))))))))))))), hn⟩
theorem w5 {b : Nat} (h : Fld ft mb G 5 x) (hr : Unf G x b) : CtR Tryz.prog 105 #[ptr b] [.gr mb G, .tab, ft] (fun u D' => ∃ z, ItemR OutR 5 x z ∧ RN z u D') := by
 refine (h.kid x (by simp [kidsOf]) b hr).mono fun u D' hn => ?_
 obtain ⟨z, hz, hn⟩ := hn
 exact ⟨z, .inr (.inr (.inr (.inr (.inr (.inl ⟨rfl, hz⟩))))), hn⟩
end
section rules
variable {P : Program} {n : Nat} {F : List Nat} {c : Ctx F} {ops : Array Oper} {d : Nat} {T : TypeId} {l : List Oper} {k : List KI} {Q : Post} {e : Env} {M : List HA} {D : List DA}
theorem run_fld (j q : Nat) {mb : Nat} {cs : List Value} {f : Flds} {G : Gr} {v : V} {p : Option Addr} (hj : D[j]? = some (.flds mb cs f)) (h0 : q ≠ 0) (h36 : q ≤ 36) (hc : cs[q]? = some (.pointer p)) (hp : p.isSome = (f q).isSome) (hb : p.isSome = true) (hU : ∀ i, 1 ≤ i → i ≤ 36 → FldRel (fun b x => Unf G x b) v i (f i))
  (next : ∀ fv x a, p = some a → f q = some fv → getV v (keyOf q) = some x → kwIdx (keyOf q) = q → FvRel (fun b x => Unf G x b) (shIdx q) x fv → Run P n c k Q e M (.fv (.pointer (some a)) fv :: D)) : Run P n c k Q e M D := by
 obtain ⟨a, rfl⟩ := Option.isSome_iff_exists.1 hb
 rw [hb] at hp
 obtain ⟨fv, hfv⟩ := Option.isSome_iff_exists.1 hp.symm
 have hr := hU q (by omega) h36
 rw [hfv] at hr
 obtain ⟨key, x, hkw, hgx, hrel⟩ := hr
 have hkey := kw_key hkw h0
 subst hkey
 refine zY (.fv (.pointer (some a)) fv) (fun w ok h => ?_) (next fv x a rfl hfv hgx hkw hrel)
 obtain ⟨u, hu, hm⟩ := (dget h j hj : (DA.flds mb cs f).p w ok).2.2 q (by omega) h36
 rw [hc] at hu
 cases hu
 rw [hfv] at hm
 exact hm
theorem qB (j q : Nat) {mb : Nat} {cs : List Value} {f : Flds} (hj : D[j]? = some (.flds mb cs f)) (h1 : 1 ≤ q) (h2 : q ≤ 36) (next : ∀ p, cs[q]? = some (.pointer p) → p.isSome = (f q).isSome → Run P n c k Q e M D) : Run P n c k Q e M D := by
 intro a w hf
 obtain ⟨p, h3, h4⟩ := fld_cell (hf.toFitsW.dt hj) q h1 h2
 exact next p h3 h4 a w hf
end rules
theorem none_of {p : Option Addr} {o : Option FVal} (hp : p.isSome = o.isSome) (h : p.isSome = false) : o = none := by
  rw [h] at hp
  cases o with
  | none => rfl
  | some v => cases hp
theorem ro_none {G : Gr} {v : V} {f : Flds} (hU : ∀ i, 1 ≤ i → i ≤ 36 → FldRel (fun b x => Unf G x b) v i (f i)) (q : Nat) (h1 : 1 ≤ q) (h2 : q ≤ 36) (hq : (q :: kwAll).Nodup) (h35 : q ≠ 35) : f q = none := by
  have := hU q h1 h2
  cases hf : f q with
  | none => rfl
  | some fv =>
    rw [hf] at this
    obtain ⟨key, x, hk, _⟩ := this
    have := kw_mem (key := key) (by omega) (by omega)
    rw [hk] at this
    exact absurd this (List.nodup_cons.1 hq).1
theorem bool_of {U : Nat → V → Prop} {x : V} {fv : FVal} (h : FvRel U 2 x fv) : fv = .bool (decide (x.num = 1)) := by
 cases fv <;> simp_all [FvRel]
theorem int_of {U : Nat → V → Prop} {x : V} {fv : FVal} (h : FvRel U 4 x fv) : fv = .int x.num := by
 cases fv <;> simp_all [FvRel]
theorem texts_of {U : Nat → V → Prop} {x : V} {fv : FVal} (h : FvRel U 8 x fv) : fv = .texts (x.items.map V.text) := by
 cases fv <;> simp_all [FvRel]
theorem list_of {U : Nat → V → Prop} {x : V} {fv : FVal} (h : FvRel U 13 x fv) : ∃ bs, fv = .list bs ∧ All2 U bs x.items := by
 cases fv <;> simp_all [FvRel]
theorem one_of {U : Nat → V → Prop} {x : V} {fv : FVal} (h : FvRel U 5 x fv) : ∃ b, fv = .one b ∧ U b x := by
 cases fv <;> simp_all [FvRel]
theorem run_joinE {P : Program} {n : Nat} {F : List Nat} {c : Ctx F} {k : List KI} {Q : Post} {e : Env} {M : List HA} {D : List DA} {α : Type} {x : Code} (ts : List Nat) (I : α → Prop) (ch : α → Env) (MM : α → List HA) (DD : α → List DA)
  (h1 : ∀ K : Act → World → Prop, (∀ y, I y → ∀ a w, Fits n c (ch y ++ keep ts e) (MM y) (DD y) a w → K a w) → Run P n c (.code x :: .cont K :: k) Q e M D)
  (h2 : ∀ y, I y → Run P n c k Q (ch y ++ keep ts e) (MM y) (DD y)) : Run P n c (.code x :: k) Q e M D :=
 run_join (α := {y : α // I y}) (fun y => ch y.1 ++ keep ts e) (fun y => MM y.1) (fun y => DD y.1) (fun K hK => h1 K (fun y hy => hK ⟨y, hy⟩)) (fun y => h2 y.1 y.2)

theorem c152f (s : ByteArray) (hs : s.size ≤ maxLen) (hf : IsFourth s) : ∃ T : ByteArray, (T = ⟨#[104, 116, 116, 112, 58, 47, 47, 106, 115, 111, 110, 45, 115, 99, 104, 101, 109, 97, 46, 111, 114, 103, 47, 100, 114, 97, 102, 116, 45, 48, 52, 47, 115, 99, 104, 101, 109, 97]⟩ ∨ T = ⟨#[35]⟩ ∨ T = ⟨#[]⟩) ∧ CtV Tryz.prog 152 #[.string s, .string ⟨#[35]⟩] [] (.string T) := by
 refine ⟨_, ?_, c152 s hs⟩
 rcases hf with rfl | rfl | rfl | rfl | rfl
 ·exact .inl (by decide +kernel)
 ·exact .inl (by decide +kernel)
 ·exact .inr (.inr (by decide +kernel))
 ·exact .inr (.inr (by decide +kernel))
 ·exact .inr (.inl (by decide +kernel))
section rules
variable {P : Program} {n : Nat} {F : List Nat} {c : Ctx F} {k : List KI} {Q : Post} {e : Env} {M : List HA} {D : List DA} {q : Nat}
theorem run_cellq (hq : Nm q) (j : Nat) {mb : Nat} {cs : List Value} {f : Flds} (hj : D[j]? = some (.flds mb cs f)) (next : ∀ p, cs[q]? = some (.pointer p) → p.isSome = (f q).isSome → Run P n c k Q e M D) : Run P n c k Q e M D := qB j q hj hq.nmok.1 hq.nmok.2.1 next
theorem tX (hq : Nm q) (j : Nat) {mb mb2 : Nat} {cs : List Value} {f : Flds} {G : Gr} {v : V} {p : Option Addr} {ft : DA} (hj : D[j]? = some (.flds mb cs f)) (hc : cs[q]? = some (.pointer p)) (hp : p.isSome = (f q).isSome) (hb : p.isSome = true) (hU : ∀ i, 1 ≤ i → i ≤ 36 → FldRel (fun b x => Unf G x b) v i (f i))
  (HF : ∀ key x, getV v key = some x → kwIdx key ≠ 0 → Fld ft mb2 G (shIdx (kwIdx key)) x)
  (next : ∀ fv x a, p = some a → getV v (keyOf q) = some x → kwIdx (keyOf q) = q → FvRel (fun b x => Unf G x b) (shIdx q) x fv → Fld ft mb2 G (shIdx q) x → Run P n c k Q e M (.fv (.pointer (some a)) fv :: D)) : Run P n c k Q e M D :=
 run_fld j q hj hq.nmok.2.2.1 hq.nmok.2.1 hc hp hb hU (fun fv x a hpa _ hgx hkw hr => next fv x a hpa hgx hkw hr (by have := HF _ _ hgx (by rw [hkw]; exact hq.nmok.2.2.1); rwa [hkw] at this))
theorem wrJ (hq : Nm q) {v : V} {f : Flds} {l : List Nat} {n0 m0 ca0 : Nat} {A0 : Option Addr} {xs0 : List Value} {L0 : List (ByteArray × Y)} {M1 : List HA} {D1 : List DA} {x : Code} {e2 : Env} (hW : WI v f l L0) (hm : m0 ≤ n0) (he : keepL [3, 0] e = some e2)
  (h1 : ∀ K : Act → World → Prop, (∀ m A ca xs L, WI v f (q :: l) L → m ≤ n0 + 2 → ∀ a w, Fits n c ((4, .slice A m ca) :: e2) (HA.row A m ca 102 1 xs :: M1) (.ptrs xs (L.flatMap prY) :: D1) a w → K a w) → Run P n c (.code x :: .cont K :: k) Q e (HA.row A0 m0 ca0 102 1 xs0 :: M1) (.ptrs xs0 (L0.flatMap prY) :: D1))
  (h2 : ∀ m A ca xs L, WI v f (q :: l) L → m ≤ n0 + 2 → Run P n c k Q ((4, .slice A m ca) :: e2) (HA.row A m ca 102 1 xs :: M1) (.ptrs xs (L.flatMap prY) :: D1)) : Run P n c (.code x :: k) Q e (HA.row A0 m0 ca0 102 1 xs0 :: M1) (.ptrs xs0 (L0.flatMap prY) :: D1) :=
 run_join (α := {y : Nat × Option Addr × Nat × List Value × List (ByteArray × Y) // WI v f (q :: l) y.2.2.2.2 ∧ y.1 ≤ n0 + 2}) (fun y => (4, .slice y.1.2.1 y.1.1 y.1.2.2.1) :: e2) (fun y => HA.row y.1.2.1 y.1.1 y.1.2.2.1 102 1 y.1.2.2.2.1 :: M1) (fun y => .ptrs y.1.2.2.2.1 (y.1.2.2.2.2.flatMap prY) :: D1)
  (fun K hK => h1 K (fun m A ca xs L hW hm => hK ⟨(m, A, ca, xs, L), hW, hm⟩)) (fun y => h2 _ _ _ _ _ y.2.1 y.2.2)
theorem run_either {x : Operand} {b : Bool} (hx : ev e x = some (.bool b)) (h : Run P n c k Q e M D) : Run P n c (.code (.cond x .skip .skip) :: k) Q e M D := yQ hx (fun _ => rM h) (fun _ => rM h)
end rules
theorem iH {q : Nat} {X1 X2 A B C : Prop} (hF : FieldOff Tryz.prog 124 q q) (sc : X1) (pn : X2) (y : C) (x : B) (hq : Nm q := by exact rfl) (h : Nm q → FieldOff Tryz.prog 124 q q → X1 → X2 → C → B → A := by
  intro hq hF sc pn y k
  refine run_cellq hq 2 rfl (fun p hc hp => ?_)
  refine rO 8 rfl ?_
  refine zB hF rfl rfl ?_
  refine oO 1 rfl ?_
  refine zF 1 sc rfl rfl rfl hc ?_
  refine oO 1 rfl ?_
  refine xH pn rfl rfl ?_
  refine oR 1 rfl ?_
  refine wrJ hq hW hm rfl (fun K hK => ?_) k
  refine yQ rfl (fun h => ?_) (fun h => ?_)
  · revert p hc hp K hK h
    exact y
  refine rR 1 rfl ?_
  exact wC (hK _ _ _ _ _ (hW.skip (none_of hp h)) (Nat.le_add_right_of_le hm)) (eC rfl (eC rfl (eC rfl (eN _)))) (by repeat (first | exact wT _ | exact yB _ | refine zD 0 rfl ?_ | refine zD 1 rfl ?_ | refine zD 2 rfl ?_)) sQ) : A := h hq hF sc pn y x
theorem t1 {q : Nat} {A : Prop} (hF : FieldOff Tryz.prog 124 q q) (hq : Nm q := by exact rfl) (h : Nm q → FieldOff Tryz.prog 124 q q → A := by
  intro hq hF p hc hp K hK h
  refine tX hq 2 rfl hc hp h hU HF (fun fv x a hpa hgx hkw hr hL => ?_)
  subst hpa
  change FvRel _ 1 x fv at hr
  obtain rfl := text_of hr
  refine run_text 0 rfl (fun p hp hs => ?_)
  cases hp
  refine rO 8 rfl ?_
  refine zB hF rfl rfl ?_
  refine oO 1 rfl ?_
  refine zF 3 sc111 rfl rfl rfl hc ?_
  refine oO 3 rfl ?_
  refine xC 0 sc9 rfl rfl rfl ?_
  refine oO 1 rfl ?_
  refine zR rfl rfl rfl (c151 _ hs) sub0 (fun u D hv => ?_)
  obtain ⟨b1, rfl, rfl⟩ := hv
  refine oO 1 rfl ?_
  refine xF 0 rfl rfl rfl (c150 _ _ _ _ _ _ (by decide) (by omega)) rfl sub0 (fun u M D hv => ?_)
  obtain ⟨A1, c1, b2, rfl, rfl, rfl⟩ := hv
  refine oR 3 rfl ?_
  refine vD 4 0 1 rfl rfl rfl ?_
  exact wC (hK _ _ _ _ _ (hW.add rfl hkw hq.nmok.2.2.1 hq.nmok.2.2.2 hgx (.inl ⟨rfl, rfl⟩)) (by show _ + 2 ≤ _; omega)) (eC rfl (eC rfl (eC rfl (eN _)))) (by repeat (first | exact wT _ | exact yB _ | refine zD 0 rfl ?_ | refine zD 1 rfl ?_ | refine zD 2 rfl ?_)) (subc 0 rfl sQ)) : A := h hq hF
theorem t2 {q : Nat} {A : Prop} (hF : FieldOff Tryz.prog 124 q q) (hq : Nm q := by exact rfl) (h : Nm q → FieldOff Tryz.prog 124 q q → A := by
  intro hq hF p hc hp K hK h
  refine tX hq 2 rfl hc hp h hU HF (fun fv x a hpa hgx hkw hr hL => ?_)
  subst hpa
  change FvRel _ 2 x fv at hr
  obtain rfl := bool_of hr
  refine run_bool 0 rfl (fun p hp => ?_)
  cases hp
  refine rO 8 rfl ?_
  refine zB hF rfl rfl ?_
  refine oO 1 rfl ?_
  refine zF 3 sc112 rfl rfl rfl hc ?_
  refine oO 3 rfl ?_
  refine xC 0 sc4 rfl rfl rfl ?_
  refine oO 1 rfl ?_
  refine zR rfl rfl rfl (c153 _) sub0 (fun u D hv => ?_)
  obtain ⟨b1, rfl, rfl⟩ := hv
  refine oO 1 rfl ?_
  refine xF 0 rfl rfl rfl (c150 _ _ _ _ _ _ (by decide) (by omega)) rfl sub0 (fun u M D hv => ?_)
  obtain ⟨A1, c1, b2, rfl, rfl, rfl⟩ := hv
  refine oR 3 rfl ?_
  refine vD 4 0 1 rfl rfl rfl ?_
  exact wC (hK _ _ _ _ _ (hW.add rfl hkw hq.nmok.2.2.1 hq.nmok.2.2.2 hgx (.inr (.inl ⟨rfl, rfl⟩))) (by show _ + 2 ≤ _; omega)) (eC rfl (eC rfl (eC rfl (eN _)))) (by repeat (first | exact wT _ | exact yB _ | refine zD 0 rfl ?_ | refine zD 1 rfl ?_ | refine zD 2 rfl ?_)) (subc 0 rfl sQ)) : A := h hq hF
theorem t4 {q : Nat} {A : Prop} (hF : FieldOff Tryz.prog 124 q q) (hq : Nm q := by exact rfl) (h : Nm q → FieldOff Tryz.prog 124 q q → A := by
  intro hq hF p hc hp K hK h
  refine tX hq 2 rfl hc hp h hU HF (fun fv x a hpa hgx hkw hr hL => ?_)
  subst hpa
  change FvRel _ 4 x fv at hr
  change Fld ft mb G 4 x at hL
  obtain rfl := int_of hr
  refine run_int 0 rfl (fun p hp => ?_)
  cases hp
  have hn := Fld.int (.inl (by have := hL.fit; simp [FitLoc] at this; exact this.1)) hL.pl
  refine rO 8 rfl ?_
  refine zB hF rfl rfl ?_
  refine oO 1 rfl ?_
  refine zF 3 sc114 rfl rfl rfl hc ?_
  refine oO 3 rfl ?_
  refine xC 0 sc2 rfl rfl rfl ?_
  refine oO 1 rfl ?_
  refine zR rfl rfl rfl (c161 _ hn.1 hn.2) (sub1 6 rfl) (fun u D hv => ?_)
  obtain ⟨b1, rfl, rfl⟩ := hv
  refine oO 1 rfl ?_
  refine xF 0 rfl rfl rfl (c150 _ _ _ _ _ _ (by decide) (by omega)) rfl sub0 (fun u M D hv => ?_)
  obtain ⟨A1, c1, b2, rfl, rfl, rfl⟩ := hv
  refine oR 3 rfl ?_
  refine vD 4 0 1 rfl rfl rfl ?_
  exact wC (hK _ _ _ _ _ (hW.add rfl hkw hq.nmok.2.2.1 hq.nmok.2.2.2 hgx (.inr (.inr (.inr (.inr (.inl ⟨rfl, rfl⟩)))))) (by show _ + 2 ≤ _; omega)) (eC rfl (eC rfl (eC rfl (eN _)))) (by repeat (first | exact wT _ | exact yB _ | refine zD 0 rfl ?_ | refine zD 1 rfl ?_ | refine zD 2 rfl ?_)) (subc 0 rfl sQ)) : A := h hq hF
theorem t13 {q : Nat} {A : Prop} (hF : FieldOff Tryz.prog 124 q q) (hq : Nm q := by exact rfl) (h : Nm q → FieldOff Tryz.prog 124 q q → A := by
  intro hq hF p hc hp K hK h
  refine tX hq 2 rfl hc hp h hU HF (fun fv x a hpa hgx hkw hr hL => ?_)
  subst hpa
  change FvRel _ 13 x fv at hr
  obtain ⟨bs, rfl, hbs⟩ := list_of hr
  refine run_list 0 rfl (fun p sl hp => ?_)
  cases hp
  refine rO 8 rfl ?_
  refine zB hF rfl rfl ?_
  refine oO 1 rfl ?_
  refine zF 4 sc122 rfl rfl rfl hc ?_
  refine oO 3 rfl ?_
  refine xC 0 sc137 rfl rfl rfl ?_
  refine oO 1 rfl ?_
  refine zR rfl rfl rfl (w13 hL hbs) (subc 1 rfl (subc 6 rfl (sub2 7 8 rfl rfl))) (fun u D hv => ?_)
  obtain ⟨z, hz, b1, rfl, rfl⟩ := hv
  refine oO 1 rfl ?_
  refine xF 0 rfl rfl rfl (c150 _ _ _ _ _ _ (by decide) (by omega)) rfl sub0 (fun u M D hv => ?_)
  obtain ⟨A1, c1, b2, rfl, rfl, rfl⟩ := hv
  refine oR 3 rfl ?_
  refine vD 5 0 1 rfl rfl rfl ?_
  exact wC (hK _ _ _ _ _ (hW.add rfl hkw hq.nmok.2.2.1 hq.nmok.2.2.2 hgx hz) (by show _ + 2 ≤ _; omega)) (eC rfl (eC rfl (eC rfl (eN _)))) (by repeat (first | exact wT _ | exact yB _ | refine zD 0 rfl ?_ | refine zD 1 rfl ?_ | refine zD 2 rfl ?_)) (subc 0 rfl sQ)) : A := h hq hF
theorem tG {q : Nat} {X1 X2 A : Prop} (hF : FieldOff Tryz.prog 124 q q) (sc : X1) (w : X2) (hq : Nm q := by exact rfl) (h : Nm q → FieldOff Tryz.prog 124 q q → X1 → X2 → A := by
  intro hq hF sc w p hc hp K hK h
  refine tX hq 2 rfl hc hp h hU HF (fun fv x a hpa hgx hkw hr hL => ?_)
  subst hpa
  refine rO 8 rfl ?_
  refine zB hF rfl rfl ?_
  refine oO 1 rfl ?_
  refine zF 2 sc rfl rfl rfl hc ?_
  refine oO 1 rfl ?_
  refine zR rfl rfl rfl (w hL hr) (subc 0 rfl (subc 4 rfl (sub2 5 6 rfl rfl))) (fun u D hv => ?_)
  obtain ⟨z, hz, b1, rfl, rfl⟩ := hv
  refine oO 1 rfl ?_
  refine xF 0 rfl rfl rfl (c150 _ _ _ _ _ _ (by decide) (by omega)) rfl sub0 (fun u M D hv => ?_)
  obtain ⟨A1, c1, b2, rfl, rfl, rfl⟩ := hv
  refine oR 3 rfl ?_
  refine vD 3 0 1 rfl rfl rfl ?_
  exact wC (hK _ _ _ _ _ (hW.add rfl hkw hq.nmok.2.2.1 hq.nmok.2.2.2 hgx hz) (by show _ + 2 ≤ _; omega)) (eC rfl (eC rfl (eC rfl (eN _)))) (by repeat (first | exact wT _ | exact yB _ | refine zD 0 rfl ?_ | refine zD 1 rfl ?_ | refine zD 2 rfl ?_)) (subc 0 rfl sQ)) : A := h hq hF sc w
theorem t0 {A : Prop} (h : A := by
 refine rO 9 rfl ?_
 refine zB rB rfl rfl ?_
 refine oO 1 rfl ?_
 refine zF 5 sc111 rfl rfl rfl hc ?_
 refine oO 3 rfl ?_
 refine xC 2 sc9 rfl rfl rfl ?_
 refine oO 1 rfl ?_
 refine zR rfl rfl rfl (c151 _ hs) sub0 (fun u D hv => ?_)
 obtain ⟨b1, rfl, rfl⟩ := hv
 refine oO 1 rfl ?_
 refine xF 0 rfl rfl rfl (c150 _ _ _ _ _ _ (by decide) (by omega)) rfl sub0 (fun u M D hv => ?_)
 obtain ⟨A1, c1, b2, rfl, rfl, rfl⟩ := hv
 refine oR 4 rfl ?_
 refine vD 6 0 1 rfl rfl rfl ?_
 exact wC (hK _ _ _ _ _ (hW.add rfl hkw (by decide) (by decide) hgx (.inl ⟨rfl, rfl⟩)) (by show _ + 2 ≤ _; omega)) (eC rfl (eC rfl (eC rfl (eN _)))) (by repeat (first | exact wT _ | exact yB _ | refine zD 0 rfl ?_ | refine zD 1 rfl ?_ | refine zD 2 rfl ?_)) (subc 0 rfl sQ)) : A := h
set_option maxHeartbeats 4000000 in
theorem c105w (ft : DA) (mb : Nat) (G : Gr) (v : V) (HF : ∀ key x, getV v key = some x → kwIdx key ≠ 0 → Fld ft mb G (shIdx (kwIdx key)) x) (hid : ∀ x, getV v kId = some x → ∃ u, getV v kSchema = some u ∧ IsFourth u.text) : C105 ft mb G v := by
 intro b hb
 refine Ct.of_run (args := [ptr b]) Tryz.func105 (by kernel_rfl) rfl Tryz.ntmps105 rfl (fun c => ?_)
 obtain ⟨f, ⟨cs, hg⟩, hU⟩ := (tC G v b).1 hb
 refine run_gr 0 rfl hg (fun mb2 hcl => ?_)
 refine qB 1 1 rfl (by decide) (by decide) (fun p1 hc1 hp1 => ?_)
 refine qB 1 4 rfl (by decide) (by decide) (fun p4 hc4 hp4 => ?_)
 have hn4 : p4.isSome = false := by rw [hp4, ro_none hU 4 (by decide) (by decide) (by decide) (by decide)]; rfl
 refine qB 1 5 rfl (by decide) (by decide) (fun p5 hc5 hp5 => ?_)
 have hn5 : p5.isSome = false := by rw [hp5, ro_none hU 5 (by decide) (by decide) (by decide) (by decide)]; rfl
 refine zY (.ptrs [] (([] : List (ByteArray × Y)).flatMap prY)) (fun w ok h => rfl) (rO 8 rfl ?_)
 refine yF rfl rfl (bu150_0 ..) (oO 1 rfl ?_)
 refine yJ rfl rfl rfl (fun b6 => ?_)
 refine oO 6 rfl (xD sl148 rfl rfl rfl (fun b7 => ?_))
 refine oR 3 rfl ?_
 have hW := WI.nil v f
 have hm := Nat.le_refl 0
 refine iH fo124_33 sc111 pn111 ?_ ?_
 ·exact t1 fo124_33
 intro m A ca xs L hW hm
 refine iH rB sc111 pn111 ?_ ?_
 ·intro p hc hp K hK h
  refine tX (q := 2) rfl 2 rfl hc hp h hU HF (fun fv x a hpa hgx hkw hr hL => ?_)
  subst hpa
  change FvRel _ 1 x fv at hr
  obtain rfl := text_of hr
  refine run_text 0 rfl (fun p hp hs => ?_)
  cases hp
  obtain ⟨u1, hu1, hfo⟩ := hid x hgx
  have hb1 : p1.isSome = true := by
   cases hq1 : p1.isSome with
   | true => rfl
   | false =>
    have := hU 1 (by decide) (by decide)
    rw [none_of hp1 hq1] at this
    rw [show getV v kSchema = none from this kSchema (by decide +kernel)] at hu1
    cases hu1
  refine run_fld 4 1 rfl (by decide) (by decide) hc1 hp1 hb1 hU (fun fv1 x1 a1 hpa1 hfv1 hgx1 hkw1 hr1 => ?_)
  subst hpa1
  change FvRel _ 1 x1 fv1 at hr1
  obtain rfl := text_of hr1
  refine run_text 0 rfl (fun p1 hq1 hs1 => ?_)
  cases hq1
  rw [show getV v kSchema = some x1 from hgx1] at hu1
  cases hu1
  obtain ⟨T, hT, hcT⟩ := c152f _ hs1 hfo
  refine rO 7 rfl (zB fo124_1 rfl rfl ?_)
  refine oO 1 rfl (zF 5 sc111 rfl rfl rfl hc1 ?_)
  refine oO 3 rfl (xC 0 sc9 rfl rfl rfl ?_)
  refine oO 1 rfl (zJ rfl rfl rfl hcT sub0 ?_)
  refine oR 17 rfl (zM rfl (fun h34 => ?_) (fun h34 => ?_))
  ·exact rR 3 rfl (t0)
  refine rR 9 rfl (zM rfl (fun h36 => ?_) (fun h36 => ?_))
  ·exact rR 2 rfl (t0)
  refine rR 8 rfl (zM rfl (fun h38 => ?_) (fun h38 => ?_))
  ·exact rR 1 rfl (t0)
  exact (hT.elim h34 (fun h => h.elim h36 h38)).elim
 intro m A ca xs L hW hm
 refine iH fo124_1 sc111 pn111 ?_ ?_
 ·exact t1 fo124_1
 intro m A ca xs L hW hm
 refine rO 8 rfl (zB fo124_4 rfl rfl ?_)
 refine oO 1 rfl (zF 1 sc112 rfl rfl rfl hc4 ?_)
 refine oO 1 rfl (xH pn112 rfl rfl ?_)
 refine oS 2 rfl (wB (s := 77) rfl hn4 ?_)
 refine oK 11 [4, 3, 0] rfl rfl (rO 8 rfl ?_)
 refine zB fo124_5 rfl rfl (oO 1 rfl ?_)
 refine zF 1 sc112 rfl rfl rfl hc5 (oO 1 rfl ?_)
 refine xH pn112 rfl rfl (oS 2 rfl ?_)
 refine wB (s := 99) rfl hn5 (oK 11 [4, 3, 0] rfl rfl ?_)
 refine iH fo124_27 sc121 pn121 ?_ ?_
 ·exact tG fo124_27 sc121 @w12
 intro m A ca xs L hW hm
 refine iH fo124_15 sc116 pn116 ?_ ?_
 ·exact tG fo124_15 sc116 @w7
 intro m A ca xs L hW hm
 refine iH fo124_34 sc111 pn111 ?_ ?_
 ·exact t1 fo124_34
 intro m A ca xs L hW hm
 refine iH fo124_21 sc117 pn117 ?_ ?_
 ·intro p hc hp K hK h
  refine tX (q := 21) rfl 2 rfl hc hp h hU HF (fun fv x a hpa hgx hkw hr hL => ?_)
  subst hpa
  change FvRel _ 8 x fv at hr
  obtain rfl := texts_of hr
  refine run_texts 0 rfl (fun p sl hp => ?_)
  cases hp
  refine rO 8 rfl (zB fo124_21 rfl rfl ?_)
  refine oO 1 rfl (zF 4 sc117 rfl rfl rfl hc ?_)
  refine oO 3 rfl (xC 0 sc22 rfl rfl rfl ?_)
  refine oO 1 rfl (zR rfl rfl rfl (w8 hL rfl) (sub1 1 rfl) (fun u D hv => ?_))
  obtain ⟨z, hz, b1, rfl, rfl⟩ := hv
  have hq : Nm 21 := rfl
  refine oO 1 rfl ?_
  refine xF 0 rfl rfl rfl (c150 _ _ _ _ _ _ (by decide) (by omega)) rfl sub0 (fun u M D hv => ?_)
  obtain ⟨A1, c1, b2, rfl, rfl, rfl⟩ := hv
  refine oR 3 rfl (vD 5 0 1 rfl rfl rfl ?_)
  exact kQ (hK _ _ _ _ _ (hW.add rfl hkw hq.nmok.2.2.1 hq.nmok.2.2.2 hgx hz) (by show _ + 2 ≤ _; omega)) (eC rfl (eC rfl (eC rfl (eN _)))) (hD := (subc 0 rfl sQ))
 intro m A ca xs L hW hm
 refine iH fo124_22 sc115 pn115 ?_ ?_
 ·exact tG fo124_22 sc115 @w6
 intro m A ca xs L hW hm
 refine iH fo124_24 sc118 pn118 ?_ ?_
 ·exact tG fo124_24 sc118 @w9
 intro m A ca xs L hW hm
 refine iH rT sc118 pn118 ?_ ?_
 ·exact tG rT sc118 @w9
 intro m A ca xs L hW hm
 refine iH fo124_25 sc119 pn119 ?_ ?_
 ·exact tG fo124_25 sc119 @w10
 intro m A ca xs L hW hm
 refine iH fo124_3 sc111 pn111 ?_ ?_
 ·exact t1 fo124_3
 intro m A ca xs L hW hm
 refine iH fo124_6 sc113 pn113 ?_ ?_
 ·exact tG fo124_6 sc113 @w3
 intro m A ca xs L hW hm
 refine iH fo124_7 sc113 pn113 ?_ ?_
 ·exact tG fo124_7 sc113 @w3
 intro m A ca xs L hW hm
 refine iH fo124_8 sc112 pn112 ?_ ?_
 ·exact t2 fo124_8
 intro m A ca xs L hW hm
 refine iH fo124_9 sc113 pn113 ?_ ?_
 ·exact tG fo124_9 sc113 @w3
 intro m A ca xs L hW hm
 refine iH fo124_10 sc112 pn112 ?_ ?_
 ·exact t2 fo124_10
 intro m A ca xs L hW hm
 refine iH fo124_11 sc114 pn114 ?_ ?_
 ·exact t4 fo124_11
 intro m A ca xs L hW hm
 refine iH fo124_12 sc114 pn114 ?_ ?_
 ·exact t4 fo124_12
 intro m A ca xs L hW hm
 refine iH fo124_13 sc111 pn111 ?_ ?_
 ·exact t1 fo124_13
 intro m A ca xs L hW hm
 refine iH fo124_14 sc115 pn115 ?_ ?_
 ·exact tG fo124_14 sc115 @w6
 intro m A ca xs L hW hm
 refine iH fo124_16 sc114 pn114 ?_ ?_
 ·exact t4 fo124_16
 intro m A ca xs L hW hm
 refine iH fo124_17 sc114 pn114 ?_ ?_
 ·exact t4 fo124_17
 intro m A ca xs L hW hm
 refine iH fo124_18 sc112 pn112 ?_ ?_
 ·exact t2 fo124_18
 intro m A ca xs L hW hm
 refine iH fo124_19 sc114 pn114 ?_ ?_
 ·exact t4 fo124_19
 intro m A ca xs L hW hm
 refine iH fo124_20 sc114 pn114 ?_ ?_
 ·exact t4 fo124_20
 intro m A ca xs L hW hm
 refine iH fo124_26 sc120 pn120 ?_ ?_
 ·exact tG fo124_26 sc120 @w11
 intro m A ca xs L hW hm
 refine iH fo124_28 sc122 pn122 ?_ ?_
 ·exact t13 fo124_28
 intro m A ca xs L hW hm
 refine iH fo124_29 sc122 pn122 ?_ ?_
 ·exact t13 fo124_29
 intro m A ca xs L hW hm
 refine iH fo124_30 sc122 pn122 ?_ ?_
 ·exact t13 fo124_30
 intro m A ca xs L hW hm
 refine iH fo124_31 sc63 pn63 ?_ ?_
 ·intro p hc hp K hK h
  refine tX (q := 31) rfl 2 rfl hc hp h hU HF (fun fv x a hpa hgx hkw hr hL => ?_)
  subst hpa
  change FvRel _ 5 x fv at hr
  obtain ⟨q1, rfl, hbs⟩ := one_of hr
  refine sN (p := (.pointer (some a) : Value) = ptr q1) (fun w ok h => (dget h 0 rfl : FvP w ok (.one q1) _)) (fun hq1 => ?_)
  cases hq1
  refine rO 8 rfl (zB fo124_31 rfl rfl ?_)
  refine oO 1 rfl (zF 2 sc63 rfl rfl rfl hc ?_)
  refine oO 1 rfl (zR rfl rfl rfl (w5 hL hbs) (subc 4 rfl (sub2 5 6 rfl rfl)) (fun u D hv => ?_))
  obtain ⟨z, hz, b1, rfl, rfl⟩ := hv
  have hq : Nm 31 := rfl
  refine oO 1 rfl ?_
  refine xF 0 rfl rfl rfl (c150 _ _ _ _ _ _ (by decide) (by omega)) rfl sub0 (fun u M D hv => ?_)
  obtain ⟨A1, c1, b2, rfl, rfl, rfl⟩ := hv
  refine oR 3 rfl (vD 3 0 1 rfl rfl rfl ?_)
  exact kQ (hK _ _ _ _ _ (hW.add rfl hkw hq.nmok.2.2.1 hq.nmok.2.2.2 hgx hz) (by show _ + 2 ≤ _; omega)) (eC rfl (eC rfl (eC rfl (eN _)))) (hD := (subc 0 rfl sQ))
 intro m A ca xs L hW hm
 refine iH fo124_32 sc118 pn118 ?_ ?_
 ·exact tG fo124_32 sc118 @w9
 intro m A ca xs L hW hm
 refine qB 2 35 rfl (by decide) (by decide) (fun p35 hc35 hp35 => ?_)
 refine rO 8 rfl (zB fo124_35 rfl rfl ?_)
 refine oO 1 rfl (zF 1 sc102 rfl rfl rfl hc35 ?_)
 refine oO 1 rfl (xH pn102 rfl rfl ?_)
 refine oR 1 rfl (run_either rfl ?_)
 refine iH fo124_36 sc111 pn111 ?_ ?_
 ·exact t1 fo124_36
 intro m A ca xs L hW hm
 refine rO 9 rfl (zB xG rfl rfl ?_)
 refine oO 1 rfl (zG 1 (M' := [_, HA.blk _ [_, _, _, _, _, _, _, _, _, _, _, _] _]) rfl rfl rfl rfl si148 rfl rfl rfl ?_)
 refine oR 8 rfl (vZ 0 0 _ rfl rfl (by intro b h; cases h) ?_)
 exact vC 0 0 rfl rfl (by intro b h; cases h) (by decide) (by decide) (zC Tryz.results105 rfl ⟨rfl, _, hW.out hU, b6, rfl, rfl⟩ nS (sub1 0 rfl))
end Go.Jw

namespace Go.Jw
open Go Go.RowKit Go.Proofs
theorem qC {v x : V} {key : ByteArray} (h : getV v key = some x) : ∃ j : Nat, v.keys[j]? = some key ∧ v.items[j]? = some x := by
  unfold getV at h
  rcases sS v.keys key with hn | ⟨j, hj, hlt⟩
  · rw [if_pos hn] at h; cases h
  · rw [hj, if_neg (by omega)] at h
    simp only [Int.toNat_natCast] at h
    refine ⟨j, ?_, h⟩
    unfold findI at hj
    split at hj
    · rename_i hlt3
      have h4 := List.findIdx_getElem (w := hlt3)
      have h5 : v.keys.findIdx (fun x => decide (x = key)) = j := by omega
      simp only [h5] at h4
      rw [List.getElem?_eq_getElem hlt]
      simpa using h4
    · omega
theorem kids_mem {sh : Int} {x z : V} (h : z ∈ kidsOf sh x) : z = x ∨ z ∈ x.items := by
 unfold kidsOf at h
 split at h
 ·simp at h; exact .inl h
 split at h
 ·split at h <;> simp at h
  exact .inl h
 split at h
 ·split at h
  ·simp at h; exact .inl h
  ·exact .inr (List.mem_filter.1 h).1
 split at h
 ·exact .inr (List.mem_filter.1 h).1
 ·simp at h
theorem c105 (ft : DA) (mb : Nat) (G : Gr) (v : V) : (NumW ft ∨ NoNum v) → Pl v → IsShape v → C105 ft mb G v := by
 refine V.indS (p := fun v => (NumW ft ∨ NoNum v) → Pl v → IsShape v → C105 ft mb G v) (fun v IH hN hp hs => ?_) v
 have hfit := ((xT v).1 hs).2
 refine c105w ft mb G v (fun key x hx h0 => ?_) (fun x hx => ?_)
 ·obtain ⟨j, hj1, hj2⟩ := qC hx
  have hsh := kw_sh h0
  obtain ⟨hf, hk, _⟩ := hfit j _ _ hj1 hj2
  have hpl := hp.item _ (List.mem_of_getElem? hj2)
  have hnn : NumW ft ∨ (shapeOf key ≠ 3 ∧ ∀ z ∈ kidsOf (shapeOf key) x, NoNum z) := hN.imp id fun h => ⟨((sH v).1 h j _ _ hj1 hj2).1, ((sH v).1 h j _ _ hj1 hj2).2.2⟩
  rw [hsh] at hf hk hnn
  refine ⟨hpl, hf, fun z hz => ?_, fun h3 h6 => ?_⟩
  ·refine IH z (Nat.lt_of_le_of_lt (uH hz) (pD hj2)) (hnn.imp id fun h => h.2 z hz) ?_ (hk z hz)
   rcases kids_mem hz with rfl | h
   ·exact hpl
   ·exact hpl.item _ h
  ·rcases hnn with h | h
   ·have := hpl.num.num (.inr h6)
    exact h x.num this.1 this.2 (hpl.frac h6)
   ·exact absurd h3 h.1
 ·obtain ⟨j, hj1, hj2⟩ := qC hx
  exact (hfit j _ _ hj1 hj2).2.2 rfl
def rl (s : ByteArray) : List UInt8 := s.data.toList
theorem sI (s : ByteArray) : s.toList = rl s := ByteArray.toList_eq s
theorem rl_inj {a b : ByteArray} (h : rl a = rl b) : a = b := by
 cases a; cases b
 simp only [rl] at h
 rw [Array.toList_inj.1 h]
theorem rl_app (a b : ByteArray) : rl (a ++ b) = rl a ++ rl b := by simp [rl]
def srtP {α : Type} (l : List (ByteArray × α)) : List (ByteArray × α) := l.mergeSort (fun a b => decide (rl a.1 ≤ rl b.1))
theorem qD {α : Type} (l : List (ByteArray × α)) : (srtP l).Perm l := List.mergeSort_perm _ _
theorem srtP_sorted {α : Type} (l : List (ByteArray × α)) : (srtP l).Pairwise (fun a b => rl a.1 ≤ rl b.1) := by
 have := List.pairwise_mergeSort (le := fun (a b : ByteArray × α) => decide (rl a.1 ≤ rl b.1)) (fun a b c h1 h2 => decide_eq_true (List.le_trans (of_decide_eq_true h1) (of_decide_eq_true h2))) (fun a b => by
  rcases List.le_total (rl a.1) (rl b.1) with h | h <;> simp [h]) l
 exact this.imp fun h => of_decide_eq_true h
theorem fst_inj {α : Type} {l : List (ByteArray × α)} (hn : (l.map Prod.fst).Nodup) {a b : ByteArray × α} (ha : a ∈ l) (hb : b ∈ l) (h : a.1 = b.1) : a = b := by
  induction l with
  | nil => cases ha
  | cons x l ih =>
    rw [List.map_cons, List.nodup_cons] at hn
    rcases List.mem_cons.1 ha with h1 | h1 <;> rcases List.mem_cons.1 hb with h2 | h2
    · rw [h1, h2]
    · exact absurd (List.mem_map.2 ⟨b, h2, by rw [← h, h1]⟩) hn.1
    · exact absurd (List.mem_map.2 ⟨a, h1, by rw [h, h2]⟩) hn.1
    · exact ih hn.2 h1 h2
theorem srtP_eq {α : Type} {l l' : List (ByteArray × α)} (hp : l'.Perm l) (hs : l'.Pairwise (fun a b => rl a.1 ≤ rl b.1)) (hn : (l.map Prod.fst).Nodup) : srtP l = l' :=
 List.Perm.eq_of_pairwise (le := fun (a b : ByteArray × α) => rl a.1 ≤ rl b.1) (fun a b ha hb h1 h2 => fst_inj hn ((qD l).mem_iff.1 ha) (hp.mem_iff.1 hb) (rl_inj (List.le_antisymm h1 h2))) (srtP_sorted l) hs ((qD l).trans hp.symm)
theorem keysOk_lt {ks : List ByteArray} (h : KeysOk ks) : ks.Pairwise (fun a b => rl a < rl b) := by
  have step : ∀ j (hj : j + 1 < ks.length), rl ks[j] < rl ks[j + 1] := by
    intro j hj
    have hs := (h (j + 1) hj).2 (by omega)
    have h4 : ¬ (rl ks[j + 1] < rl ks[j]) := by
      have := hs.1
      rw [pX, sI, sI] at this
      simpa using this
    refine Classical.byContradiction fun hc => hs.2 (rl_inj (List.le_antisymm (List.not_lt.1 hc) (List.not_lt.1 h4)))
  rw [List.pairwise_iff_getElem]
  intro i j hi hj hij
  induction j with
  | zero => omega
  | succ j ih =>
    rcases Nat.lt_or_eq_of_le (Nat.le_of_lt_succ hij) with h6 | h6
    · exact List.lt_trans (ih (by omega) h6) (step j hj)
    · subst h6; exact step i hj
theorem lt_nodup {ks : List ByteArray} (h : ks.Pairwise (fun a b => rl a < rl b)) : ks.Nodup := h.imp fun hlt he => by subst he; exact List.lt_irrefl _ hlt
theorem zip_pw {α : Type} {ks : List ByteArray} {ts : List α} (h : ks.Pairwise (fun a b => rl a < rl b)) : (ks.zip ts).Pairwise (fun a b => rl a.1 < rl b.1) := by
  induction ks generalizing ts with
  | nil => simp
  | cons k ks ih =>
    cases ts with
    | nil => simp
    | cons t ts =>
      rw [List.pairwise_cons] at h
      rw [List.zip_cons_cons, List.pairwise_cons]
      exact ⟨fun p hp => h.1 _ (List.of_mem_zip hp).1, ih h.2⟩
theorem pw_fst {α : Type} {l : List (ByteArray × α)} (h : l.Pairwise (fun a b => rl a.1 < rl b.1)) : (l.map Prod.fst).Nodup := by
 rw [List.nodup_iff_pairwise_ne, List.pairwise_map]
 exact h.imp fun hlt he => by rw [he] at hlt; exact List.lt_irrefl _ hlt
theorem pw_le {α : Type} {l : List (ByteArray × α)} (h : l.Pairwise (fun a b => rl a.1 < rl b.1)) : l.Pairwise (fun a b => rl a.1 ≤ rl b.1) := h.imp fun hlt => List.le_of_lt hlt
noncomputable def srtV : V → V := V.fix (α := V) (fun t f => if t.kind = 5 then .mk 5 t.num t.text ((srtP (t.keys.zip (t.items.map f))).map Prod.fst) ((srtP (t.keys.zip (t.items.map f))).map Prod.snd) else .mk t.kind t.num t.text t.keys (t.items.map f))
theorem srtV_eq (t : V) : srtV t = if t.kind = 5 then .mk 5 t.num t.text ((srtP (t.keys.zip (t.items.map srtV))).map Prod.fst) ((srtP (t.keys.zip (t.items.map srtV))).map Prod.snd) else .mk t.kind t.num t.text t.keys (t.items.map srtV) :=
 V.fix_eq (α := V) (G := fun t f => if t.kind = 5 then .mk 5 t.num t.text ((srtP (t.keys.zip (t.items.map f))).map Prod.fst) ((srtP (t.keys.zip (t.items.map f))).map Prod.snd) else .mk t.kind t.num t.text t.keys (t.items.map f)) (fun t g g' h => by
  have : t.items.map g = t.items.map g' := List.map_congr_left fun x hx => h x (yE hx)
  simp only [this]) t
theorem srtV_map {n : Int} {s : ByteArray} {ks : List ByteArray} {ts : List V} {l : List (ByteArray × V)} (h : srtP (ks.zip (ts.map srtV)) = l) : srtV (.mk 5 n s ks ts) = .mk 5 n s (l.map Prod.fst) (l.map Prod.snd) := by
 rw [srtV_eq]
 simp only [V.kind, V.num, V.text, V.keys, V.items, if_true, h]
theorem srtV_no {q n : Int} {s : ByteArray} {ks : List ByteArray} {ts : List V} (h : q ≠ 5) : srtV (.mk q n s ks ts) = .mk q n s ks (ts.map srtV) := by
 rw [srtV_eq]
 simp only [V.kind, V.num, V.text, V.keys, V.items]
 exact if_neg h
noncomputable def outY : V → Y := V.fix (α := Y) (fun t f => if t.kind = 1 then scal tBool (fbB (decide (t.num = 1))) else if t.kind = 2 then scal tInt (itoaB t.num) else if t.kind = 6 then scal tFloat (quartF t.num) else if t.kind = 3 then scal tStr t.text
  else if t.kind = 4 then RKids 2 (t.items.map f) else if t.kind = 5 then RKids 4 ((t.keys.zip (t.items.map f)).flatMap prY) else scal tNull sNull)
theorem sA (t : V) : outY t = if t.kind = 1 then scal tBool (fbB (decide (t.num = 1))) else if t.kind = 2 then scal tInt (itoaB t.num) else if t.kind = 6 then scal tFloat (quartF t.num) else if t.kind = 3 then scal tStr t.text
  else if t.kind = 4 then RKids 2 (t.items.map outY) else if t.kind = 5 then RKids 4 ((t.keys.zip (t.items.map outY)).flatMap prY) else scal tNull sNull :=
 V.fix_eq (G := fun t f => if t.kind = 1 then scal tBool (fbB (decide (t.num = 1))) else if t.kind = 2 then scal tInt (itoaB t.num) else if t.kind = 6 then scal tFloat (quartF t.num) else if t.kind = 3 then scal tStr t.text
  else if t.kind = 4 then RKids 2 (t.items.map f) else if t.kind = 5 then RKids 4 ((t.keys.zip (t.items.map f)).flatMap prY) else scal tNull sNull) (fun t g g' h => by
  have : t.items.map g = t.items.map g' := List.map_congr_left fun x hx => h x (yE hx)
  simp only [this]) t
def isWr (key : ByteArray) : Bool := isKw key && !isQuiet key
noncomputable def wr : V → V := V.fix (α := V) (fun t g => filterV 5 0 ⟨#[]⟩ isWr (fun k v => turnV (shapeOf k) g v) t)
theorem wr_eq (t : V) : wr t = filterV 5 0 ⟨#[]⟩ isWr (fun k v => turnV (shapeOf k) wr v) t :=
 V.fix_eq (G := fun t g => filterV 5 0 ⟨#[]⟩ isWr (fun k v => turnV (shapeOf k) g v) t) (fun t g g' h => tR fun k v hv => rD fun x hx => h x (Nat.lt_of_le_of_lt hx (yE hv))) t
theorem wr_kind (t : V) : (wr t).kind = 5 := by rw [wr_eq]; rfl
theorem uB (t : V) : (normalV t).kind = 5 := by rw [uU]; rfl
theorem pK {k m k' m' : Int} {s s' : ByteArray} {q q' : ByteArray → Bool} {f f' : ByteArray → V → V} {t : V} : filterV k m s q f (filterV k' m' s' q' f' t) = filterV k m s (fun x => q' x && q x) (fun x v => f x (f' x v)) t := by
  obtain ⟨tk, tn, ts, ks, its⟩ := t
  unfold filterV
  simp only [V.keys, V.items]
  have hz : (((ks.zip its).filter (fun p => q' p.1)).map (·.1)).zip (((ks.zip its).filter (fun p => q' p.1)).map (fun p => f' p.1 p.2)) = ((ks.zip its).filter (fun p => q' p.1)).map (fun p => (p.1, f' p.1 p.2)) := by
    rw [List.zip_map, ]
    generalize (ks.zip its).filter (fun p => q' p.1) = l
    induction l with
    | nil => rfl
    | cons a l ih => simp [ih]
  rw [hz]
  have hf : (((ks.zip its).filter (fun p => q' p.1)).map (fun p => (p.1, f' p.1 p.2))).filter (fun p => q p.1) = ((ks.zip its).filter (fun p => q' p.1 && q p.1)).map (fun p => (p.1, f' p.1 p.2)) := by
    rw [List.filter_map, List.filter_filter]
    congr 1
    apply List.filter_congr
    intro p hp
    simp [Function.comp, Bool.and_comm]
  rw [hf, List.map_map, List.map_map]
  rfl
theorem turn_turn {sh : Int} {b g : V → V} {x : V} (hk : ∀ y, (g y).kind = 5) : turnV sh b (turnV sh g x) = turnV sh (fun y => if y.kind = 5 then b (g y) else if sh = 5 then b (g y) else b y) x := by
 have hm : ∀ y, mapKids b (mapKids g y) = mapKids (fun y => if y.kind = 5 then b (g y) else if sh = 5 then b (g y) else b y) y := by
  intro y
  by_cases h : y.kind = 5
  ·rw [wY h, wY (hk y), wY h, if_pos h]
  ·rw [rC h, rC h, rC h]
 have ha : turnAll b (turnAll g x) = turnAll (fun y => if y.kind = 5 then b (g y) else if sh = 5 then b (g y) else b y) x := by
  unfold turnAll
  simp only [V.kind, V.keys, V.items, List.map_map]
  congr 1
  exact List.map_congr_left fun y _ => hm y
 unfold turnV
 by_cases h5 : sh = 5
 ·simp [h5]
 by_cases h6 : sh = 6
 ·by_cases hx : x.kind = 5 <;> simp [h6, hx, hk]
 by_cases h7 : sh = 7
 ·by_cases hx : x.kind = 5
  ·simp [h7, hx, hk]
  ·have hkk : ¬ (turnAll g x).kind = 5 := hx
   subst h7
   simp only [hx, if_false, if_neg hkk, show ¬ ((7 : Int) = 5) from by decide, show ¬ ((7 : Int) = 6) from by decide, if_true] at ha ⊢
   exact ha
 by_cases h9 : sh = 9 ∨ sh = 13
 ·simp only [if_neg h5, if_neg h6, if_neg h7, if_pos h9] at ha ⊢
  exact ha
 ·simp only [if_neg h5, if_neg h6, if_neg h7, if_neg h9]
theorem bare_wr (v : V) : bareV (wr v) = bareV (normalV v) := by
 refine V.indS (p := fun v => bareV (wr v) = bareV (normalV v)) (fun v IH => ?_) v
 rw [wr_eq, uU, bareV_eq, bareV_eq, pK, pK]
 have h1 : ∀ x ∈ v.items, ∀ k, turnV (shapeOf k) bareV (turnV (shapeOf k) wr x) = turnV (shapeOf k) bareV (turnV (shapeOf k) normalV x) := by
  intro x hx k
  rw [turn_turn wr_kind, turn_turn uB]
  refine rD fun y hy => ?_
  have hlt := Nat.lt_of_le_of_lt hy (yE hx)
  rw [IH y hlt]
 have h2 : (fun x => isWr x && !isQuiet x) = (fun x => isKw x && !isQuiet x) := by
  funext x
  unfold isWr
  cases isKw x <;> cases isQuiet x <;> rfl
 rw [h2]
 exact tR fun k x hx => h1 x hx k
theorem qP {x : V} (hp : Pl x) (h4 : x.kind ≠ 4) (h5 : x.kind ≠ 5) : IsScal x.kind x.num x.text x.keys x.items := by
 obtain ⟨d, h⟩ := hp
 obtain ⟨q, m, s, ks, ts⟩ := x
 exact (yV h4 h5).1 h
theorem head_of {x : V} (hp : Pl x) (h : x.kind = 4 ∨ x.kind = 5) : IsHead x.kind x.num x.text x.keys x.items := by
  obtain ⟨d, hd⟩ := hp
  obtain ⟨q, m, s, ks, ts⟩ := x
  cases d with
  | zero => exact absurd hd (vY h)
  | succ d => exact ((xY h).1 hd).1
theorem qE {x : V} (hp : Pl x) (h : x.kind = 3) : x = .mk 3 0 x.text [] [] := by
 have := qP hp (by omega) (by omega)
 obtain ⟨q, m, s, ks, ts⟩ := x
 simp only [V.kind] at h
 subst h
 simp [IsScal, V.kind, V.num, V.text, V.keys, V.items] at this
 obtain ⟨h1, h2, h3, _⟩ := this
 subst h1; subst h2; subst h3; rfl
theorem leaf_bool {x : V} (hp : Pl x) (h : x.kind = 1) : x = .mk 1 x.num ⟨#[]⟩ [] [] ∧ (x.num = 0 ∨ x.num = 1) := by
 have := qP hp (by omega) (by omega)
 obtain ⟨q, m, s, ks, ts⟩ := x
 simp only [V.kind] at h
 subst h
 simp [IsScal, V.kind, V.num, V.text, V.keys, V.items] at this
 obtain ⟨h1, h2, h3, h4⟩ := this
 subst h1; subst h2; subst h4; exact ⟨rfl, h3⟩
theorem leaf_int {x : V} (hp : Pl x) (h : x.kind = 2) : x = .mk 2 x.num ⟨#[]⟩ [] [] := by
 have := qP hp (by omega) (by omega)
 obtain ⟨q, m, s, ks, ts⟩ := x
 simp only [V.kind] at h
 subst h
 simp [IsScal, V.kind, V.num, V.text, V.keys, V.items] at this
 obtain ⟨h1, h2, h3, h4, h5⟩ := this
 subst h1; subst h2; subst h5; rfl
theorem leaf_q {x : V} (hp : Pl x) (h : x.kind = 6) : x = .mk 6 x.num ⟨#[]⟩ [] [] := by
 have := qP hp (by omega) (by omega)
 obtain ⟨q, m, s, ks, ts⟩ := x
 simp only [V.kind] at h
 subst h
 simp [IsScal, V.kind, V.num, V.text, V.keys, V.items] at this
 obtain ⟨h1, h2, h3, h4, h5, h6⟩ := this
 subst h1; subst h2; subst h6; rfl
theorem plain_l {x : V} (hp : Pl x) (h : x.kind = 4) : x = .mk 4 0 ⟨#[]⟩ [] x.items := by
 have := head_of hp (.inl h)
 obtain ⟨q, m, s, ks, ts⟩ := x
 simp only [V.kind] at h
 subst h
 simp [IsHead, V.kind, V.num, V.text, V.keys, V.items] at this
 obtain ⟨h1, h2, h3⟩ := this
 subst h1; subst h2; subst h3; rfl
theorem rF {x : V} (hp : Pl x) (h : x.kind = 5) : x = .mk 5 0 ⟨#[]⟩ x.keys x.items ∧ x.keys.length = x.items.length ∧ x.keys.Pairwise (fun a b => rl a < rl b) := by
 have := head_of hp (.inr h)
 obtain ⟨q, m, s, ks, ts⟩ := x
 simp only [V.kind] at h
 subst h
 simp [IsHead, V.kind, V.num, V.text, V.keys, V.items] at this
 obtain ⟨h1, h2, h3, h4⟩ := this
 subst h1; subst h2; exact ⟨rfl, h3, keysOk_lt h4⟩
inductive Eql : V → Prop where
  | mk {q m : Int} {s : ByteArray} {ks : List ByteArray} {ts : List V} : (q = 5 → ks.length = ts.length) → (∀ x ∈ ts, Eql x) → Eql (.mk q m s ks ts)
theorem Eql.of_wf (x : V) : Wf x → Eql x := by
 refine V.indS (p := fun x => Wf x → Eql x) (fun x IH h => ?_) x
 obtain ⟨q, m, s, ks, ts⟩ := x
 exact .mk (fun hq => h.eq hq) fun y hy => IH y (yE hy) (h.item y hy)
theorem Eql.item {x : V} (h : Eql x) : ∀ y ∈ x.items, Eql y := by cases h; assumption
theorem Eql.len {x : V} (h : Eql x) : x.kind = 5 → x.keys.length = x.items.length := by cases h; assumption
theorem srt_sorted {ks : List ByteArray} {α : Type} {ts : List α} (h : ks.Pairwise (fun a b => rl a < rl b)) : srtP (ks.zip ts) = ks.zip ts := srtP_eq (.refl _) (pw_le (zip_pw h)) (pw_fst (zip_pw h))
theorem vB {α β : Type} {l : List α} {l' : List β} (h : l.length ≤ l'.length) : (l.zip l').map Prod.fst = l := List.map_fst_zip h
theorem uY {α β : Type} {l : List α} {l' : List β} (h : l'.length ≤ l.length) : (l.zip l').map Prod.snd = l' := List.map_snd_zip h
theorem srt_plain (x : V) : Pl x → srtV x = x := by
 refine V.indS (p := fun x => Pl x → srtV x = x) (fun x IH hp => ?_) x
 have hit : x.items.map srtV = x.items := by
  conv => rhs; rw [← List.map_id x.items]
  exact List.map_congr_left fun y hy => IH y (yE hy) (hp.item y hy)
 rw [srtV_eq, hit]
 by_cases h : x.kind = 5
 ·obtain ⟨he, hl, hs⟩ := rF hp h
  rw [if_pos h, srt_sorted hs, vB (by omega), uY (by omega)]
  refine V.ext (by simp only [V.kind]; exact h.symm) rfl rfl rfl rfl
 ·rw [if_neg h]
  exact V.ext rfl rfl rfl rfl rfl
theorem rG {α β : Type} {R : α → β → Prop} : ∀ {l : List α}, (∀ a ∈ l, ∃ b, R a b) → ∃ l', All2 R l l'
  | [], _ => ⟨[], All2.nil R⟩
  | a :: l, h => by
    obtain ⟨b, hb⟩ := h a List.mem_cons_self
    obtain ⟨l', hl'⟩ := rG (l := l) fun a ha => h a (List.mem_cons_of_mem _ ha)
    refine ⟨b :: l', by simp [hl'.1], fun i x y hx hy => ?_⟩
    cases i with
    | zero => simp at hx hy; subst hx; subst hy; exact hb
    | succ i => exact hl'.2 i x y (by simpa using hx) (by simpa using hy)
theorem All2.map_eq {α β γ : Type} {R : α → β → Prop} {f : α → γ} {g : β → γ} {l : List α} {l' : List β} (h : All2 R l l') (he : ∀ a b, a ∈ l → b ∈ l' → R a b → f a = g b) : l.map f = l'.map g := by
  apply List.ext_getElem?
  intro i
  rw [List.getElem?_map, List.getElem?_map]
  cases ha : l[i]? with
  | none =>
    have : l'[i]? = none := by rw [List.getElem?_eq_none_iff] at ha ⊢; rw [← h.1]; exact ha
    rw [this]; rfl
  | some a =>
    have hlt := (List.getElem?_eq_some_iff.1 ha).1
    have hb : l'[i]? = some (l'[i]'(by rw [← h.1]; exact hlt)) := List.getElem?_eq_getElem _
    rw [hb]
    simp only [Option.map_some]
    rw [he a _ (List.mem_of_getElem? ha) (List.mem_of_getElem? hb) (h.2 i _ _ ha hb)]
theorem all2_right {α β : Type} {R : α → β → Prop} {p : β → Prop} {l : List α} {l' : List β} (h : All2 R l l') (hp : ∀ a b, R a b → p b) : ∀ b ∈ l', p b := by
 intro b hb
 obtain ⟨i, hi, rfl⟩ := List.getElem_of_mem hb
 exact hp _ _ (h.2 i _ _ (List.getElem?_eq_getElem (by rw [h.1]; exact hi)) (List.getElem?_eq_getElem hi))
theorem zip_map_eq {α β γ : Type} (l : List α) (f : α → β) (g : α → γ) : (l.map f).zip (l.map g) = l.map fun a => (f a, g a) := by
  induction l with
  | nil => rfl
  | cons a l ih => simp [ih]
theorem qF (s : ByteArray) : outY (.mk 3 0 s [] []) = scal tStr s := by rw [sA]; simp [V.kind, V.text]
theorem outY_bool (n : Int) : outY (.mk 1 n ⟨#[]⟩ [] []) = scal tBool (fbB (decide (n = 1))) := by rw [sA]; exact if_pos rfl
theorem outY_int (n : Int) : outY (.mk 2 n ⟨#[]⟩ [] []) = scal tInt (itoaB n) := by rw [sA]; simp [V.kind, V.num]
theorem outY_q (n : Int) : outY (.mk 6 n ⟨#[]⟩ [] []) = scal tFloat (quartF n) := by rw [sA]; simp [V.kind, V.num]
theorem outY_l (ts : List V) : outY (.mk 4 0 ⟨#[]⟩ [] ts) = RKids 2 (ts.map outY) := by rw [sA]; simp [V.kind, V.items]
theorem outY_m (ks : List ByteArray) (ts : List V) : outY (.mk 5 0 ⟨#[]⟩ ks ts) = RKids 4 ((ks.zip (ts.map outY)).flatMap prY) := by rw [sA]; simp [V.kind, V.keys, V.items]
theorem outY_list {x : V} (h : x.kind = 4) : outY x = RKids 2 (x.items.map outY) := by rw [sA]; simp [h]
theorem outY_texts {ts : List V} (hp : ∀ x ∈ ts, Pl x) (h3 : ∀ x ∈ ts, x.kind = 3) : ts.map outY = (ts.map V.text).map (scal tStr) := by
 rw [List.map_map]
 refine List.map_congr_left fun x hx => ?_
 rw [qE (hp x hx) (h3 x hx), qF]
 rfl
theorem srt_perm_map {ps : List (ByteArray × V)} {ws : List V} {x : V} {g : V → V} (hx : x.keys.Pairwise (fun a b => rl a < rl b)) (hl : x.keys.length = x.items.length) (hp : ps.Perm (x.keys.zip x.items)) (h : All2 (fun w p => srtV w = g p.2) ws ps) : srtV (.mk 5 0 ⟨#[]⟩ (ps.map Prod.fst) ws) = .mk 5 0 ⟨#[]⟩ x.keys (x.items.map g) := by
 have e1 : ws.map srtV = ps.map (fun p => g p.2) := h.map_eq fun w p _ _ hr => hr
 have e2 : (ps.map Prod.fst).zip (ws.map srtV) = ps.map fun p => (p.1, g p.2) := by rw [e1, zip_map_eq]
 have e3 : x.keys.zip (x.items.map g) = (x.keys.zip x.items).map fun p => (p.1, g p.2) := by
  rw [List.zip_map_right]; rfl
 have hs : srtP ((ps.map Prod.fst).zip (ws.map srtV)) = x.keys.zip (x.items.map g) := by
  refine srtP_eq ?_ (pw_le (zip_pw hx)) ?_
  ·rw [e2, e3]; exact (hp.map _).symm
  ·rw [e2, List.map_map]
   have : (ps.map (Prod.fst ∘ fun p : ByteArray × V => (p.1, g p.2))) = ps.map Prod.fst := List.map_congr_left fun _ _ => rfl
   rw [this]
   have hn : ((x.keys.zip x.items).map Prod.fst).Nodup := pw_fst (zip_pw hx)
   exact (hp.map Prod.fst).nodup_iff.2 hn
 rw [srtV_map hs, vB (by simp; omega), uY (by simp; omega)]
theorem mapKids_all {g : V → V} {ts : List V} (h5 : ∀ x ∈ ts, x.kind = 5) : ts.map (mapKids g) = ts.map g := List.map_congr_left fun x hx => wY (h5 x hx)
theorem turn_else {sh : Int} {g : V → V} {x : V} (h : sh ≠ 5 ∧ sh ≠ 6 ∧ sh ≠ 7 ∧ sh ≠ 9 ∧ sh ≠ 13) : turnV sh g x = x := by
 unfold turnV
 simp [h.1, h.2.1, h.2.2.1, h.2.2.2.1, h.2.2.2.2]
theorem item_wr {sh : Int} {x : V} {z : Y} (hp : Pl x) (hf : FitLoc sh x) (IH : ∀ y, y = x ∨ y ∈ x.items → y ∈ kidsOf sh x → ∀ z, OutR y z → ∃ w, z = outY w ∧ srtV w = wr y ∧ Eql w) (hi : ItemR OutR sh x z) : ∃ w, z = outY w ∧ srtV w = turnV sh wr x ∧ Eql w := by
  have self : ∀ (h : sh ≠ 5 ∧ sh ≠ 6 ∧ sh ≠ 7 ∧ sh ≠ 9 ∧ sh ≠ 13) (z : Y), z = outY x → ∃ w, z = outY w ∧ srtV w = turnV sh wr x ∧ Eql w := fun h z hz => ⟨x, hz, by rw [turn_else h, srt_plain x hp], .of_wf x hp.wf⟩
  have texts : x.kind = 4 → (∀ y ∈ x.items, y.kind = 3) → outY x = RKids 2 ((x.items.map V.text).map (scal tStr)) := fun h4 h3 => by
    rw [outY_list h4, outY_texts hp.item h3]
  have lst : ∀ (zs : List Y), (∀ y ∈ x.items, y.kind = 5 ∧ y ∈ kidsOf sh x) → x.kind = 4 → All2 (fun z x => OutR x z) zs x.items → ∃ w, RKids 2 zs = outY w ∧ srtV w = turnAll wr x ∧ Eql w := by
    intro zs hk h4 hz
    have h2 : ∀ p ∈ zs.zip x.items, ∃ w, p.1 = outY w ∧ srtV w = wr p.2 ∧ Eql w := fun p hpm => by
      obtain ⟨i, hi, rfl⟩ := List.getElem_of_mem hpm
      simp only [List.length_zip] at hi
      have hlt : i < x.items.length := by omega
      rw [List.getElem_zip]
      exact IH x.items[i] (.inr (List.getElem_mem hlt)) (hk _ (List.getElem_mem hlt)).2 _ (hz.2 i _ _ (List.getElem?_eq_getElem (by omega)) (List.getElem?_eq_getElem hlt))
    obtain ⟨ws, hws⟩ := rG h2
    refine ⟨.mk 4 0 ⟨#[]⟩ [] ws, ?_, ?_, .mk (fun h => absurd h (by decide)) (all2_right hws fun p w h => h.2.2)⟩
    · rw [outY_l]
      congr 1
      have := hws.map_eq (f := Prod.fst) (g := outY) fun p w _ _ h => h.1
      rw [vB (by rw [hz.1]; exact Nat.le_refl _)] at this
      exact this
    · rw [srtV_no (by decide)]
      have := hws.map_eq (f := fun p => wr p.2) (g := srtV) fun p w _ _ h => h.2.1.symm
      have e : (zs.zip x.items).map (fun p => wr p.2) = x.items.map wr := by
        have := congrArg (List.map wr) (uY (l := zs) (l' := x.items) (by rw [hz.1]; exact Nat.le_refl _))
        rw [List.map_map] at this
        exact this
      unfold turnAll
      rw [← this, e, mapKids_all fun y hy => (hk y hy).1, plain_l hp h4]
      rfl
  unfold ItemR at hi
  rcases hi with ⟨rfl, rfl⟩ | ⟨rfl, rfl⟩ | ⟨rfl, hk, rfl⟩ | ⟨rfl, hk, rfl⟩ | ⟨rfl, rfl⟩ | ⟨rfl, hr⟩ | ⟨rfl, hk, rfl⟩ | ⟨rfl, hk, hr⟩ | ⟨rfl, hk, hr⟩ | ⟨rfl, hk, zs, rfl, hz⟩ | ⟨rfl, rfl⟩ | ⟨rfl, ps, L, rfl, hpm, hz⟩ | ⟨rfl, ps, hpm, rfl⟩ | ⟨rfl, rfl⟩ | ⟨rfl, hk, rfl⟩ | ⟨rfl, hk, rfl⟩ | ⟨rfl, zs, rfl, hz⟩
  · have hk : x.kind = 3 := by simpa [FitLoc] using hf
    refine self (by decide) _ ?_
    conv => rhs; rw [qE hp hk, qF]
  · have hk : x.kind = 1 := by simpa [FitLoc] using hf
    refine self (by decide) _ ?_
    conv => rhs; rw [(leaf_bool hp hk).1, outY_bool]
  · refine self (by decide) _ ?_
    conv => rhs; rw [leaf_int hp hk, outY_int]
  · refine self (by decide) _ ?_
    conv => rhs; rw [leaf_q hp hk, outY_q]
  · have hk : x.kind = 2 := by have : x.kind = 2 ∧ 0 ≤ x.num := by simpa [FitLoc] using hf
                               exact this.1
    refine self (by decide) _ ?_
    conv => rhs; rw [leaf_int hp hk, outY_int]
  · obtain ⟨w, h1, h2, h3⟩ := IH x (.inl rfl) (by simp [kidsOf]) z hr
    exact ⟨w, h1, by rw [h2]; simp [turnV], h3⟩
  · refine ⟨x, ?_, ?_, .of_wf x hp.wf⟩
    · conv => rhs; rw [(leaf_bool hp hk).1, outY_bool]
    · rw [srt_plain x hp]; simp [turnV, hk]
  · obtain ⟨w, h1, h2, h3⟩ := IH x (.inl rfl) (by rw [kids6 hk]; simp) z hr
    exact ⟨w, h1, by rw [h2]; simp [turnV, hk], h3⟩
  · obtain ⟨w, h1, h2, h3⟩ := IH x (.inl rfl) (by rw [kids7 hk]; simp) z hr
    exact ⟨w, h1, by rw [h2]; simp [turnV, hk], h3⟩
  · have h5 : ∀ y ∈ x.items, y.kind = 5 := by
      simp [FitLoc, hk] at hf
      exact hf
    obtain ⟨w, h1, h2, h3⟩ := lst zs (fun y hy => ⟨h5 y hy, by rw [kids7l hk h5]; exact hy⟩) hk hz
    exact ⟨w, h1, by rw [h2]; simp [turnV, hk], h3⟩
  · have h : x.kind = 4 ∧ ∀ y ∈ x.items, y.kind = 3 := by simpa [FitLoc] using hf
    exact self (by decide) _ (texts h.1 h.2).symm
  · have h : x.kind = 5 ∧ ∀ y ∈ x.items, y.kind = 5 := by simpa [FitLoc] using hf
    obtain ⟨he, hl, hs⟩ := rF hp h.1
    have h2 : ∀ q ∈ L.zip ps, ∃ w, q.1.2 = outY w ∧ srtV w = wr q.2.2 ∧ Eql w := fun q hq => by
      obtain ⟨i, hi, rfl⟩ := List.getElem_of_mem hq
      simp only [List.length_zip] at hi
      have hlt : i < ps.length := by omega
      rw [List.getElem_zip]
      have hm := (List.of_mem_zip (hpm.mem_iff.1 (List.getElem_mem hlt))).2
      exact IH ps[i].2 (.inr hm) (by rw [kids9 h.2]; exact hm) _ (hz.2 i _ _ (List.getElem?_eq_getElem (by omega)) (List.getElem?_eq_getElem hlt)).2
    obtain ⟨ws, hws⟩ := rG h2
    have hll : L.length = ps.length := hz.1
    have e1 : L.map Prod.fst = ps.map Prod.fst := hz.map_eq fun a b _ _ h => h.1
    have e2 : L.map Prod.snd = ws.map outY := by
      have := hws.map_eq (f := fun q => q.1.2) (g := outY) fun p w _ _ h => h.1
      rw [← this]
      have := congrArg (List.map Prod.snd) (vB (l := L) (l' := ps) (by omega))
      rw [List.map_map] at this
      exact this.symm
    have e3 : All2 (fun w p => srtV w = wr p.2) ws ps := by
      refine ⟨by have := hws.1; rw [List.length_zip] at this; omega, fun i w p hw hpp => ?_⟩
      have hlt := (List.getElem?_eq_some_iff.1 hpp).1
      have hq : (L.zip ps)[i]? = some (L[i]'(by omega), p) := by
        rw [List.getElem?_eq_getElem (by simp; omega), List.getElem_zip]
        rw [List.getElem?_eq_getElem hlt] at hpp
        cases hpp
        rfl
      exact (hws.2 i _ w hq hw).2.1
    refine ⟨.mk 5 0 ⟨#[]⟩ (ps.map Prod.fst) ws, ?_, ?_, .mk (fun _ => by rw [List.length_map]; exact e3.1.symm) (all2_right hws fun p w h => h.2.2)⟩
    · rw [outY_m, ← e1, ← e2]
      congr 2
      exact List.zip_of_prod rfl rfl
    · rw [srt_perm_map hs hl hpm e3]
      simp only [turnV, turnAll, show ¬ ((9 : Int) = 5) from by decide, show ¬ ((9 : Int) = 6) from by decide, show ¬ ((9 : Int) = 7) from by decide, if_false, true_or, if_true]
      rw [mapKids_all h.2, h.1]
  · have h : x.kind = 5 ∧ ∀ y ∈ x.items, y.kind = 4 ∧ ∀ z ∈ y.items, z.kind = 3 := by simpa [FitLoc] using hf
    obtain ⟨he, hl, hs⟩ := rF hp h.1
    refine ⟨.mk 5 0 ⟨#[]⟩ (ps.map Prod.fst) (ps.map Prod.snd), ?_, ?_, .mk (fun _ => by simp) (fun y hy => by
      obtain ⟨p, hpp, rfl⟩ := List.mem_map.1 hy
      exact .of_wf _ (hp.item _ (List.of_mem_zip (hpm.mem_iff.1 hpp)).2).wf)⟩
    · rw [outY_m, List.map_map]
      congr 2
      rw [zip_map_eq]
      refine List.map_congr_left fun p hpp => ?_
      have hm := (List.of_mem_zip (hpm.mem_iff.1 hpp)).2
      have hpl := hp.item p.2 hm
      simp only [Function.comp]
      rw [plain_l hpl (h.2 p.2 hm).1, outY_l, outY_texts hpl.item (h.2 p.2 hm).2]
      rfl
    · rw [turn_else (by decide), srt_perm_map (g := id) hs hl hpm, List.map_id]
      · exact he.symm
      · refine ⟨by simp, fun i w p hw hpp => ?_⟩
        rw [List.getElem?_map, hpp] at hw
        cases hw
        exact srt_plain _ (hp.item _ (List.of_mem_zip (hpm.mem_iff.1 (List.mem_of_getElem? hpp))).2)
  · have h : x.kind = 4 ∧ ∀ y ∈ x.items, y.kind = 3 ∨ y.kind = 1 := by simpa [FitLoc] using hf
    refine self (by decide) _ ?_
    rw [outY_list h.1]
    congr 1
    rw [List.map_map]
    refine List.map_congr_left fun y hy => ?_
    simp only [Function.comp]
    unfold evOf
    rcases h.2 y hy with h1 | h1
    · rw [if_pos h1, qE (hp.item y hy) h1, qF]; rfl
    · rw [if_neg (by omega), (leaf_bool (hp.item y hy) h1).1, outY_bool]; rfl
  · refine self (by decide) _ ?_
    conv => rhs; rw [qE hp hk, qF]
  · have h : x.kind = 3 ∨ (x.kind = 4 ∧ ∀ y ∈ x.items, y.kind = 3) := by simpa [FitLoc] using hf
    rcases h with h | h
    · omega
    · exact self (by decide) _ (texts h.1 h.2).symm
  · have h : x.kind = 4 ∧ ∀ y ∈ x.items, y.kind = 5 := by simpa [FitLoc] using hf
    obtain ⟨w, h1, h2, h3⟩ := lst zs (fun y hy => ⟨h.2 y hy, by rw [kids13 h.2]; exact hy⟩) h.1 hz
    exact ⟨w, h1, by rw [h2]; simp [turnV], h3⟩
def shKeys : List ByteArray := [⟨#[36, 115, 99, 104, 101, 109, 97]⟩, ⟨#[105, 100]⟩, ⟨#[36, 114, 101, 102]⟩, ⟨#[112, 97, 116, 116, 101, 114, 110]⟩, ⟨#[116, 105, 116, 108, 101]⟩, ⟨#[100, 101, 115, 99, 114, 105, 112, 116, 105, 111, 110]⟩, ⟨#[102, 111, 114, 109, 97, 116]⟩, ⟨#[114, 101, 97, 100, 79, 110, 108, 121]⟩, ⟨#[119, 114, 105, 116, 101, 79, 110, 108, 121]⟩, ⟨#[101, 120, 99, 108, 117, 115, 105, 118, 101, 77, 97, 120, 105, 109, 117, 109]⟩, ⟨#[101, 120, 99, 108, 117, 115, 105, 118, 101, 77, 105, 110, 105, 109, 117, 109]⟩, ⟨#[117, 110, 105, 113, 117, 101, 73, 116, 101, 109, 115]⟩, ⟨#[109, 117, 108, 116, 105, 112, 108, 101, 79, 102]⟩, ⟨#[109, 97, 120, 105, 109, 117, 109]⟩, ⟨#[109, 105, 110, 105, 109, 117, 109]⟩, ⟨#[109, 97, 120, 76, 101, 110, 103, 116, 104]⟩, ⟨#[109, 105, 110, 76, 101, 110, 103, 116, 104]⟩, ⟨#[109, 97, 120, 73, 116, 101, 109, 115]⟩, ⟨#[109, 105, 110, 73, 116, 101, 109, 115]⟩, ⟨#[109, 97, 120, 80, 114, 111, 112, 101, 114, 116, 105, 101, 115]⟩, ⟨#[109, 105, 110, 80, 114, 111, 112, 101, 114, 116, 105, 101, 115]⟩, ⟨#[110, 111, 116]⟩, ⟨#[97, 100, 100, 105, 116, 105, 111, 110, 97, 108, 73, 116, 101, 109, 115]⟩, ⟨#[97, 100, 100, 105, 116, 105, 111, 110, 97, 108, 80, 114, 111, 112, 101, 114, 116, 105, 101, 115]⟩, ⟨#[105, 116, 101, 109, 115]⟩, ⟨#[114, 101, 113, 117, 105, 114, 101, 100]⟩, ⟨#[112, 114, 111, 112, 101, 114, 116, 105, 101, 115]⟩, ⟨#[112, 97, 116, 116, 101, 114, 110, 80, 114, 111, 112, 101, 114, 116, 105, 101, 115]⟩, ⟨#[100, 101, 102, 105, 110, 105, 116, 105, 111, 110, 115]⟩, ⟨#[100, 101, 112, 101, 110, 100, 101, 110, 99, 105, 101, 115]⟩, ⟨#[101, 110, 117, 109]⟩, ⟨#[116, 121, 112, 101]⟩, ⟨#[97, 108, 108, 79, 102]⟩, ⟨#[97, 110, 121, 79, 102]⟩, ⟨#[111, 110, 101, 79, 102]⟩, ⟨#[100, 101, 102, 97, 117, 108, 116]⟩]
theorem sh_case {key : ByteArray} (h : shapeOf key ≠ 0) : key ∈ shKeys := by
 unfold shapeOf at h
 by_cases e0 : key = ⟨#[36, 115, 99, 104, 101, 109, 97]⟩
 ·exact List.mem_of_getElem? (l := shKeys) (i := 0) (by rw [e0]; rfl)
 rw [if_neg e0] at h
 by_cases e1 : key = ⟨#[105, 100]⟩
 ·exact List.mem_of_getElem? (l := shKeys) (i := 1) (by rw [e1]; rfl)
 rw [if_neg e1] at h
 by_cases e2 : key = ⟨#[36, 114, 101, 102]⟩
 ·exact List.mem_of_getElem? (l := shKeys) (i := 2) (by rw [e2]; rfl)
 rw [if_neg e2] at h
 by_cases e3 : key = ⟨#[112, 97, 116, 116, 101, 114, 110]⟩
 ·exact List.mem_of_getElem? (l := shKeys) (i := 3) (by rw [e3]; rfl)
 rw [if_neg e3] at h
 by_cases e4 : key = ⟨#[116, 105, 116, 108, 101]⟩
 ·exact List.mem_of_getElem? (l := shKeys) (i := 4) (by rw [e4]; rfl)
 rw [if_neg e4] at h
 by_cases e5 : key = ⟨#[100, 101, 115, 99, 114, 105, 112, 116, 105, 111, 110]⟩
 ·exact List.mem_of_getElem? (l := shKeys) (i := 5) (by rw [e5]; rfl)
 rw [if_neg e5] at h
 by_cases e6 : key = ⟨#[102, 111, 114, 109, 97, 116]⟩
 ·exact List.mem_of_getElem? (l := shKeys) (i := 6) (by rw [e6]; rfl)
 rw [if_neg e6] at h
 by_cases e7 : key = ⟨#[114, 101, 97, 100, 79, 110, 108, 121]⟩
 ·exact List.mem_of_getElem? (l := shKeys) (i := 7) (by rw [e7]; rfl)
 rw [if_neg e7] at h
 by_cases e8 : key = ⟨#[119, 114, 105, 116, 101, 79, 110, 108, 121]⟩
 ·exact List.mem_of_getElem? (l := shKeys) (i := 8) (by rw [e8]; rfl)
 rw [if_neg e8] at h
 by_cases e9 : key = ⟨#[101, 120, 99, 108, 117, 115, 105, 118, 101, 77, 97, 120, 105, 109, 117, 109]⟩
 ·exact List.mem_of_getElem? (l := shKeys) (i := 9) (by rw [e9]; rfl)
 rw [if_neg e9] at h
 by_cases e10 : key = ⟨#[101, 120, 99, 108, 117, 115, 105, 118, 101, 77, 105, 110, 105, 109, 117, 109]⟩
 ·exact List.mem_of_getElem? (l := shKeys) (i := 10) (by rw [e10]; rfl)
 rw [if_neg e10] at h
 by_cases e11 : key = ⟨#[117, 110, 105, 113, 117, 101, 73, 116, 101, 109, 115]⟩
 ·exact List.mem_of_getElem? (l := shKeys) (i := 11) (by rw [e11]; rfl)
 rw [if_neg e11] at h
 by_cases e12 : key = ⟨#[109, 117, 108, 116, 105, 112, 108, 101, 79, 102]⟩
 ·exact List.mem_of_getElem? (l := shKeys) (i := 12) (by rw [e12]; rfl)
 rw [if_neg e12] at h
 by_cases e13 : key = ⟨#[109, 97, 120, 105, 109, 117, 109]⟩
 ·exact List.mem_of_getElem? (l := shKeys) (i := 13) (by rw [e13]; rfl)
 rw [if_neg e13] at h
 by_cases e14 : key = ⟨#[109, 105, 110, 105, 109, 117, 109]⟩
 ·exact List.mem_of_getElem? (l := shKeys) (i := 14) (by rw [e14]; rfl)
 rw [if_neg e14] at h
 by_cases e15 : key = ⟨#[109, 97, 120, 76, 101, 110, 103, 116, 104]⟩
 ·exact List.mem_of_getElem? (l := shKeys) (i := 15) (by rw [e15]; rfl)
 rw [if_neg e15] at h
 by_cases e16 : key = ⟨#[109, 105, 110, 76, 101, 110, 103, 116, 104]⟩
 ·exact List.mem_of_getElem? (l := shKeys) (i := 16) (by rw [e16]; rfl)
 rw [if_neg e16] at h
 by_cases e17 : key = ⟨#[109, 97, 120, 73, 116, 101, 109, 115]⟩
 ·exact List.mem_of_getElem? (l := shKeys) (i := 17) (by rw [e17]; rfl)
 rw [if_neg e17] at h
 by_cases e18 : key = ⟨#[109, 105, 110, 73, 116, 101, 109, 115]⟩
 ·exact List.mem_of_getElem? (l := shKeys) (i := 18) (by rw [e18]; rfl)
 rw [if_neg e18] at h
 by_cases e19 : key = ⟨#[109, 97, 120, 80, 114, 111, 112, 101, 114, 116, 105, 101, 115]⟩
 ·exact List.mem_of_getElem? (l := shKeys) (i := 19) (by rw [e19]; rfl)
 rw [if_neg e19] at h
 by_cases e20 : key = ⟨#[109, 105, 110, 80, 114, 111, 112, 101, 114, 116, 105, 101, 115]⟩
 ·exact List.mem_of_getElem? (l := shKeys) (i := 20) (by rw [e20]; rfl)
 rw [if_neg e20] at h
 by_cases e21 : key = ⟨#[110, 111, 116]⟩
 ·exact List.mem_of_getElem? (l := shKeys) (i := 21) (by rw [e21]; rfl)
 rw [if_neg e21] at h
 by_cases e22 : key = ⟨#[97, 100, 100, 105, 116, 105, 111, 110, 97, 108, 73, 116, 101, 109, 115]⟩
 ·exact List.mem_of_getElem? (l := shKeys) (i := 22) (by rw [e22]; rfl)
 rw [if_neg e22] at h
 by_cases e23 : key = ⟨#[97, 100, 100, 105, 116, 105, 111, 110, 97, 108, 80, 114, 111, 112, 101, 114, 116, 105, 101, 115]⟩
 ·exact List.mem_of_getElem? (l := shKeys) (i := 23) (by rw [e23]; rfl)
 rw [if_neg e23] at h
 by_cases e24 : key = ⟨#[105, 116, 101, 109, 115]⟩
 ·exact List.mem_of_getElem? (l := shKeys) (i := 24) (by rw [e24]; rfl)
 rw [if_neg e24] at h
 by_cases e25 : key = ⟨#[114, 101, 113, 117, 105, 114, 101, 100]⟩
 ·exact List.mem_of_getElem? (l := shKeys) (i := 25) (by rw [e25]; rfl)
 rw [if_neg e25] at h
 by_cases e26 : key = ⟨#[112, 114, 111, 112, 101, 114, 116, 105, 101, 115]⟩
 ·exact List.mem_of_getElem? (l := shKeys) (i := 26) (by rw [e26]; rfl)
 rw [if_neg e26] at h
 by_cases e27 : key = ⟨#[112, 97, 116, 116, 101, 114, 110, 80, 114, 111, 112, 101, 114, 116, 105, 101, 115]⟩
 ·exact List.mem_of_getElem? (l := shKeys) (i := 27) (by rw [e27]; rfl)
 rw [if_neg e27] at h
 by_cases e28 : key = ⟨#[100, 101, 102, 105, 110, 105, 116, 105, 111, 110, 115]⟩
 ·exact List.mem_of_getElem? (l := shKeys) (i := 28) (by rw [e28]; rfl)
 rw [if_neg e28] at h
 by_cases e29 : key = ⟨#[100, 101, 112, 101, 110, 100, 101, 110, 99, 105, 101, 115]⟩
 ·exact List.mem_of_getElem? (l := shKeys) (i := 29) (by rw [e29]; rfl)
 rw [if_neg e29] at h
 by_cases e30 : key = ⟨#[101, 110, 117, 109]⟩
 ·exact List.mem_of_getElem? (l := shKeys) (i := 30) (by rw [e30]; rfl)
 rw [if_neg e30] at h
 by_cases e31 : key = ⟨#[116, 121, 112, 101]⟩
 ·exact List.mem_of_getElem? (l := shKeys) (i := 31) (by rw [e31]; rfl)
 rw [if_neg e31] at h
 by_cases e32 : key = ⟨#[97, 108, 108, 79, 102]⟩
 ·exact List.mem_of_getElem? (l := shKeys) (i := 32) (by rw [e32]; rfl)
 rw [if_neg e32] at h
 by_cases e33 : key = ⟨#[97, 110, 121, 79, 102]⟩
 ·exact List.mem_of_getElem? (l := shKeys) (i := 33) (by rw [e33]; rfl)
 rw [if_neg e33] at h
 by_cases e34 : key = ⟨#[111, 110, 101, 79, 102]⟩
 ·exact List.mem_of_getElem? (l := shKeys) (i := 34) (by rw [e34]; rfl)
 rw [if_neg e34] at h
 by_cases e35 : key = ⟨#[100, 101, 102, 97, 117, 108, 116]⟩
 ·exact List.mem_of_getElem? (l := shKeys) (i := 35) (by rw [e35]; rfl)
 rw [if_neg e35] at h
 exact absurd rfl h
theorem sh_kw {key : ByteArray} (h0 : kwIdx key = 0) : shapeOf key = 0 ∨ isQuiet key = true := by
  by_cases h : shapeOf key = 0
  · exact .inl h
  · have : ∀ k ∈ shKeys, kwIdx k = 0 → isQuiet k = true := by decide +kernel
    exact .inr (this key (sh_case h) h0)
theorem isWr_kw {key : ByteArray} : isWr key = true ↔ kwIdx key ≠ 0 ∧ kwIdx key ≠ 35 := by
 by_cases h0 : kwIdx key = 0
 ·have hk : isWr key = false := by
   unfold isWr isKw
   rcases sh_kw h0 with h | h <;> simp [h]
  rw [hk]; simp [h0]
 ·have hk := kw_key (key := key) rfl h0
  have hm := kw_range h0
  generalize hq : kwIdx key = q at *
  subst hk
  have : ∀ q ∈ List.range 37, kwIdx (keyOf q) = q → q ≠ 0 → (isWr (keyOf q) = true ↔ q ≠ 0 ∧ q ≠ 35) := by decide +kernel
  exact this q (List.mem_range.2 (by omega)) hq h0
theorem qQ {α β : Type} {f : α → β} {l : List α} (h : (l.map f).Nodup) : l.Nodup := by
 rw [List.nodup_iff_pairwise_ne, List.pairwise_map] at h
 rw [List.nodup_iff_pairwise_ne]
 exact h.imp fun h e => h (congrArg f e)
theorem wA {v x : V} {key : ByteArray} (hp : Pl v) (hk : v.kind = 5) : (key, x) ∈ v.keys.zip v.items ↔ getV v key = some x := by
 constructor
 ·intro h
  exact prs_get (back := false) hp.wf hk (hp.keys hk) (p := (key, x)) h
 ·intro h
  exact mem_prs (back := false) hp.wf hk h
theorem out_wr (v : V) : Pl v → IsShape v → ∀ y, OutR v y → ∃ u, y = outY u ∧ srtV u = wr v ∧ Eql u := by
  refine V.indS (p := fun v => Pl v → IsShape v → ∀ y, OutR v y → ∃ u, y = outY u ∧ srtV u = wr v ∧ Eql u) (fun v IH hp hs y ho => ?_) v
  obtain ⟨L, rfl, hnd, hmem, hall⟩ := (outR_iff v y).1 ho
  have hk5 := hs.kind
  have hfit := ((xT v).1 hs).2
  obtain ⟨he, hl, hsort⟩ := rF hp hk5
  have hit : ∀ p ∈ L, ∃ w, ∃ x, getV v p.1 = some x ∧ p.2 = outY w ∧ srtV w = turnV (shapeOf p.1) wr x ∧ Eql w := by
    intro p hpm
    obtain ⟨h0, h35, x, hx, hi⟩ := hmem p hpm
    obtain ⟨j, hj1, hj2⟩ := qC hx
    obtain ⟨hf, hkid, _⟩ := hfit j _ _ hj1 hj2
    have hxm : x ∈ v.items := List.mem_of_getElem? hj2
    have hpl := hp.item x hxm
    rw [← kw_sh h0] at hi
    obtain ⟨w, h1, h2, h3⟩ := item_wr hpl hf (fun y hy hyk z hz => by
      refine IH y ?_ ?_ (hkid y hyk) z hz
      · exact Nat.lt_of_le_of_lt (uH hyk) (yE hxm)
      · rcases hy with rfl | hy
        · exact hpl
        · exact hpl.item y hy) hi
    exact ⟨w, x, hx, h1, h2, h3⟩
  obtain ⟨ws, hws⟩ := rG hit
  have hkeys : (L.map Prod.fst).Nodup := by
    have : (L.map fun p => kwIdx p.1) = (L.map Prod.fst).map kwIdx := by rw [List.map_map]; rfl
    rw [this] at hnd
    exact qQ hnd
  refine ⟨.mk 5 0 ⟨#[]⟩ (L.map Prod.fst) ws, ?_, ?_, .mk (fun _ => by rw [List.length_map]; exact hws.1) (all2_right hws fun p w ⟨_, _, _, _, h⟩ => h)⟩
  · rw [outY_m]
    have : L.map Prod.snd = ws.map outY := hws.map_eq fun p w _ _ ⟨x, _, h, _, _⟩ => h
    rw [← this]
    congr 2
    exact List.zip_of_prod rfl rfl
  · have hsrt : srtP ((L.map Prod.fst).zip (ws.map srtV)) = ((v.keys.zip v.items).filter (fun p => isWr p.1)).map (fun p => (p.1, turnV (shapeOf p.1) wr p.2)) := by
      have hzl : L.length = ws.length := hws.1
      have hpw : (((v.keys.zip v.items).filter (fun p => isWr p.1)).map (fun p => (p.1, turnV (shapeOf p.1) wr p.2))).Pairwise (fun a b => rl a.1 < rl b.1) := by
        rw [List.pairwise_map]
        exact (zip_pw hsort).sublist List.filter_sublist
      have hn1 : (((L.map Prod.fst).zip (ws.map srtV)).map Prod.fst).Nodup := by
        rw [vB (by simp; omega)]; exact hkeys
      refine srtP_eq ?_ (pw_le hpw) hn1
      refine (List.perm_ext_iff_of_nodup (qQ (pw_fst hpw)) (qQ hn1)).2 fun q => ?_
      constructor
      · intro hq
        obtain ⟨p, hpm, rfl⟩ := List.mem_map.1 hq
        obtain ⟨hz, hw⟩ := List.mem_filter.1 hpm
        have hx := (wA hp hk5).1 (show (p.1, p.2) ∈ _ from hz)
        obtain ⟨h0, h35⟩ := isWr_kw.1 hw
        obtain ⟨r, hr, hre⟩ := hall p.1 p.2 hx h0 h35
        obtain ⟨i, hi, rfl⟩ := List.getElem_of_mem hr
        obtain ⟨x, hx', _, h2, _⟩ := hws.2 i _ _ (List.getElem?_eq_getElem hi) (List.getElem?_eq_getElem (by omega))
        rw [hre] at hx' h2
        rw [hx] at hx'
        cases hx'
        have : ((L.map Prod.fst).zip (ws.map srtV))[i]'(by simp; omega) = (p.1, turnV (shapeOf p.1) wr p.2) := by
          rw [List.getElem_zip, List.getElem_map, List.getElem_map, hre, h2]
        rw [← this]
        exact List.getElem_mem _
      · intro hq
        obtain ⟨i, hi, rfl⟩ := List.getElem_of_mem hq
        simp only [List.length_zip, List.length_map] at hi
        rw [List.getElem_zip, List.getElem_map, List.getElem_map]
        obtain ⟨x, hx', _, h2, _⟩ := hws.2 i _ _ (List.getElem?_eq_getElem (by omega)) (List.getElem?_eq_getElem (by omega))
        rw [h2]
        obtain ⟨h0, h35, _⟩ := hmem L[i] (List.getElem_mem _)
        exact List.mem_map.2 ⟨(L[i].1, x), List.mem_filter.2 ⟨(wA hp hk5).2 hx', isWr_kw.2 ⟨h0, h35⟩⟩, rfl⟩
    rw [srtV_map hsrt, wr_eq]
    unfold filterV
    rw [List.map_map, List.map_map]
    rfl
end Go.Jw

namespace Go.Jw
open Go Go.RowKit Go.Proofs
set_option maxRecDepth 8000
def bs (l : List UInt8) : ByteArray := ⟨l.toArray⟩
theorem sz_rl (s : ByteArray) : s.size = (rl s).length := rfl
instance : Inhabited (List UInt8 → List UInt8) := ⟨fun _ => []⟩
def zV0 : V := .mk 0 0 ⟨#[]⟩ [] []
theorem qG (u : V) : (srtV u).kind = u.kind := by
 rw [srtV_eq]
 split
 ·rename_i h; exact h.symm
 ·rfl
theorem srt_item {u x : V} (he : Eql u) (h : x ∈ u.items) : srtV x ∈ (srtV u).items := by
 rw [srtV_eq]
 split
 ·rename_i h5
  have hl := he.len h5
  simp only [V.items]
  rw [((qD _).map Prod.snd).mem_iff, uY (by rw [List.length_map]; exact Nat.le_of_eq hl.symm)]
  exact List.mem_map.2 ⟨x, h, rfl⟩
 ·exact List.mem_map.2 ⟨x, h, rfl⟩
theorem ju_scal {u : V} (hp : Pl (srtV u)) (h4 : u.kind ≠ 4) (h5 : u.kind ≠ 5) : Pl u ∧ srtV u = u := by
 have hs := qP hp (by rw [qG]; exact h4) (by rw [qG]; exact h5)
 obtain ⟨q, m, s, ks, ts⟩ := u
 simp only [V.kind] at h4 h5
 rw [srtV_no h5] at hs hp ⊢
 simp only [IsScal, V.kind, V.num, V.text, V.keys, V.items] at hs
 have : ts = [] := by simpa using hs.2.1
 subst this
 exact ⟨hp, rfl⟩
theorem ju_l {u : V} (hp : Pl (srtV u)) (he : Eql u) (h : u.kind = 4) : u = .mk 4 0 ⟨#[]⟩ [] u.items ∧ u.items.length ≤ 60 ∧ ∀ x ∈ u.items, Pl (srtV x) ∧ Eql x := by
 have h1 := plain_l hp (by rw [qG]; exact h)
 have h2 := hp.len
 have hit : ∀ x ∈ u.items, Pl (srtV x) ∧ Eql x := fun x hx => ⟨hp.item _ (srt_item he hx), he.item x hx⟩
 obtain ⟨q, m, s, ks, ts⟩ := u
 simp only [V.kind] at h
 subst h
 rw [srtV_no (by decide)] at h1 h2
 simp only [V.items, List.length_map] at h1 h2
 injection h1 with _ a b c _
 subst a; subst b; subst c
 exact ⟨rfl, h2, hit⟩
theorem ju_m {u : V} (hp : Pl (srtV u)) (he : Eql u) (h : u.kind = 5) : u = .mk 5 0 ⟨#[]⟩ u.keys u.items ∧ u.keys.length = u.items.length ∧ u.items.length ≤ 60 ∧ u.keys.Nodup ∧ (∀ k ∈ u.keys, IsWord k ∧ k ∈ (srtV u).keys) ∧ ∀ x ∈ u.items, Pl (srtV x) ∧ Eql x := by
 have h0 := hp.keys (by rw [qG]; exact h)
 obtain ⟨h1, hl, hs⟩ := rF hp (by rw [qG]; exact h)
 have h2 := hp.len
 have hle := he.len h
 have hit : ∀ x ∈ u.items, Pl (srtV x) ∧ Eql x := fun x hx => ⟨hp.item _ (srt_item he hx), he.item x hx⟩
 obtain ⟨q, m, s, ks, ts⟩ := u
 simp only [V.kind] at h
 subst h
 simp only [V.keys, V.items] at hle hit ⊢
 have hpk : ((srtP (ks.zip (ts.map srtV))).map Prod.fst).Perm ks := by
  have := (qD (ks.zip (ts.map srtV))).map Prod.fst
  rw [vB (by simp; omega)] at this
  exact this
 have hpi : ((srtP (ks.zip (ts.map srtV))).map Prod.snd).length = ts.length := by
  rw [List.length_map, (qD _).length_eq, List.length_zip, List.length_map]; omega
 rw [srtV_map rfl] at h0 h1 h2 hs ⊢
 simp only [V.keys, V.items] at h0 h1 h2 hs ⊢
 injection h1 with _ a b _ _
 subst a; subst b
 refine ⟨rfl, hle, by omega, hpk.nodup_iff.1 (lt_nodup hs), fun k hk => ?_, hit⟩
 have hk' := hpk.mem_iff.2 hk
 obtain ⟨i, hi, rfl⟩ := List.getElem_of_mem hk'
 exact ⟨(h0 i hi).1, hk'⟩
noncomputable def nodes : V → Nat := V.fix (α := Nat) (fun t f => 1 + (t.items.map f).sum)
theorem nodes_eq (t : V) : nodes t = 1 + (t.items.map nodes).sum := V.fix_eq (α := Nat) (G := fun t f => 1 + (t.items.map f).sum) (fun t g g' h => by
 have : t.items.map g = t.items.map g' := List.map_congr_left fun x hx => h x (yE hx)
 simp only [this]) t
theorem imk {q m : Int} {s : ByteArray} {ks : List ByteArray} {ts : List V} : (V.mk q m s ks ts).items = ts := rfl
theorem kmk {q m : Int} {s : ByteArray} {ks : List ByteArray} {ts : List V} : (V.mk q m s ks ts).kind = q := rfl
theorem ymk {q m : Int} {s : ByteArray} {ks : List ByteArray} {ts : List V} : (V.mk q m s ks ts).keys = ks := rfl
theorem ju_kind {u : V} (hp : Pl (srtV u)) : 0 ≤ u.kind ∧ u.kind ≤ 6 := by
  rw [← qG u]
  by_cases h : (srtV u).kind = 4 ∨ (srtV u).kind = 5
  · omega
  · have := qP hp (by omega) (by omega)
    simp only [IsScal] at this
    omega
theorem outY_kind {u : V} (h0 : 0 ≤ u.kind) (h6 : u.kind ≤ 6) : (outY u).kind = if u.kind = 4 then 2 else if u.kind = 5 then 4 else 8 := by
 rw [sA]
 split
 ·rename_i h; first | rfl | (rw [h]; rfl)
 split
 ·rename_i h; first | rfl | (rw [h]; rfl)
 split
 ·rename_i h; first | rfl | (rw [h]; rfl)
 split
 ·rename_i h; first | rfl | (rw [h]; rfl)
 split
 ·rename_i h; first | rfl | (rw [h]; rfl)
 split
 ·rename_i h; first | rfl | (rw [h]; rfl)
 ·rfl
theorem vT {α : Type} {l : List α} {i : Nat} {d : α} (h : i < l.length) : l.getD i d = l[i] := by rw [List.getD_eq_getElem?_getD, List.getElem?_eq_getElem h, Option.getD_some]
theorem keysOk_mk {ks : List ByteArray} (hw : ∀ k ∈ ks, IsWord k) (h : ks.Pairwise (fun a b => rl a < rl b)) : KeysOk ks := by
 intro i hi
 refine ⟨hw _ (List.getElem_mem hi), fun h0 => ?_⟩
 have hlt := (List.pairwise_iff_getElem.1 h) (i - 1) i (by omega) hi (by omega)
 refine ⟨?_, fun e => ?_⟩
 ·rw [pX, sI, sI]
  exact decide_eq_false fun h2 => List.lt_irrefl _ (List.lt_trans hlt h2)
 ·rw [e] at hlt
  exact List.lt_irrefl _ hlt
theorem keysOk_word {ks : List ByteArray} (h : KeysOk ks) : ∀ k ∈ ks, IsWord k := by
 intro k hk
 obtain ⟨i, hi, rfl⟩ := List.getElem_of_mem hk
 exact (h i hi).1
theorem plain_all {d : Nat} {g : V → V} {x : V} (h : ∀ y ∈ x.items, y.kind = 5 → ∀ d, IsPlain d y → IsPlain d (g y)) (hx : IsPlain d x) (hk : x.kind = 4 ∨ x.kind = 5) : IsPlain d (turnAll g x) := by
  obtain ⟨q, m, s, ks, ts⟩ := x
  cases d with
  | zero => exact absurd hx (vY hk)
  | succ d =>
    obtain ⟨⟨h1, h2, h3⟩, h4, h5⟩ := (xY hk).1 hx
    unfold turnAll
    simp only [kmk, ymk, imk] at h hk ⊢
    refine (xY hk).2 ⟨⟨rfl, rfl, ?_⟩, by simpa using h4, fun y hy => ?_⟩
    · rw [List.length_map]; exact h3
    · obtain ⟨z, hz, rfl⟩ := List.mem_map.1 hy
      unfold mapKids
      split
      · rename_i hk5
        exact h z hz hk5 d (h5 z hz)
      · exact h5 z hz
theorem plain_turn {d : Nat} {sh : Int} {g : V → V} {x : V} (hf : FitLoc sh x) (h : ∀ y ∈ kidsOf sh x, ∀ d, IsPlain d y → IsPlain d (g y)) (hx : IsPlain d x) : IsPlain d (turnV sh g x) := by
 unfold turnV
 split
 ·rename_i h5
  exact h x (by simp [kidsOf, h5]) d hx
 split
 ·rename_i h6
  split
  ·rename_i hk
   exact h x (by rw [h6, kids6 hk]; simp) d hx
  ·exact hx
 split
 ·rename_i h7
  subst h7
  split
  ·rename_i hk
   exact h x (by rw [kids7 hk]; simp) d hx
  ·rename_i hk
   have hf' : x.kind = 5 ∨ (x.kind = 4 ∧ ∀ x' ∈ x.items, x'.kind = 5) := by simpa [FitLoc] using hf
   have h4 : x.kind = 4 ∧ ∀ x' ∈ x.items, x'.kind = 5 := hf'.elim (fun e => absurd e hk) id
   exact plain_all (fun y hy _ => h y (by rw [kids7l h4.1 h4.2]; exact hy)) hx (.inl h4.1)
 split
 ·rename_i h9
  rcases h9 with h9 | h9
  ·subst h9
   have hf' : x.kind = 5 ∧ ∀ x' ∈ x.items, x'.kind = 5 := by simpa [FitLoc] using hf
   exact plain_all (fun y hy _ => h y (by rw [kids9 hf'.2]; exact hy)) hx (.inr hf'.1)
  ·subst h9
   have hf' : x.kind = 4 ∧ ∀ x' ∈ x.items, x'.kind = 5 := by simpa [FitLoc] using hf
   exact plain_all (fun y hy _ => h y (by rw [kids13 hf'.2]; exact hy)) hx (.inl hf'.1)
 ·exact hx
theorem plain_wr (v : V) : IsShape v → ∀ d, IsPlain d v → IsPlain d (wr v) := by
  refine V.indS (p := fun v => IsShape v → ∀ d, IsPlain d v → IsPlain d (wr v)) (fun v IH hs d hp => ?_) v
  have hk5 := hs.kind
  have hfit := ((xT v).1 hs).2
  have hPl : Pl v := ⟨d, hp⟩
  have hko := hPl.keys hk5
  obtain ⟨he, hl, hsort⟩ := rF hPl hk5
  rw [wr_eq]
  unfold filterV
  cases d with
  | zero =>
    obtain ⟨q, m, s, ks, ts⟩ := v
    exact absurd hp (vY (.inr hk5))
  | succ d =>
    have hpi : v.items.length ≤ 60 ∧ ∀ x ∈ v.items, IsPlain d x := by
      obtain ⟨q, m, s, ks, ts⟩ := v
      exact ((xY (.inr hk5)).1 hp).2
    have hfl : ((v.keys.zip v.items).filter (fun p => isWr p.1)).length ≤ v.items.length := by
      have := List.length_filter_le (fun p : ByteArray × V => isWr p.1) (v.keys.zip v.items)
      rw [List.length_zip] at this
      omega
    refine (xY (.inr rfl)).2 ⟨⟨rfl, rfl, .inr ⟨rfl, by simp, ?_⟩⟩, by rw [List.length_map]; omega, fun x hx => ?_⟩
    · refine keysOk_mk (fun k hk => ?_) ?_
      · obtain ⟨p, hpm, rfl⟩ := List.mem_map.1 hk
        exact keysOk_word hko _ (List.of_mem_zip (List.mem_filter.1 hpm).1).1
      · rw [List.pairwise_map]
        exact (zip_pw hsort).sublist List.filter_sublist
    · obtain ⟨p, hpm, rfl⟩ := List.mem_map.1 hx
      have hz := (List.mem_filter.1 hpm).1
      obtain ⟨j, hj1, hj2⟩ := qC ((wA hPl hk5).1 (show (p.1, p.2) ∈ _ from hz))
      obtain ⟨hf, hkid, _⟩ := hfit j _ _ hj1 hj2
      have hm := List.mem_of_getElem? hj2
      exact plain_turn hf (fun y hy d hd => IH y (Nat.lt_of_le_of_lt (uH hy) (yE hm)) (hkid y hy) d hd) (hpi.2 _ hm)
theorem pl_wr {v : V} (hs : IsShape v) (hp : Pl v) : Pl (wr v) := hp.elim fun d h => ⟨d, plain_wr v hs d h⟩
end Go.Jw

namespace Go.Jw
open Go Go.RowKit Go.Proofs Go.Sort
set_option maxRecDepth 20000
abbrev encN (p : Nat) : Value := .int .i64 (p : Int)
theorem siK (n : Nat) (h2 : 2 ≤ n) : Lib.swapperK n Tryz.t3 2 = 5 := by
 have a : Tryz.t3.hasPointers = false := by kernel_rfl
 have b : Tryz.t3.bytes = 8 := by kernel_rfl
 have c : (n == 0) = false := by simp; omega
 have d : (n == 1) = false := by simp; omega
 simp [Lib.swapperK, a, b, c, d]
theorem fun130 : Fun Tryz.prog 130 := ⟨_, Tryz.func130, by kernel_rfl, rfl⟩
theorem pL {α : Type} [Inhabited α] (encN : α → Value) (w : World) (m b : Nat) (d : Array α) (os : Array Obj) {k : Nat} (hk : k < w.heap.size) (hb : k ≠ b) : (grow (putRow encN (Sort.ahead w m) b 0 d) os).heap[k]? = w.heap[k]? := by
 have h1 : (putRow encN (Sort.ahead w m) b 0 d).heap[k]? = w.heap[k]? := by
  unfold putRow mapBlock
  simp only [heap_ahead]
  rw [Array.getElem?_modify]
  split
  ·rename_i h; exact absurd h.symm hb
  ·rfl
 show ((putRow encN (Sort.ahead w m) b 0 d).heap ++ os)[k]? = _
 rw [Array.getElem?_append_left (by rw [Go.Sort.size_putRow]; exact hk)]
 exact h1
theorem putRow_own {α : Type} [Inhabited α] (encN : α → Value) (w : World) (m b : Nat) (d : Array α) (os : Array Obj) {cur : Array Value} (hb : w.heap[b]? = some (.cells cur 3 (0, 0))) (hl : d.size ≤ cur.size) :
  ∃ cur', (grow (putRow encN (Sort.ahead w m) b 0 d) os).heap[b]? = some (.cells cur' 3 (0, 0)) ∧ cur'.size = cur.size ∧ cur'.toList.take d.size = d.toList.map encN := by
 have hlt := uQ hb
 refine ⟨putCells encN 0 d cur, ?_, by simp [putCells], ?_⟩
 ·show ((putRow encN (Sort.ahead w m) b 0 d).heap ++ os)[b]? = _
  rw [Array.getElem?_append_left (by rw [Go.Sort.size_putRow]; exact hlt)]
  unfold putRow mapBlock
  simp only [heap_ahead]
  rw [Array.getElem?_modify, if_pos rfl, hb]
  rfl
 ·apply List.ext_getElem?
  intro i
  rw [List.getElem?_take]
  by_cases hi : i < d.size
  ·rw [if_pos hi]
   have : i < cur.size := by omega
   simp [putCells, hi, this]
  ·rw [if_neg hi, List.getElem?_eq_none (by simp; omega)]
theorem c130 (g : FuncId) (lb : Array Value) (b n c N : Nat) (ds : List Nat) (hds : ∀ x ∈ ds, x < N) (lt : Nat → Nat → Bool) (hO : SWO lt) (M2 : List HA) (D : List DA) (hsz : n < 4611686018427387904) (eg : ∀ args w, (callFunc g args).run Tryz.prog w = .ok (.enter g args) w)
    (hless : ∀ (W : World) (dk : List Nat), dk.length = n → (∀ x ∈ dk, x < N) → (∀ x ∈ M2, x.holds W) → (∀ j x, dk[j]? = some x → W.cell? ⟨b, j, none⟩ = some (encN x)) → (∃ ok, ∀ d ∈ D, d.p W ok) → ∀ (i j : Nat) (hi : i < dk.length) (hj : j < dk.length),
      Calls Tryz.prog g (#[.int .i64 i, .int .i64 j] ++ lb) W fun e w' => e = .returned (.bool (lt dk[i] dk[j])) ∧ ∃ q, w' = W.drewN q) :
    Ct Tryz.prog 130 #[.iface 139 (.slice (some ⟨b, 0, none⟩) n c), .func (.func g) #[] lb] (.row (some ⟨b, 0, none⟩) n c 3 1 (ds.map encN) :: M2) D
      (fun u M' D' => u = .tuple #[] ∧ (∃ ds' : List Nat, ds'.Perm ds ∧ ds'.Pairwise (fun x y => lt y x = false) ∧ M' = .row (some ⟨b, 0, none⟩) n c 3 1 (ds'.map encN) :: M2) ∧ D' = []) := by
  refine ⟨fun130, fun w ok hok hM hn hD => ?_⟩
  have hrow : w.ownsRow 0 3 1 (.slice (some ⟨b, 0, none⟩) n c) n (ds.map encN) := hM _ List.mem_cons_self
  obtain ⟨h1, h2⟩ := hrow
  have hdl : ds.length = n := by simpa using h1
  obtain ⟨cur, hb, hnc, hcm, hcs, hct⟩ : ∃ cur, w.heap[b]? = some (.cells cur 3 (0, 0)) ∧ n ≤ c ∧ c ≤ maxLen ∧ cur.size = c * 1 ∧ cur.toList.take (n * 1) = ds.map encN := by
    rcases h2 with ⟨h, _⟩ | ⟨g', cap, cur, hv, _, a1, a2, a3, a4, a5⟩
    · cases h
    · injection hv with e1 _ e3
      injection e1 with e1
      injection e1 with e1
      subst e1; subst e3
      exact ⟨cur, a1, a2, a3, a4, a5⟩
  have hblk : b < w.heap.size := uQ hb
  have hfoot : foots (.row (some ⟨b, 0, none⟩) n c 3 1 (ds.map encN) :: M2) = b :: foots M2 := rfl
  rw [hfoot] at hn
  have hb2 : b ∉ foots M2 := (List.nodup_cons.1 hn).1
  have hfin : ∀ (w' : World) (ds' : List Nat), ds'.Perm ds → ds'.Pairwise (fun x y => lt y x = false) → Chg [b] w w' → (HA.row (some ⟨b, 0, none⟩) n c 3 1 (ds'.map encN)).holds w' →
      ∃ (v : Value) (M' : List HA) (D' : List DA), (Ending.returned (.tuple #[])) = .returned v ∧ (v = .tuple #[] ∧ (∃ ds' : List Nat, ds'.Perm ds ∧ ds'.Pairwise (fun x y => lt y x = false) ∧ M' = HA.row (some ⟨b, 0, none⟩) n c 3 1 (ds'.map encN) :: M2) ∧ D' = []) ∧ Chg (b :: foots M2) w w' ∧ (∀ h ∈ M', h.holds w') ∧ (foots M').Nodup ∧ (∀ q ∈ foots M', q ∈ b :: foots M2 ∨ w.heap.size ≤ q) ∧
      ∀ d ∈ D', d.p w' (fun k => (ok k ∨ w.heap.size ≤ k) ∧ k < w'.heap.size ∧ k ∉ foots M') := by
    intro w' ds' hp hs hc hh
    refine ⟨_, HA.row (some ⟨b, 0, none⟩) n c 3 1 (ds'.map encN) :: M2, [], rfl, ⟨rfl, ⟨ds', hp, hs, rfl⟩, rfl⟩, hc.mono (fun k _ hk => by rw [List.mem_singleton.1 hk]; exact List.mem_cons_self), ?_, hn, fun q hq => .inl hq, by simp⟩
    intro x hx
    rcases List.mem_cons.1 hx with rfl | hx2
    · exact hh
    · have hx0 := hM x (List.mem_cons_of_mem _ hx2)
      exact HA.move hx0 fun q hq => hc.block q (HA.foot_lt hx0 q hq) (by
        intro hqb
        rw [List.mem_singleton.1 hqb] at hq
        exact hb2 (uV.2 ⟨x, hx2, hq⟩))
  rcases Nat.lt_or_ge n 2 with h2n | h2n
  · have hK : Lib.swapperK n Tryz.t3 2 = n + 1 := by
      rcases Nat.eq_zero_or_pos n with h | h
      · subst h; simp [Lib.swapperK]
      · obtain rfl : n = 1 := by omega
        simp [Lib.swapperK]
    have hS := Any.sort_Slice_tiny Tryz.laysGg6 139 3 Tryz.t139 Tryz.t3 (zL Tryz.typeInfo139) (by kernel_rfl) (by kernel_rfl) (zL Tryz.typeInfo3) 2 (fun _ => by kernel_rfl) (some ⟨b, 0, none⟩) n c (by omega) (196 + n) (by
      rw [hK]
      rcases Nat.eq_zero_or_pos n with h | h
      · subst h; kernel_rfl
      · obtain rfl : n = 1 := by omega
        kernel_rfl) (.func g) #[] lb w
    refine Calls.mono hS ?_
    rintro e w' ⟨rfl, os, rfl⟩
    refine hfin _ ds (.refl _) ?_ ⟨rfl, rfl, rfl, by simp [grow], fun k hk _ => ?_⟩ ?_
    · match ds, hdl with
      | [], _ => exact .nil
      | [x], _ => simp
      | _ :: _ :: _, h => simp at h; omega
    · show (w.heap ++ os)[k]? = _
      exact Array.getElem?_append_left hk
    · refine ⟨h1, .inr ⟨b, c, cur, rfl, Nat.zero_le _, ?_, hnc, hcm, hcs, hct⟩⟩
      show (w.heap ++ os)[b]? = _
      rw [Array.getElem?_append_left hblk]
      exact hb
  · have hcell : ∀ j x, ds[j]? = some x → w.cell? ⟨b, j, none⟩ = some (encN x) := by
      intro j x hj
      have hlt := (List.getElem?_eq_some_iff.1 hj).1
      have h3 : (cur.toList.take (n * 1))[j]? = some (encN x) := by rw [hct, List.getElem?_map, hj]; rfl
      rw [List.getElem?_take, if_pos (by omega)] at h3
      simp only [World.cell?, hb]
      simpa using h3
    have hN : 0 < N := by
      match ds, hdl, hds with
      | [], h, _ => simp at h; omega
      | x :: _, _, h => exact Nat.lt_of_le_of_lt (Nat.zero_le _) (h x List.mem_cons_self)
    letI : Inhabited (Fin N) := ⟨⟨0, hN⟩⟩
    let encF : Fin N → Value := fun x => encN x.1
    let fs : List (Fin N) := ds.pmap (fun x h => ⟨x, h⟩) hds
    have hfs : fs.map (fun x => x.1) = ds := by
      show (ds.pmap (fun x h => (⟨x, h⟩ : Fin N)) hds).map (fun x => x.1) = ds
      rw [List.map_pmap]
      simp
    have hfl : fs.length = n := by rw [← hdl, ← hfs, List.length_map]
    have hval : ∀ l : List (Fin N), (l.map fun x => x.1).map encN = l.map encF := fun l => by rw [List.map_map]; rfl
    have hlto : ∀ l : List (Fin N), ∀ x ∈ l.map (fun x => x.1), x < N := fun l x hx => by
      obtain ⟨y, _, rfl⟩ := List.mem_map.1 hx
      exact y.2
    have hH : Holds encF w b 0 fs.toArray := by
      intro j hj
      have hj' : j < fs.length := by simpa using hj
      refine ⟨?_, ?_⟩
      · rw [Nat.zero_add, hcell j fs[j].1 (by rw [← hfs, List.getElem?_map, List.getElem?_eq_getElem hj']; rfl)]
        simp [hj', encF]
      · simp [World.frozen?, hb]
    have hL : LessReads Tryz.prog g lb encF (fun x y => lt x.1 y.1) b 0 fs.toArray.size w := by
      intro m os dk hs i j hi hj
      have hs' : dk.size = n := by rw [hs]; simpa using hfl
      obtain ⟨cur', a1, a2, a3⟩ := putRow_own encF w m b dk os hb (by omega)
      have key := hless (sortWorld encF w b 0 m dk os) (dk.toList.map fun x => x.1) (by simpa using hs') (hlto _) (fun x hx => by
        have hx0 := hM x (List.mem_cons_of_mem _ hx)
        exact HA.move hx0 fun q hq => pL encF w m b dk os (HA.foot_lt hx0 q hq) (by rintro rfl; exact hb2 (uV.2 ⟨x, hx, hq⟩))) (fun q x hq => by
        have hlt := (List.getElem?_eq_some_iff.1 hq).1
        have h3 : (cur'.toList.take dk.size)[q]? = some (encN x) := by rw [a3, ← hval, List.getElem?_map, hq]; rfl
        rw [List.getElem?_take, if_pos (by simpa using hlt)] at h3
        show World.cell? (grow (putRow encF (Sort.ahead w m) b 0 dk) os) _ = _
        simp only [World.cell?, a1]
        simpa using h3) ⟨ok, fun d hd => d.mono (fun k hk => hk) (fun k hk => pL encF w m b dk os (hok k hk).1 (by rintro rfl; exact (hok k hk).2 (by rw [hfoot]; exact List.mem_cons_self))) (hD d hd)⟩ i j (by simp at hi ⊢; omega) (by simp at hj ⊢; omega)
      have hi' : i < dk.size := by simp at hi; omega
      have hj' : j < dk.size := by simp at hj; omega
      have e1 : dk[i]! = dk.toList[i]'(by simpa using hi') := by simp [hi']
      have e2 : dk[j]! = dk.toList[j]'(by simpa using hj') := by simp [hj']
      rw [e1, e2]
      simpa using key
    have hO' : SWO (fun x y : Fin N => lt x.1 y.1) := ⟨fun x => hO.irrefl _, fun x y z => hO.trans _ _ _, fun x y z => hO.ntrans _ _ _⟩
    have hS := Any.sort_Slice_sorted Tryz.laysGg6 139 3 Tryz.t139 Tryz.t3 (zL Tryz.typeInfo139) (by kernel_rfl) (by kernel_rfl) (zL Tryz.typeInfo3) 2 (fun _ => by kernel_rfl) (by kernel_rfl) (fun _ => by kernel_rfl) encF (fun _ => rfl) (fun x y => lt x.1 y.1) hO' g lb eg b 0 c fs.toArray (by simp; omega) (by simp; omega) 200
      (by rw [siK _ (by simp; omega)]; kernel_rfl) true (fun args W => run_callFunc_extern Tryz.func200 (by kernel_rfl) (by kernel_rfl) (by kernel_rfl) (e := Extern.ReflectliteSwapper.swap true) (by kernel_rfl) args W) w hL hH hblk
    have e0 : fs.toArray.size = n := by simpa using hfl
    rw [e0] at hS
    refine Calls.mono hS ?_
    rintro e w' ⟨rfl, d', m, os, hp, hs, rfl⟩
    have hd' : d'.size = n := by rw [hp.1, e0]
    obtain ⟨cur', a1, a2, a3⟩ := putRow_own encF w m b d' os hb (by omega)
    refine hfin _ (d'.toList.map fun x => x.1) ?_ ?_ ⟨rfl, rfl, rfl, by simp [grow], fun k hk hkb => pL encF w m b d' os hk (by simpa using hkb)⟩ ?_
    · have := hp.2.2
      have e3 : d'.extract 0 n = d' := by rw [← hd']; simp
      have e4 : fs.toArray.extract 0 n = fs.toArray := by rw [← e0]; simp
      rw [e3, e4] at this
      have h2 := this.map (fun x : Fin N => x.1)
      simp only [] at h2
      rw [hfs] at h2
      exact h2
    · rw [List.pairwise_map, List.pairwise_iff_getElem]
      intro i j hi hj hij
      have := hs i j (Nat.zero_le _) hij (by simp at hj; omega)
      have e1 : d'[i]! = d'.toList[i] := by simp at hi; simp [hi]
      have e2 : d'[j]! = d'.toList[j] := by simp at hj; simp [hj]
      rw [e1, e2] at this
      exact this
    · refine ⟨by simp [hd'], .inr ⟨b, c, cur', rfl, Nat.zero_le _, a1, hnc, hcm, by rw [a2, hcs], ?_⟩⟩
      rw [Nat.mul_one, ← hd', hval]
      exact a3
end Go.Jw

namespace Go.Jw
open Go Go.RowKit Go.Proofs
set_option maxRecDepth 8000
section rules
variable {P : Program} {n : Nat} {F : List Nat} {c : Ctx F} {ops : Array Oper} {d : Nat} {T : TypeId} {l : List Oper} {k : List KI} {Q : Post} {e : Env} {M : List HA} {D : List DA}
theorem pM {fn : Func} {R : Value → List HA → List DA → Prop} {M' : List HA} {D' : List DA} (hr : fn.results = #[]) (hR : R (.tuple #[]) M' D') (hM : List.Sublist M' M) (hD : ∀ d ∈ D', d ∈ D) : Run P n c [] (RetQ P c fn R) e M D := by
 intro a w hf
 have hsub := pQ hM
 have hres : (results fn a.tmps).run P w = .ok (.tuple #[]) w := by simp [results, hr]
 refine ⟨hf.defers, .tuple #[], hres, .tuple #[], M', D', rfl, hR, hf.chg, fun x hx => hf.own x (hM.mem hx), hf.nodup.sublist hsub, fun b hb => hf.foot b (hsub.mem hb), fun x hx => ?_⟩
 exact x.mono (fun q hq => ⟨hq.1, hq.2.1, fun h' => hq.2.2 (hsub.mem h')⟩) (fun _ _ => rfl) (hf.dat x (hD x hx))
end rules
def Sf (S : ByteArray) (p : Nat) (l : List UInt8) : Prop := (rl S).drop p = l ∧ p ≤ S.size
theorem Sf.size {S : ByteArray} {p : Nat} {l : List UInt8} (h : Sf S p l) : S.size = p + l.length := by
 have h1 := congrArg List.length h.1
 rw [List.length_drop, ← sz_rl] at h1
 have := h.2
 omega
theorem Sf.get {S : ByteArray} {p : Nat} {l : List UInt8} (h : Sf S p l) {i : Nat} (hi : i < l.length) (hs : p + i < S.size) : S[p + i] = l[i] := by
 have h1 : ((rl S).drop p)[i]? = l[i]? := by rw [h.1]
 rw [List.getElem?_drop, List.getElem?_eq_getElem hi] at h1
 have h2 : (rl S)[p + i]? = some S[p + i] := by
  have h3 : p + i < (rl S).length := by rw [← sz_rl]; exact hs
  rw [List.getElem?_eq_getElem h3]
  rfl
 rw [h2] at h1
 exact Option.some.inj h1
def isBl (b : UInt8) : Prop := b.toNat = 32 ∨ b.toNat = 10 ∨ b.toNat = 9 ∨ b.toNat = 13
theorem strOf_bytes (s : List UInt8) : strOfNums (s.map fun b => (b.toNat : Int)) = bs s := by
 unfold strOfNums bs
 congr 1
 apply Array.ext'
 simp only [List.map_toArray, List.map_map]
 conv => rhs; rw [← List.map_id s]
 refine List.map_congr_left fun b _ => ?_
 simp
section rules
variable {P : Program} {n : Nat} {F : List Nat} {c : Ctx F} {ops : Array Oper} {d : Nat} {T : TypeId} {l : List Oper} {k : List KI} {Q : Post} {e : Env} {M : List HA} {D : List DA}
theorem op_convBS (i : Nat) {x : Operand} {A : Option Addr} {m cap : Nat} {S S' E : TypeId} {s : List UInt8} (hs : P.underlying S = some (.slice E)) (he : P.underlying E = some (.int .u8)) (hd' : P.underlying S' = some .string) (hd : Nat.blt d n = true) (hx : ev e x = some (.slice A m cap)) (hi : M[i]? = some (.row A m cap E 1 (s.map fun b => .int .u8 (b.toNat : Int))))
    (next : RunOps P n c ops l k Q ((d, .string (bs s)) :: e) M D) : RunOp P n c ops (some d) (.convert S S' x) T l k Q e M D :=
  xJ hd (fun a w hf => by
    have hrow := hf.toFitsW.mem hi
    obtain ⟨h1, h2, h3⟩ := uG hrow
    have hm : s.length = m := by have := hrow.1; simpa using this
    have hcv : (convert S S' (.slice A m cap)).run P w = .ok (.string (bs s)) w := by
      rcases hrow.2 with ⟨h, h0⟩ | ⟨g, cap', cur, hv, _, hc, hn, hmm, hcs, ht⟩
      · injection h with h4 h5 h6
        subst h4
        rw [run_convert_bytes_nil w S E hs he m cap S' hd']
        have : s = [] := List.eq_nil_of_length_eq_zero (by omega)
        subst this
        rfl
      · injection hv with h4 h5 h6
        subst h4; subst h6
        rw [run_convert_bytes_arg w S E hs he g 0 m cap (s.map fun b => (b.toNat : Int)) (by simpa using hm) (fun j hj => by
          obtain ⟨a', ha, _, hcell⟩ := h3 j (.int .u8 ((s[j]'(by omega)).toNat : Int)) (by rw [List.getElem?_map, List.getElem?_eq_getElem (by omega)]; rfl)
          cases ha
          rw [wI] at hcell
          rw [hcell]
          simp [List.getD_eq_getElem?_getD, List.getElem?_map, List.getElem?_eq_getElem (show j < s.length by omega)]) S' hd', strOf_bytes]
    simp [execOp, opr, hf.ev hx, hcv]) next
end rules
end Go.Jw

namespace Go.Jw
open Go Go.RowKit Go.Proofs Go.Sort
set_option maxRecDepth 20000
def ltK (keys : List ByteArray) (a b : Nat) : Bool := decide (rl (keys.getD a ⟨#[]⟩) < rl (keys.getD b ⟨#[]⟩))
theorem ltK_swo (keys : List ByteArray) : SWO (ltK keys) := by
 refine ⟨fun x => ?_, fun x y z h1 h2 => ?_, fun x y z h1 h2 => ?_⟩
 ·exact decide_eq_false (List.lt_irrefl _)
 ·exact decide_eq_true (List.lt_trans (of_decide_eq_true h1) (of_decide_eq_true h2))
 ·have h3 := List.not_lt.1 (of_decide_eq_false h1)
  have h4 := List.not_lt.1 (of_decide_eq_false h2)
  exact decide_eq_false (List.not_lt.2 (List.le_trans h4 h3))
end Go.Jw

namespace Go.Jw
open Go Go.RowKit Go.Proofs
set_option maxRecDepth 8000
theorem places_srt {α : Type} (dflt : α) (ks : List ByteArray) (vs : List α) (ds : List Nat) (hl : ks.length = vs.length) (hn : ks.Nodup) (hp : ds.Perm (List.range ks.length)) (hs : ds.Pairwise (fun x y => ltK ks y x = false)) :
  srtP (ks.zip vs) = ds.map (fun i => (ks.getD i ⟨#[]⟩, vs.getD i dflt)) := by
 have hall : (List.range ks.length).map (fun i => (ks.getD i ⟨#[]⟩, vs.getD i dflt)) = ks.zip vs := by
  apply List.ext_getElem
  ·simp; omega
  ·intro i h1 h2
   simp only [List.length_map, List.length_range] at h1
   rw [List.getElem_map, List.getElem_range, List.getElem_zip, vT h1, vT (by omega)]
 refine srtP_eq ?_ ?_ ?_
 ·rw [← hall]
  exact hp.map _
 ·rw [List.pairwise_map]
  exact hs.imp fun h => List.not_lt.1 (of_decide_eq_false h)
 ·rw [vB (by omega)]; exact hn
theorem places_lt {n : Nat} {ds : List Nat} (hp : ds.Perm (List.range n)) : ∀ x ∈ ds, x < n := fun x hx => List.mem_range.1 (hp.mem_iff.1 hx)
theorem places_ne {ks : List ByteArray} {ds : List Nat} (hn : ks.Nodup) (hp : ds.Perm (List.range ks.length)) {i j : Nat} (hij : i < j) (hj : j < ds.length) : ks.getD (ds[i]'(by omega)) ⟨#[]⟩ ≠ ks.getD ds[j] ⟨#[]⟩ := by
  have h1 := places_lt hp _ (List.getElem_mem (show i < ds.length by omega))
  have h2 := places_lt hp _ (List.getElem_mem hj)
  rw [vT h1, vT h2]
  intro he
  have hnd : ds.Nodup := hp.nodup_iff.2 List.nodup_range
  have h3 := (List.getElem_inj hn).1 he
  have h4 := (List.getElem_inj hnd).1 h3
  omega
end Go.Jw

namespace Go.Jw
open Go Go.RowKit Go.Proofs
set_option maxRecDepth 8000
open Go.Sort (SWO)
section rules
variable {P : Program} {n : Nat} {F : List Nat} {c : Ctx F} {ops : Array Oper} {d : Nat} {T : TypeId} {l : List Oper} {k : List KI} {Q : Post} {e : Env} {M : List HA} {D : List DA}
theorem op_makeIface {x : Operand} {v : Value} {S : TypeId} (hS : P.concrete S = true) (hd : Nat.blt d n = true) (hx : ev e x = some v) (next : RunOps P n c ops l k Q ((d, .iface S v) :: e) M D) : RunOp P n c ops (some d) (.makeInterface S x) T l k Q e M D :=
 xJ hd (fun a w hf => by
  have := run_makeInterface (P := P) (w := w) S v hS
  simp [execOp, opr, hf.ev hx, this]) next
theorem run_rowA (i : Nat) {A : Option Addr} {m cap U sz : Nat} {xs : List Value} (hi : M[i]? = some (.row A m cap U sz xs)) (h0 : m ≠ 0) (next : ∀ b, A = some ⟨b, 0, none⟩ → Run P n c k Q e M D) : Run P n c k Q e M D := by
 intro a w hf
 have hrow := hf.toFitsW.mem hi
 rcases hrow.2 with ⟨_, h⟩ | ⟨g, cap', cur, hv, _⟩
 ·exact absurd h h0
 ·injection hv with h4
  exact next g h4 a w hf
theorem row_at {w : World} (h : FitsW c M D w) {i j : Nat} {A : Addr} {m cap U : Nat} {xs : List Value} {v : Value} (hi : M[i]? = some (.row (some A) m cap U 1 xs)) (hv : xs[j]? = some v) : w.cell? (A.add (j * 1)) = some v := by
 obtain ⟨_, _, h3⟩ := uG (h.mem hi)
 obtain ⟨a, ha, _, hc⟩ := h3 j v hv
 cases ha
 rw [Nat.mul_one]
 exact hc
theorem row_atA {w : World} (h : FitsW c M D w) {i j : Nat} {A : Option Addr} {m cap U : Nat} {xs : List Value} {v : Value} (hi : M[i]? = some (.row A m cap U 1 xs)) (hv : xs[j]? = some v) : w.cell? (At A (j * 1)) = some v := by
 obtain ⟨_, _, h3⟩ := uG (h.mem hi)
 obtain ⟨a, ha, _, hc⟩ := h3 j v hv
 subst ha
 rw [Nat.mul_one]
 exact hc
end rules
theorem wX {α β : Type} {f : α → β} {ts : List α} {i : Nat} {x : β} (hi : i < ts.length) (hx : x = f ts[i]) : (ts.take i).map f ++ [x] = (ts.take (i + 1)).map f := by
 subst hx; exact uM hi
theorem take_get {α β : Type} {f : α → β} {ds : List α} {i j : Nat} (h : j < i) (hj : j < ds.length) : ((ds.take i).map f)[j]? = some (f ds[j]) := by
 rw [List.getElem?_map, List.getElem?_take, if_pos h, List.getElem?_eq_getElem hj]; rfl
section rules
variable {P : Program} {n : Nat} {F : List Nat} {c : Ctx F} {ops : Array Oper} {k : List KI} {Q : Post} {e : Env} {M : List HA} {D : List DA} {I : List (List Nat)} {S : List (List HA × List DA)} {listed : Array Bool} {fuel : Nat}
end rules

end Go.Jw

namespace Go.Jw
open Go Go.RowKit Go.Proofs
set_option maxRecDepth 8000
def headB (l : List UInt8) : UInt8 := match l with
  | [] => 0
  | b :: _ => b
structure Elem (R : Nat → List UInt8) (j : Nat) : Prop where
 ne : R j ≠ []
 bl : ¬ isBl (headB (R j))
 n93 : headB (R j) ≠ 93

theorem plain_norm (v : V) : IsShape v → ∀ d, IsPlain d v → IsPlain d (normalV v) := by
  refine V.indS (p := fun v => IsShape v → ∀ d, IsPlain d v → IsPlain d (normalV v)) (fun v IH hs d hp => ?_) v
  have hk5 := hs.kind
  have hfit := ((xT v).1 hs).2
  have hPl : Pl v := ⟨d, hp⟩
  have hko := hPl.keys hk5
  obtain ⟨he, hl, hsort⟩ := rF hPl hk5
  rw [uU]
  unfold filterV
  cases d with
  | zero =>
    obtain ⟨q, m, s, ks, ts⟩ := v
    exact absurd hp (vY (.inr hk5))
  | succ d =>
    have hpi : v.items.length ≤ 60 ∧ ∀ x ∈ v.items, IsPlain d x := by
      obtain ⟨q, m, s, ks, ts⟩ := v
      exact ((xY (.inr hk5)).1 hp).2
    have hfl : ((v.keys.zip v.items).filter (fun p => isKw p.1)).length ≤ v.items.length := by
      have := List.length_filter_le (fun p : ByteArray × V => isKw p.1) (v.keys.zip v.items)
      rw [List.length_zip] at this
      omega
    refine (xY (.inr rfl)).2 ⟨⟨rfl, rfl, .inr ⟨rfl, by simp, ?_⟩⟩, by rw [List.length_map]; omega, fun x hx => ?_⟩
    · refine keysOk_mk (fun k hk => ?_) ?_
      · obtain ⟨p, hpm, rfl⟩ := List.mem_map.1 hk
        exact keysOk_word hko _ (List.of_mem_zip (List.mem_filter.1 hpm).1).1
      · rw [List.pairwise_map]
        exact (zip_pw hsort).sublist List.filter_sublist
    · obtain ⟨p, hpm, rfl⟩ := List.mem_map.1 hx
      have hz := (List.mem_filter.1 hpm).1
      obtain ⟨j, hj1, hj2⟩ := qC ((wA hPl hk5).1 (show (p.1, p.2) ∈ _ from hz))
      obtain ⟨hf, hkid, _⟩ := hfit j _ _ hj1 hj2
      have hm := List.mem_of_getElem? hj2
      exact plain_turn hf (fun y hy d hd => IH y (Nat.lt_of_le_of_lt (uH hy) (yE hm)) (hkid y hy) d hd) (hpi.2 _ hm)
end Go.Jw

namespace Go.Jw
open Go Go.RowKit
theorem vN {m : Nat} (h : m < 18446744073709551616) : IntKind.u64.wrap (m : Int) = m := by
 have : ((m : Int) % 18446744073709551616) = m := by omega
 simpa [IntKind.wrap, IntKind.bits, IntKind.signed] using this
theorem eqGuard_float (op : BinOp) (t : TypeId) (x y : Operand) (kd kd' : FloatKind) (m n : Nat) (P : Program) (w : World) : (eqGuard op t x y (.float kd m) (.float kd' n)).run P w = .ok () w := by
 cases op <;> rfl
section rules
variable {P : Program} {n : Nat} {F : List Nat} {c : Ctx F} {ops : Array Oper} {d : Nat} {T : TypeId} {l : List Oper} {k : List KI} {Q : Post} {e : Env} {M : List HA} {D : List DA}
variable {x y : Operand} {S S' : TypeId}
theorem op_fl {op : BinOp} {m m' : Nat} {v : Value} (hd : Nat.blt d n = true) (hx : ev e x = some (.float .f64 m)) (hy : ev e y = some (.float .f64 m')) (hr : ∀ w, (binOp op S (.float .f64 m) (.float .f64 m')).run P w = .ok v w) (next : RunOps P n c ops l k Q ((d, v) :: e) M D) :
  RunOp P n c ops (some d) (.binOp op S x y S') T l k Q e M D :=
 xJ hd (fun a w hf => by simp [execOp, opr, hf.ev hx, hf.ev hy, eqGuard_float, hr]) next
theorem op_fquo {m m' r : Nat} (hd : Nat.blt d n = true) (hx : ev e x = some (.float .f64 m)) (hy : ev e y = some (.float .f64 m')) (hr : Ieee.double.div m m' = some r) (next : RunOps P n c ops l k Q ((d, .float .f64 r) :: e) M D) : RunOp P n c ops (some d) (.binOp .quo S x y S') T l k Q e M D :=
 op_fl hd hx hy (fun w => run_float_arith w .quo S .f64 m m' r hr) next
theorem op_fmul {m m' r : Nat} (hd : Nat.blt d n = true) (hx : ev e x = some (.float .f64 m)) (hy : ev e y = some (.float .f64 m')) (hr : Ieee.double.mul m m' = some r) (next : RunOps P n c ops l k Q ((d, .float .f64 r) :: e) M D) : RunOp P n c ops (some d) (.binOp .mul S x y S') T l k Q e M D :=
 op_fl hd hx hy (fun w => run_float_arith w .mul S .f64 m m' r hr) next
theorem op_flss {m m' : Nat} {b : Bool} (hd : Nat.blt d n = true) (hx : ev e x = some (.float .f64 m)) (hy : ev e y = some (.float .f64 m')) (hr : (Ieee.double.order m m' == some .lt) = b) (next : RunOps P n c ops l k Q ((d, .bool b) :: e) M D) : RunOp P n c ops (some d) (.binOp .lss S x y S') T l k Q e M D :=
 op_fl hd hx hy (fun w => by subst hr; simp [binOp, Op.floatCmp, FloatKind.format]) next
theorem op_fgtr {m m' : Nat} {b : Bool} (hd : Nat.blt d n = true) (hx : ev e x = some (.float .f64 m)) (hy : ev e y = some (.float .f64 m')) (hr : (Ieee.double.order m m' == some .gt) = b) (next : RunOps P n c ops l k Q ((d, .bool b) :: e) M D) : RunOp P n c ops (some d) (.binOp .gtr S x y S') T l k Q e M D :=
 op_fl hd hx hy (fun w => by subst hr; simp [binOp, Op.floatCmp, FloatKind.format]) next
theorem op_feql {m m' : Nat} {b : Bool} (hd : Nat.blt d n = true) (hx : ev e x = some (.float .f64 m)) (hy : ev e y = some (.float .f64 m')) (hr : (Ieee.double.order m m' == some .eq) = b) (next : RunOps P n c ops l k Q ((d, .bool b) :: e) M D) : RunOp P n c ops (some d) (.binOp .eql S x y S') T l k Q e M D :=
 op_fl hd hx hy (fun w => by subst hr; simp [binOp, Op.floatCmp, FloatKind.format]) next
theorem op_fneq {m m' : Nat} {b : Bool} (hd : Nat.blt d n = true) (hx : ev e x = some (.float .f64 m)) (hy : ev e y = some (.float .f64 m')) (hr : (Ieee.double.order m m' != some .eq) = b) (next : RunOps P n c ops l k Q ((d, .bool b) :: e) M D) : RunOp P n c ops (some d) (.binOp .neq S x y S') T l k Q e M D :=
 op_fl hd hx hy (fun w => by subst hr; simp [binOp, Op.floatCmp, FloatKind.format]) next
theorem op_fneg {m r : Nat} (hd : Nat.blt d n = true) (hx : ev e x = some (.float .f64 m)) (hr : m ^^^ 2 ^ 63 = r) (next : RunOps P n c ops l k Q ((d, .float .f64 r) :: e) M D) : RunOp P n c ops (some d) (.unOp .neg S x) T l k Q e M D :=
 xJ hd (fun a w hf => by
  subst hr
  simp [execOp, opr, hf.ev hx, Op.unary, Op.negFloat, FloatKind.format, Ieee.double]) next
theorem op_convIF {kd : IntKind} {m : Int} (hS : (P.underlying S).isSome = true) (hS' : P.underlying S' = some (.float .f64)) (hd : Nat.blt d n = true) (hx : ev e x = some (.int kd m)) (next : RunOps P n c ops l k Q ((d, .float .f64 (near (decide (m < 0)) m.natAbs 0)) :: e) M D) :
  RunOp P n c ops (some d) (.convert S S' x) T l k Q e M D :=
 xJ hd (fun a w hf => by
  have := run_convert_int_float (P := P) (w := w) S S' kd .f64 m hS hS'
  simp [execOp, opr, hf.ev hx, this]
  rfl) next
theorem op_convFI {kd : IntKind} {m : Nat} {r : Int} (hS : (P.underlying S).isSome = true) (hS' : P.underlying S' = some (.int kd)) (hd : Nat.blt d n = true) (hx : ev e x = some (.float .f64 m)) (hr : (Ieee.double.read m).toInt .zero = some r) (h1 : kd.min ≤ r) (h2 : r ≤ kd.max)
  (next : RunOps P n c ops l k Q ((d, .int kd r) :: e) M D) : RunOp P n c ops (some d) (.convert S S' x) T l k Q e M D :=
 xJ hd (fun a w hf => by
  have := run_convert_float_int (P := P) w S S' .f64 kd m r hS hS' (by unfold floatToIntVal; show (match (Ieee.double.read m).toInt .zero with | some n => if kd.min ≤ n ∧ n ≤ kd.max then some n else none | none => none) = _; rw [hr]; simp [h1, h2])
  simp [execOp, opr, hf.ev hx, this]) next
theorem op_convII {kd kd' : IntKind} {m r : Int} (hS : P.underlying S = some (.int kd)) (hS' : P.underlying S' = some (.int kd')) (hd : Nat.blt d n = true) (hx : ev e x = some (.int kd m)) (hr : kd'.wrap m = r)
  (next : RunOps P n c ops l k Q ((d, .int kd' r) :: e) M D) : RunOp P n c ops (some d) (.convert S S' x) T l k Q e M D :=
 xJ hd (fun a w hf => by
  subst hr
  have : (convert S S' (.int kd m)).run P w = .ok (.int kd' (kd'.wrap m)) w := by simp [convert, run_underlying hS, run_underlying hS', Conv.intToInt]
  simp [execOp, opr, hf.ev hx, this]) next
theorem op_int' {op : BinOp} {kd kd' : IntKind} {m m' : Int} {v : Value} (hd : Nat.blt d n = true) (hx : ev e x = some (.int kd m)) (hy : ev e y = some (.int kd' m')) (hr : ∀ w, (binOp op S (.int kd m) (.int kd' m')).run P w = .ok v w) (next : RunOps P n c ops l k Q ((d, v) :: e) M D) :
  RunOp P n c ops (some d) (.binOp op S x y S') T l k Q e M D :=
 xJ hd (fun a w hf => by simp [execOp, opr, hf.ev hx, hf.ev hy, sY, hr]) next
theorem uP {m : Nat} (h : m < 18446744073709551616) : (BitVec.ofInt 64 (m : Int)).toNat = m := by
 rw [BitVec.ofInt_natCast, BitVec.toNat_ofNat]; exact Nat.mod_eq_of_lt h
theorem op_andU {m m' r : Nat} (hd : Nat.blt d n = true) (hx : ev e x = some (.int .u64 (m : Int))) (hy : ev e y = some (.int .u64 (m' : Int))) (hm : m < 18446744073709551616) (hm' : m' < 18446744073709551616) (hr : m &&& m' = r) (next : RunOps P n c ops l k Q ((d, .int .u64 (r : Int)) :: e) M D) :
  RunOp P n c ops (some d) (.binOp .and S x y S') T l k Q e M D :=
 op_int' hd hx hy (fun w => by
  subst hr
  have h1 : m &&& m' < 18446744073709551616 := Nat.lt_of_le_of_lt Nat.and_le_left hm
  have h2 : (BitVec.ofInt IntKind.u64.bits (m : Int) &&& BitVec.ofInt IntKind.u64.bits (m' : Int)).toNat = m &&& m' := by
   have e1 := uP hm; have e2 := uP hm'; rw [BitVec.toNat_and]; show (BitVec.ofInt 64 _).toNat &&& (BitVec.ofInt 64 _).toNat = _; rw [e1, e2]
  simp only [binOp, Op.intBits, h2, vN h1]
  rfl) next
theorem op_orU {m m' r : Nat} (hd : Nat.blt d n = true) (hx : ev e x = some (.int .u64 (m : Int))) (hy : ev e y = some (.int .u64 (m' : Int))) (hm : m < 18446744073709551616) (hm' : m' < 18446744073709551616) (hr : m ||| m' = r) (next : RunOps P n c ops l k Q ((d, .int .u64 (r : Int)) :: e) M D) :
  RunOp P n c ops (some d) (.binOp .or S x y S') T l k Q e M D :=
 op_int' hd hx hy (fun w => by
  subst hr
  have h1 : m ||| m' < 18446744073709551616 := Nat.or_lt_two_pow (n := 64) hm hm'
  have h2 : (BitVec.ofInt IntKind.u64.bits (m : Int) ||| BitVec.ofInt IntKind.u64.bits (m' : Int)).toNat = m ||| m' := by
   have e1 := uP hm; have e2 := uP hm'; rw [BitVec.toNat_or]; show (BitVec.ofInt 64 _).toNat ||| (BitVec.ofInt 64 _).toNat = _; rw [e1, e2]
  simp only [binOp, Op.intBits, h2, vN h1]
  rfl) next
theorem op_shlU {yk : IntKind} {m s r : Nat} (hd : Nat.blt d n = true) (hx : ev e x = some (.int .u64 (m : Int))) (hy : ev e y = some (.int yk (s : Int))) (hs : s ≤ 64) (hr : m * 2 ^ s = r) (hr' : r < 18446744073709551616) (next : RunOps P n c ops l k Q ((d, .int .u64 (r : Int)) :: e) M D) :
  RunOp P n c ops (some d) (.binOp .shl S x y S') T l k Q e M D :=
 op_int' hd hx hy (fun w => by
  subst hr
  have h1 : min s IntKind.u64.bits = s := Nat.min_eq_left hs
  have h2 : ((m : Int) * 2 ^ s) = ((m * 2 ^ s : Nat) : Int) := by push_cast; rfl
  simp only [binOp, Op.shift, if_neg (show ¬ ((s : Int) < 0) by omega), Int.toNat_natCast, h1, h2, vN hr']
  rfl) next
theorem op_shrU {yk : IntKind} {m s r : Nat} (hd : Nat.blt d n = true) (hx : ev e x = some (.int .u64 (m : Int))) (hy : ev e y = some (.int yk (s : Int))) (hs : s ≤ 64) (hr : m / 2 ^ s = r) (next : RunOps P n c ops l k Q ((d, .int .u64 (r : Int)) :: e) M D) :
  RunOp P n c ops (some d) (.binOp .shr S x y S') T l k Q e M D :=
 op_int' hd hx hy (fun w => by
  subst hr
  have h1 : min s IntKind.u64.bits = s := Nat.min_eq_left hs
  have h2 : (m : Int).fdiv (2 ^ s) = ((m / 2 ^ s : Nat) : Int) := by
   rw [Int.fdiv_eq_ediv_of_nonneg _ (by exact_mod_cast Nat.zero_le (2 ^ s))]; push_cast; rfl
  simp only [binOp, Op.shift, if_neg (show ¬ ((s : Int) < 0) by omega), Int.toNat_natCast, h1, h2]
  rfl) next
end rules
theorem Kp_goto (P : Program) (Q : Post) (g : Nat) (a : Act) (w : World) : ∀ (k : List KI), Kp P k Q (.goto g) a w → Q (.goto g) a w
  | [], h => h
  | .code _ :: k, h => Kp_goto P Q g a w k h
  | .cont _ :: k, h => Kp_goto P Q g a w k h
  | .blk _ :: k, h => Kp_goto P Q g a w k h
theorem retQ_goto {F : List Nat} (P : Program) (c : Ctx F) (fn : Func) (R : Value → List HA → List DA → Prop) : ∀ g a w, ¬ RetQ P c fn R (.goto g) a w := fun g a w h => h
section rules
variable {P : Program} {n : Nat} {F : List Nat} {c : Ctx F} {ops : Array Oper} {d : Nat} {T : TypeId} {l : List Oper} {k : List KI} {Q : Post} {e : Env} {M : List HA} {D : List DA}
variable {x y : Operand} {S S' : TypeId}
theorem run_scope {z : Code} (hQ : ∀ g a w, ¬ Q (.goto g) a w) (h : Run P n c (.code z :: k) Q e M D) : Run P n c (.code (.scope z) :: k) Q e M D := fun a w hf =>
  wp_scope_straight (wp_mono (h a w hf) (fun e' a' w' h' => by
    cases e' with
    | goto g => exact (hQ g a' w' (Kp_goto P Q g a' w' k h')).elim
    | _ => exact h'))
theorem run_label {g : Nat} (h : Run P n c k Q e M D) : Run P n c (.code (.label g) :: k) Q e M D := fun a w hf => wp_label (h a w hf)
theorem op_eqT {b : Bool} (hS : P.underlying S = some .bool) (hd : Nat.blt d n = true) (hx : ev e x = some (.bool true)) (hy : ev e y = some (.bool b)) (next : RunOps P n c ops l k Q ((d, .bool b) :: e) M D) : RunOp P n c ops (some d) (.binOp .eql S x y S') T l k Q e M D :=
 xJ hd (fun a w hf => by
  have h1 : (eqGuard .eql S x y (.bool true) (.bool b)).run P w = .ok () w := rfl
  have h2 : (binOp .eql S (.bool true) (.bool b)).run P w = .ok (.bool b) w := by rw [run_eql_bool w S true b hS]; simp
  simp [execOp, opr, hf.ev hx, hf.ev hy, h1, h2]) next
theorem op_min {m m' s : Int} {ts : Array TypeId} (hd : Nat.blt d n = true) (hx : ev e x = some (.int .i64 m)) (hy : ev e y = some (.int .i64 m')) (hs : min m m' = s) (next : RunOps P n c ops l k Q ((d, .int .i64 s) :: e) M D) :
  RunOp P n c ops (some d) (.call { callee := .builtin .min, args := #[x, y], argTypes := ts }) T l k Q e M D :=
 xJ hd (fun a w hf => by
  subst hs
  have h1 : (if m' < m then m' else m) = min m m' := by split <;> omega
  simp [execOp, opr, resolve, invoke, builtin, hf.ev hx, hf.ev hy, run_min_int2, h1]) next
theorem op_max {m m' s : Int} {ts : Array TypeId} (hd : Nat.blt d n = true) (hx : ev e x = some (.int .i64 m)) (hy : ev e y = some (.int .i64 m')) (hs : max m m' = s) (next : RunOps P n c ops l k Q ((d, .int .i64 s) :: e) M D) :
  RunOp P n c ops (some d) (.call { callee := .builtin .max, args := #[x, y], argTypes := ts }) T l k Q e M D :=
 xJ hd (fun a w hf => by
  subst hs
  have h1 : (if m < m' then m' else m) = max m m' := by split <;> omega
  simp [execOp, opr, resolve, invoke, builtin, hf.ev hx, hf.ev hy, run_max_int2, h1]) next
theorem op_addU {m m' r : Nat} (hd : Nat.blt d n = true) (hx : ev e x = some (.int .u64 (m : Int))) (hy : ev e y = some (.int .u64 (m' : Int))) (hr : m + m' = r) (hr' : r < 18446744073709551616) (next : RunOps P n c ops l k Q ((d, .int .u64 (r : Int)) :: e) M D) :
  RunOp P n c ops (some d) (.binOp .add S x y S') T l k Q e M D := by
 refine op_add hd hx hy ?_
 subst hr
 rw [show ((m : Int) + m') = ((m + m' : Nat) : Int) by omega, vN hr']
 exact next
theorem op_subU {m m' r : Nat} (hd : Nat.blt d n = true) (hx : ev e x = some (.int .u64 (m : Int))) (hy : ev e y = some (.int .u64 (m' : Int))) (hle : m' ≤ m) (hr : m - m' = r) (hr' : r < 18446744073709551616) (next : RunOps P n c ops l k Q ((d, .int .u64 (r : Int)) :: e) M D) :
  RunOp P n c ops (some d) (.binOp .sub S x y S') T l k Q e M D := by
 refine op_sub hd hx hy ?_
 subst hr
 rw [show ((m : Int) - m') = ((m - m' : Nat) : Int) by omega, vN hr']
 exact next
theorem op_mulU {m m' r : Nat} (hd : Nat.blt d n = true) (hx : ev e x = some (.int .u64 (m : Int))) (hy : ev e y = some (.int .u64 (m' : Int))) (hr : m * m' = r) (hr' : r < 18446744073709551616) (next : RunOps P n c ops l k Q ((d, .int .u64 (r : Int)) :: e) M D) :
  RunOp P n c ops (some d) (.binOp .mul S x y S') T l k Q e M D := by
 refine op_mul hd hx hy ?_
 subst hr
 rw [← Int.natCast_mul, vN hr']
 exact next
theorem wrap_u8 {m : Nat} (h : m < 256) : IntKind.u8.wrap (m : Int) = m := by
 have : ((m : Int) % 256) = m := by omega
 simpa [IntKind.wrap, IntKind.bits, IntKind.signed] using this
theorem op_subU8 {m m' r : Nat} (hd : Nat.blt d n = true) (hx : ev e x = some (.int .u8 (m : Int))) (hy : ev e y = some (.int .u8 (m' : Int))) (hle : m' ≤ m) (hr : m - m' = r) (hr' : r < 256) (next : RunOps P n c ops l k Q ((d, .int .u8 (r : Int)) :: e) M D) :
  RunOp P n c ops (some d) (.binOp .sub S x y S') T l k Q e M D := by
 refine op_sub hd hx hy ?_
 subst hr
 rw [show ((m : Int) - m') = ((m - m' : Nat) : Int) by omega, wrap_u8 hr']
 exact next
theorem op_extern {fo : Operand} {ags : Array Operand} {ts : Array TypeId} {f : FuncId} {fn : Func} {ent : Array Value → Sem Value} {vs : List Value} {v : Value} (hF : P.funcs[f]? = some fn) (hname : (fn.name == "runtime.NumGoroutine") = false) (hb : fn.body.isNone = true) (hn : Extern.findNext fn = none) (he : Extern.find fn = some ent)
  (hd : Nat.blt d n = true) (hfo : ev e fo = some (.func (.func f) #[] #[])) (has : ags.toList.mapM (ev e) = some vs) (hr : ∀ w, (ent vs.toArray).run P w = .ok v w) (next : RunOps P n c ops l k Q ((d, v) :: e) M D) :
  RunOp P n c ops (some d) (.call { callee := .value fo, args := ags, argTypes := ts }) T l k Q e M D :=
 xJ hd (fun a w hf => by
  have hargs : ags.map a.eval = vs.toArray := by
   apply Array.ext'
   simpa using mapEv hf has
  have h1 := run_callFunc_extern hF hname hb hn he vs.toArray w
  rw [hr w] at h1
  simp [execOp, opr, resolve, hf.ev hfo, Deferred.ofValue, invoke, hargs, h1]) next
theorem op_makeSliceC (m : Nat) {E sz by_ : Nat} (hS : SliceOf P S E sz by_) (hd : Nat.blt d n = true) (hx : ev e x = some (.int .i64 0)) (hy : ev e y = some (.int .i64 (m : Nat))) (hm : m ≤ 1000000) (hby : m * by_ ≤ 1000000)
  (next : ∀ b, RunOps P n c ops l k Q ((d, .slice (some ⟨b, 0, none⟩) 0 m) :: e) (.row (some ⟨b, 0, none⟩) 0 m E sz [] :: M) D) : RunOp P n c ops (some d) (.makeSlice S x y) T l k Q e M D := by
 obtain ⟨ti, z, hu, hinf, hs1, hb1, hz, hzs, hsz0⟩ := hS
 intro a w hf
 subst hs1; subst hb1
 have h63 : m ≤ maxLen := by unfold maxLen; omega
 have hbb : (ti.bytes : Int) * (m : Int) ≤ 281474976710656 := by
  have h1 : ((ti.bytes * m : Nat) : Int) ≤ 281474976710656 := by rw [Nat.mul_comm]; omega
  rwa [Int.natCast_mul] at h1
 have hr := run_make (P := P) w S E ti z hu hinf hz .i64 .i64 0 (m : Int) (Int.le_refl _) (by omega) hbb (by omega)
 simp only [Int.toNat_zero, Int.toNat_natCast] at hr
 have hrun : (execOp a.eval (opr (some d) (.makeSlice S x y) T)).run P w = .ok (.value (.slice (some ⟨w.heap.size, 0, none⟩) 0 m)) (w.alloc (.cells (madeCells z.cells (m * ti.size)) E)) := by
  simp only [execOp, opr, hf.ev hx, hf.ev hy, Sem.run_bind, hr, Result.andThen_ok, Sem.run_pure]
 unfold Oper.wp
 rw [hrun]
 have hx2 : (HA.row (some ⟨w.heap.size, 0, none⟩) 0 m E ti.size []).holds (w.alloc (.cells (madeCells z.cells (m * ti.size)) E)) := World.ownsRow_made w _ m (Nat.zero_le _) h63 (size_madeCells _ _)
 exact next w.heap.size _ _ ((hf.world (hf.toFitsW.new _ hx2 rfl)).put hd _)
end rules
def DA.cs (l : List (Addr × Value)) : DA := ⟨fun w ok => ∀ q ∈ l, ok q.1.block ∧ w.cell? q.1 = some q.2, fun {w w' ok ok'} h1 h2 h q hq => ⟨h1 _ (h q hq).1, by
 rw [uW (w := w) (w' := w') (a := q.1) (h2 _ (h q hq).1)]; exact (h q hq).2⟩⟩
section rules
variable {P : Program} {n : Nat} {F : List Nat} {c : Ctx F} {ops : Array Oper} {d : Nat} {T : TypeId} {l : List Oper} {k : List KI} {Q : Post} {e : Env} {M : List HA} {D : List DA}
theorem uI (j i : Nat) {x : Operand} {p : Addr} {v : Value} {q : List (Addr × Value)} (hT : Scalar P T) (hd : Nat.blt d n = true) (hx : ev e x = some (.pointer (some p))) (hj : D[j]? = some (.cs q)) (hi : q[i]? = some (p, v))
  (next : RunOps P n c ops l k Q ((d, v) :: e) M D) {T' : TypeId} : RunOp P n c ops (some d) (.load T x) T' l k Q e M D :=
 yN hT hd hx (fun _ h => ((h.dt hj : _) _ (List.mem_of_getElem? hi)).2) next
end rules
def CellsOf (P : Program) (E sz : Nat) : Prop := ∃ ti, P.info? E = some ti ∧ ti.size = sz
section rules
variable {P : Program} {n : Nat} {F : List Nat} {c : Ctx F} {ops : Array Oper} {d : Nat} {T : TypeId} {l : List Oper} {k : List KI} {Q : Post} {e : Env} {M : List HA} {D : List DA}
variable {x y : Operand} {S S' : TypeId}
theorem sJ {A : Addr} {i N E sz : Nat} {kd : IntKind} (hS : P.underlying S = some (.array N E)) (hE : CellsOf P E sz) (hd : Nat.blt d n = true) (hx : ev e x = some (.pointer (some A))) (hy : ev e y = some (.int kd (i : Nat))) (hi : i < N)
  (next : RunOps P n c ops l k Q ((d, .pointer (some (A.add (i * sz)))) :: e) M D) : RunOp P n c ops (some d) (.indexAddr S x y) T l k Q e M D := by
 obtain ⟨ti, hinf, hs⟩ := hE
 refine xJ hd (fun a w hfit => ?_) next
 simp [execOp, opr, hfit.ev hx, hfit.ev hy, Instr.indexAt, Instr.sureAddr, asIntOf, run_underlying hS, xM hinf, hs, hi]
theorem op_sliceArr {A : Addr} {N E sz : Nat} (hS : P.underlying S = some (.array N E)) (hE : CellsOf P E sz) (hd : Nat.blt d n = true) (hx : ev e x = some (.pointer (some A)))
  (next : RunOps P n c ops l k Q ((d, .slice (some A) N N) :: e) M D) : RunOp P n c ops (some d) (.slice S x none none none) T l k Q e M D := by
 obtain ⟨ti, hinf, hs⟩ := hE
 refine xJ hd (fun a w hfit => ?_) next
 have h0 : A.add 0 = A := by simp [Addr.add]
 simp [execOp, opr, hfit.ev hx, Instr.sliceAt, Instr.sureAddr, Instr.sliceBounds, run_underlying hS, xM hinf, h0]
theorem op_sliceHi {A : Option Addr} {m cap h E sz by_ : Nat} {kd : IntKind} (hS : SliceOf P S E sz by_) (hd : Nat.blt d n = true) (hx : ev e x = some (.slice A m cap)) (hy : ev e y = some (.int kd (h : Nat))) (hh : h ≤ cap) (h0 : 0 < cap)
  (next : RunOps P n c ops l k Q ((d, .slice A h cap) :: e) M D) : RunOp P n c ops (some d) (.slice S x none (some y) none) T l k Q e M D := by
 obtain ⟨ti, z, hu, hinf, hs, _⟩ := hS
 refine xJ hd (fun a w hfit => ?_) next
 have hmap : A.map (fun q => q.add 0) = A := by cases A <;> simp [Addr.add]
 simp [execOp, opr, hfit.ev hx, hfit.ev hy, Instr.sliceAt, Instr.slice, Instr.sliceBounds, Instr.sliceBound, asIntOf, run_underlying hu, xM hinf, hh, hmap]
theorem op_shrI {yk : IntKind} {m r : Int} {s : Nat} (hd : Nat.blt d n = true) (hx : ev e x = some (.int .i64 m)) (hy : ev e y = some (.int yk (s : Nat))) (hs : s ≤ 64) (hr : m.fdiv (2 ^ s) = r) (next : RunOps P n c ops l k Q ((d, .int .i64 r) :: e) M D) :
  RunOp P n c ops (some d) (.binOp .shr S x y S') T l k Q e M D :=
 op_int' hd hx hy (fun w => by
  subst hr
  have h1 : min s IntKind.i64.bits = s := Nat.min_eq_left hs
  simp only [binOp, Op.shift, if_neg (show ¬ ((s : Int) < 0) by omega), Int.toNat_natCast, h1]
  rfl) next
end rules
section bins
variable {P : Program} {S : TypeId}
theorem bin_quoU {m m' r : Nat} (h0 : m' ≠ 0) (hr : m / m' = r) (hr' : r < 18446744073709551616) (w : World) : (binOp .quo S (.int .u64 (m : Int)) (.int .u64 (m' : Int))).run P w = .ok (.int .u64 (r : Int)) w := by
 subst hr
 have h1 : ((m' : Int) = 0) = False := eq_false (by omega)
 have h2 : (m : Int).tdiv m' = ((m / m' : Nat) : Int) := (Int.ofNat_tdiv ..).symm
 simp [binOp, Op.intDiv, h0, h2]
 simpa using vN hr'
theorem bin_remU {m m' r : Nat} (h0 : m' ≠ 0) (hr : m % m' = r) (w : World) : (binOp .rem S (.int .u64 (m : Int)) (.int .u64 (m' : Int))).run P w = .ok (.int .u64 (r : Int)) w := by
 subst hr
 have h2 : (m : Int).tmod m' = ((m % m' : Nat) : Int) := (Int.ofNat_tmod ..).symm
 simp [binOp, Op.intDiv, h0, h2]
theorem bin_andU {m m' r : Nat} (hm : m < 18446744073709551616) (hm' : m' < 18446744073709551616) (hr : m &&& m' = r) (w : World) : (binOp .and S (.int .u64 (m : Int)) (.int .u64 (m' : Int))).run P w = .ok (.int .u64 (r : Int)) w := by
 subst hr
 have h1 : m &&& m' < 18446744073709551616 := Nat.lt_of_le_of_lt Nat.and_le_left hm
 have h2 : (BitVec.ofInt IntKind.u64.bits (m : Int) &&& BitVec.ofInt IntKind.u64.bits (m' : Int)).toNat = m &&& m' := by
  have e1 := uP hm; have e2 := uP hm'; rw [BitVec.toNat_and]; show (BitVec.ofInt 64 _).toNat &&& (BitVec.ofInt 64 _).toNat = _; rw [e1, e2]
 simp only [binOp, Op.intBits, h2, vN h1]
 rfl
theorem bin_orU {m m' r : Nat} (hm : m < 18446744073709551616) (hm' : m' < 18446744073709551616) (hr : m ||| m' = r) (w : World) : (binOp .or S (.int .u64 (m : Int)) (.int .u64 (m' : Int))).run P w = .ok (.int .u64 (r : Int)) w := by
 subst hr
 have h1 : m ||| m' < 18446744073709551616 := Nat.or_lt_two_pow (n := 64) hm hm'
 have h2 : (BitVec.ofInt IntKind.u64.bits (m : Int) ||| BitVec.ofInt IntKind.u64.bits (m' : Int)).toNat = m ||| m' := by
  have e1 := uP hm; have e2 := uP hm'; rw [BitVec.toNat_or]; show (BitVec.ofInt 64 _).toNat ||| (BitVec.ofInt 64 _).toNat = _; rw [e1, e2]
 simp only [binOp, Op.intBits, h2, vN h1]
 rfl
theorem bin_andI {m m' r : Nat} (hm : m < 4294967296) (hm' : m' < 4294967296) (hr : m &&& m' = r) (w : World) : (binOp .and S (.int .i64 (m : Int)) (.int .i64 (m' : Int))).run P w = .ok (.int .i64 (r : Int)) w := by
 subst hr
 have h1 : m &&& m' < 4294967296 := Nat.lt_of_le_of_lt Nat.and_le_left hm
 have h2 : (BitVec.ofInt IntKind.i64.bits (m : Int) &&& BitVec.ofInt IntKind.i64.bits (m' : Int)).toNat = m &&& m' := by
  have e1 := uP (m := m) (by omega); have e2 := uP (m := m') (by omega); rw [BitVec.toNat_and]; show (BitVec.ofInt 64 _).toNat &&& (BitVec.ofInt 64 _).toNat = _; rw [e1, e2]
 simp only [binOp, Op.intBits, h2, vV (show -9223372036854775808 ≤ ((m &&& m' : Nat) : Int) by omega) (by omega)]
 rfl
theorem bin_shrU {yk : IntKind} {m s r : Nat} (hs : s ≤ 64) (hr : m / 2 ^ s = r) (w : World) : (binOp .shr S (.int .u64 (m : Int)) (.int yk (s : Int))).run P w = .ok (.int .u64 (r : Int)) w := by
 subst hr
 have h1 : min s IntKind.u64.bits = s := Nat.min_eq_left hs
 have h2 : (m : Int).fdiv (2 ^ s) = ((m / 2 ^ s : Nat) : Int) := by
  rw [Int.fdiv_eq_ediv_of_nonneg _ (by exact_mod_cast Nat.zero_le (2 ^ s))]; push_cast; rfl
 simp only [binOp, Op.shift, if_neg (show ¬ ((s : Int) < 0) by omega), Int.toNat_natCast, h1, h2]
 rfl
theorem bin_shlI {yk : IntKind} {m s r : Nat} (hs : s ≤ 64) (hr : m * 2 ^ s = r) (hr' : r < 4294967296) (w : World) : (binOp .shl S (.int .i64 (m : Int)) (.int yk (s : Int))).run P w = .ok (.int .i64 (r : Int)) w := by
 subst hr
 have h1 : min s IntKind.i64.bits = s := Nat.min_eq_left hs
 have h2 : ((m : Int) * 2 ^ s) = ((m * 2 ^ s : Nat) : Int) := by push_cast; rfl
 simp only [binOp, Op.shift, if_neg (show ¬ ((s : Int) < 0) by omega), Int.toNat_natCast, h1, h2, vV (show -9223372036854775808 ≤ ((m * 2 ^ s : Nat) : Int) by omega) (by omega)]
 rfl
theorem bin_subU {m m' r : Nat} (hle : m' ≤ m) (hr : m - m' = r) (hr' : r < 18446744073709551616) (w : World) : (binOp .sub S (.int .u64 (m : Int)) (.int .u64 (m' : Int))).run P w = .ok (.int .u64 (r : Int)) w := by
 subst hr
 have : IntKind.u64.wrap ((m : Int) - m') = ((m - m' : Nat) : Int) := by rw [show ((m : Int) - m') = ((m - m' : Nat) : Int) by omega, vN hr']
 simp [binOp, Op.intArith, this]
end bins
section rules
variable {P : Program} {n : Nat} {F : List Nat} {c : Ctx F} {ops : Array Oper} {d : Nat} {T : TypeId} {l : List Oper} {k : List KI} {Q : Post} {e : Env} {M : List HA} {D : List DA}
variable {x y : Operand} {S S' : TypeId}
theorem op_bin {op : BinOp} {kd kd' : IntKind} {m m' : Int} {v : Value} (hr : ∀ w, (binOp op S (.int kd m) (.int kd' m')).run P w = .ok v w) (hd : Nat.blt d n = true) (hx : ev e x = some (.int kd m)) (hy : ev e y = some (.int kd' m')) (next : RunOps P n c ops l k Q ((d, v) :: e) M D) :
  RunOp P n c ops (some d) (.binOp op S x y S') T l k Q e M D := op_int' hd hx hy hr next
theorem tL {op : BinOp} {kd kd' : IntKind} {m m' : Int} {v : Value} (hr : ∀ w, (binOp op S (.int kd m) (.int kd' m')).run P w = .ok v w) (hx : ev e x = some (.int kd m)) (hy : ev e y = some (.int kd' m')) :
  St P n c (.binOp op S x y S') T e M D v :=
 fun _ a w hf => by simp [execOp, opr, hf.ev hx, hf.ev hy, sY, hr]
theorem st_convII {kd kd' : IntKind} {m r : Int} (hS : P.underlying S = some (.int kd)) (hS' : P.underlying S' = some (.int kd')) (hx : ev e x = some (.int kd m)) (hr : kd'.wrap m = r) : St P n c (.convert S S' x) T e M D (.int kd' r) :=
 fun _ a w hf => by
  subst hr
  have : (convert S S' (.int kd m)).run P w = .ok (.int kd' (kd'.wrap m)) w := by simp [convert, run_underlying hS, run_underlying hS', Conv.intToInt]
  simp [execOp, opr, hf.ev hx, this]
theorem st_sliceArr {A : Addr} {N E sz : Nat} (hS : P.underlying S = some (.array N E)) (hE : CellsOf P E sz) (hx : ev e x = some (.pointer (some A))) : St P n c (.slice S x none none none) T e M D (.slice (some A) N N) := by
 obtain ⟨ti, hinf, hs⟩ := hE
 intro _ a w hfit
 have h0 : A.add 0 = A := by simp [Addr.add]
 simp [execOp, opr, hfit.ev hx, Instr.sliceAt, Instr.sureAddr, Instr.sliceBounds, run_underlying hS, xM hinf, h0]
end rules
end Go.Jw

namespace Go.Jw
open Go Go.Lib
abbrev RSt := Nat × Nat × Int × Bool
def rfStep (st : RSt) (c : UInt8) : RSt :=
 if c = 46 then (st.1, st.2.1, (st.2.1 : Int), true) else if c = 48 ∧ st.2.1 = 0 then (st.1, st.2.1, st.2.2.1 - 1, st.2.2.2) else (st.1 * 10 + (c.toNat - 48), st.2.1 + 1, st.2.2.1, st.2.2.2)
def rf (l : List UInt8) : RSt := l.foldl rfStep (0, 0, 0, false)
theorem rf_snoc (l : List UInt8) (c : UInt8) : rf (l ++ [c]) = rfStep (rf l) c := by unfold rf; rw [List.foldl_append]; rfl
theorem rf_take {l : List UInt8} {i : Nat} (h : i < l.length) : rf (l.take (i + 1)) = rfStep (rf (l.take i)) l[i] := by
 rw [List.take_succ_eq_append_getElem h, rf_snoc]
def Dgt (c : UInt8) : Prop := 48 ≤ c.toNat ∧ c.toNat ≤ 57
theorem Dgt.ne {c : UInt8} (h : Dgt c) : c ≠ 46 := by rintro rfl; exact absurd h.1 (by decide)
structure Dec (l : List UInt8) : Prop where
 all : ∀ c ∈ l, c = 46 ∨ Dgt c
 one : l.count 46 ≤ 1
 len : l.length ≤ 18
theorem snocInd {α : Type} {p : List α → Prop} (h0 : p []) (h1 : ∀ l a, p l → p (l ++ [a])) (l : List α) : p l := by
  have : ∀ r : List α, p r.reverse := fun r => by
    induction r with
    | nil => exact h0
    | cons a r ih => rw [List.reverse_cons]; exact h1 _ _ ih
  have h := this l.reverse
  rwa [List.reverse_reverse] at h
theorem rf_app_lt : ∀ (l : List UInt8) (h : ∀ c ∈ l, c = 46 ∨ Dgt c), (rf l).1 < 10 ^ (rf l).2.1 ∧ (rf l).2.1 ≤ l.length ∧ ((rf l).2.2.2 = decide (46 ∈ l)) ∧ -(l.length : Int) ≤ (rf l).2.2.1 ∧ (rf l).2.2.1 ≤ l.length := by
  refine snocInd (fun _ => by simp [rf]) (fun l c ih h => ?_)
  · obtain ⟨h1, h2, h3, h4, h5⟩ := ih fun x hx => h x (by simp [hx])
    rw [rf_snoc]
    unfold rfStep
    rcases h c (by simp) with rfl | hd
    · rw [if_pos rfl]
      refine ⟨h1, by simp; omega, by simp, ?_, ?_⟩ <;> simp <;> omega
    · rw [if_neg hd.ne]
      have hne : (46 : UInt8) ≠ c := fun e => hd.ne e.symm
      split
      · refine ⟨h1, by simp; omega, by simp [h3, hne], ?_, ?_⟩ <;> simp <;> omega
      · refine ⟨?_, by simp; omega, by simp [h3, hne], ?_, ?_⟩
        · simp only [Nat.pow_succ]
          have := hd.2
          omega
        · simp; omega
        · simp; omega
theorem Dec.take {l : List UInt8} (h : Dec l) (i : Nat) : ∀ c ∈ l.take i, c = 46 ∨ Dgt c := fun c hc => h.all c (List.mem_of_mem_take hc)
theorem Dec.lt {l : List UInt8} (h : Dec l) (i : Nat) : (rf (l.take i)).1 < 1000000000000000000 ∧ (rf (l.take i)).2.1 ≤ 18 ∧ -18 ≤ (rf (l.take i)).2.2.1 ∧ (rf (l.take i)).2.2.1 ≤ 18 := by
 obtain ⟨h1, h2, _, h4, h5⟩ := rf_app_lt _ (h.take i)
 have h6 : (l.take i).length ≤ 18 := by rw [List.length_take]; have := h.len; omega
 have h7 : 10 ^ (rf (l.take i)).2.1 ≤ 10 ^ 18 := Nat.pow_le_pow_right (by omega) (by omega)
 exact ⟨by omega, by omega, by omega, by omega⟩
theorem Dec.nodot {l : List UInt8} (h : Dec l) {i : Nat} (hi : i < l.length) (hc : l[i] = 46) : (rf (l.take i)).2.2.2 = false := by
 rw [(rf_app_lt _ (h.take i)).2.2.1]
 simp only [decide_eq_false_iff_not]
 intro hm
 have h1 : l.count 46 = (l.take i).count 46 + (l.drop i).count 46 := by rw [← List.count_append, List.take_append_drop]
 have h2 : 0 < (l.take i).count 46 := List.count_pos_iff.2 hm
 have h3 : 0 < (l.drop i).count 46 := List.count_pos_iff.2 (by rw [List.drop_eq_getElem_cons hi, hc]; exact List.mem_cons_self)
 have := h.one
 omega
theorem qR {d : Nat} (h : d < 10) : (UInt8.ofNat (48 + d)).toNat = 48 + d := by
 rw [UInt8.toNat_ofNat']; omega
theorem dig_dgt {d : Nat} (h : d < 10) : Dgt (UInt8.ofNat (48 + d)) := by unfold Dgt; rw [qR h]; omega
theorem rL (u : Nat) : ∀ c ∈ decDigits u, Dgt c := by
  induction u using Nat.strongRecOn with
  | _ u ih =>
    rw [decDigits]
    split
    · rename_i h
      intro c hc
      rw [List.mem_singleton] at hc
      subst hc
      exact dig_dgt h
    · rename_i h
      intro c hc
      rcases List.mem_append.1 hc with hc | hc
      · exact ih (u / 10) (by omega) c hc
      · rw [List.mem_singleton] at hc
        subst hc
        exact dig_dgt (Nat.mod_lt _ (by omega))
theorem rf_dec (u : Nat) : rf (decDigits u) = if u = 0 then (0, 0, -1, false) else (u, nDigits u, 0, false) := by
  induction u using Nat.strongRecOn with
  | _ u ih =>
    rw [decDigits]
    split
    · rename_i h
      rw [nDigits_small h, ← List.nil_append [_], rf_snoc]
      unfold rfStep
      rw [if_neg (dig_dgt h).ne]
      by_cases h0 : u = 0
      · subst h0
        rfl
      · rw [if_neg (fun hh => h0 (by have := congrArg UInt8.toNat hh.1; rw [qR h] at this; have h48 : (48 : UInt8).toNat = 48 := rfl; omega)), if_neg h0, qR h]
        simp [rf]
    · rename_i h
      rw [rf_snoc, ih (u / 10) (by omega), if_neg (by omega), if_neg (by omega), nDigits_big h]
      have hm : u % 10 < 10 := Nat.mod_lt _ (by omega)
      unfold rfStep
      rw [if_neg (dig_dgt hm).ne, if_neg (fun hh => by have := nDigits_pos (u / 10); have h2 : nDigits (u / 10) = 0 := hh.2; omega), qR hm]
      simp only [Prod.mk.injEq, and_true]
      omega
theorem rf_app (a b : List UInt8) : rf (a ++ b) = b.foldl rfStep (rf a) := by unfold rf; rw [List.foldl_append]
structure Frac (fr : List UInt8) (q k : Nat) : Prop where
 q3 : 0 < q ∧ q < 4
 k6 : 0 < k ∧ k ≤ 6
 all : ∀ c ∈ fr, c = 46 ∨ Dgt c
 one : fr.count 46 = 1
 len : fr.length = k + 1
 hd : fr.head? = some 46
 get : ∃ fv, 4 * fv = 10 ^ k * q ∧ ∀ (u n : Nat) (p : Int), fr.foldl rfStep (u, n, p, false) = (u * 10 ^ k + fv, n + k, (n : Int), true)
theorem all_dgt (l : List UInt8) (h : l.all (fun c => c == 46 || decide (48 ≤ c.toNat) && decide (c.toNat ≤ 57)) = true) : ∀ c ∈ l, c = 46 ∨ Dgt c := fun c hc => by
 have := List.all_eq_true.1 h c hc
 simp only [Bool.or_eq_true, beq_iff_eq, Bool.and_eq_true, decide_eq_true_eq] at this
 exact this
theorem frac_frac {q : Nat} (h0 : 0 < q) (h : q < 4) : ∃ k, Frac (frac q).data.toList q k ∧ (k = 1 ∨ k = 2) := by
  match q, h0, h with
  | 1, _, _ => exact ⟨2, ⟨by omega, by omega, all_dgt _ rfl, rfl, rfl, rfl, 25, rfl, fun u n p => by
      show List.foldl rfStep _ [46, 50, 53] = _
      simp [rfStep]; omega⟩, by omega⟩
  | 2, _, _ => exact ⟨1, ⟨by omega, by omega, all_dgt _ rfl, rfl, rfl, rfl, 5, rfl, fun u n p => by
      show List.foldl rfStep _ [46, 53] = _
      simp [rfStep]⟩, by omega⟩
  | 3, _, _ => exact ⟨2, ⟨by omega, by omega, all_dgt _ rfl, rfl, rfl, rfl, 75, rfl, fun u n p => by
      show List.foldl rfStep _ [46, 55, 53] = _
      simp [rfStep]; omega⟩, by omega⟩
theorem frac_frac6 {q : Nat} (h0 : 0 < q) (h : q < 4) : Frac (frac6 q).data.toList q 6 := by
  match q, h0, h with
  | 1, _, _ => exact ⟨by omega, by omega, all_dgt _ rfl, rfl, rfl, rfl, 250000, rfl, fun u n p => by
      show List.foldl rfStep _ [46, 50, 53, 48, 48, 48, 48] = _
      simp [rfStep]; omega⟩
  | 2, _, _ => exact ⟨by omega, by omega, all_dgt _ rfl, rfl, rfl, rfl, 500000, rfl, fun u n p => by
      show List.foldl rfStep _ [46, 53, 48, 48, 48, 48, 48] = _
      simp [rfStep]; omega⟩
  | 3, _, _ => exact ⟨by omega, by omega, all_dgt _ rfl, rfl, rfl, rfl, 750000, rfl, fun u n p => by
      show List.foldl rfStep _ [46, 55, 53, 48, 48, 48, 48] = _
      simp [rfStep]; omega⟩
theorem nDigits_le {u k : Nat} (h : u < 10 ^ k) (hk : 0 < k) : nDigits u ≤ k := by
  induction k generalizing u with
  | zero => omega
  | succ k ih =>
    by_cases h9 : u < 10
    · rw [nDigits_small h9]; omega
    · rw [nDigits_big h9]
      rcases Nat.eq_zero_or_pos k with rfl | hk'
      · omega
      · have := ih (u := u / 10) (by rw [Nat.pow_succ] at h; omega) hk'
        omega
theorem rf_quart {A : Nat} {fr : List UInt8} {k : Nat} (hA : A < 1000000000) (hf : Frac fr (A % 4) k) : Dec (decDigits (A / 4) ++ fr) ∧ ∃ m n : Nat, rf (decDigits (A / 4) ++ fr) = (m, n + k, (n : Int), true) ∧ m * 4 = 10 ^ k * A ∧ 0 < m ∧ m < 2 ^ 52 ∧ n ≤ 9 := by
 have hn : nDigits (A / 4) ≤ 9 := nDigits_le (by omega) (by omega)
 refine ⟨⟨fun c hc => ?_, ?_, ?_⟩, ?_⟩
 ·rcases List.mem_append.1 hc with hc | hc
  ·exact .inr (rL _ c hc)
  ·exact hf.all c hc
 ·rw [List.count_append, hf.one, List.count_eq_zero.2 (fun hm => (rL _ _ hm).ne rfl)]
  omega
 ·rw [List.length_append, decDigits_length, hf.len]
  have := hf.k6
  omega
 ·obtain ⟨fv, h4, hg⟩ := hf.get
  have hpk : 10 ^ k ≤ 10 ^ 6 := Nat.pow_le_pow_right (by omega) hf.k6.2
  have hp0 : 0 < 10 ^ k := Nat.pow_pos (by omega)
  have hm : (A / 4 * 10 ^ k + fv) * 4 = 10 ^ k * A := by
   rw [Nat.add_mul, Nat.mul_comm fv 4, h4, Nat.mul_comm (A / 4), Nat.mul_assoc, ← Nat.mul_add]
   congr 1; omega
  have hA0 : 0 < A := by have := hf.q3; omega
  have hm0 := Nat.mul_pos hp0 hA0
  have hm1 : 10 ^ k * A ≤ 10 ^ 6 * A := Nat.mul_le_mul_right A hpk
  rw [rf_app, rf_dec]
  split
  ·rename_i hz
   rw [hg]
   refine ⟨_, 0, rfl, ?_, ?_, ?_, by omega⟩
   ·rw [hz] at hm; exact hm
   ·rw [hz] at hm; omega
   ·rw [hz] at hm; omega
  ·rw [hg]
   exact ⟨_, _, rfl, hm, by omega, by omega, hn⟩
end Go.Jw

namespace Go.Jw
open Go Go.RowKit Go.Proofs
theorem inf342 : Tryz.prog.info? 342 = some Tryz.t342 := zL Tryz.typeInfo342
theorem ze342 : Zero Tryz.prog 342 (match Tryz.t342.zero with | some z => z.cells.toList | none => []) := ⟨Tryz.t342, _, inf342, rfl, rfl⟩
theorem fo342_0 : FieldOff Tryz.prog 342 0 0 := ⟨_, _, Tryz.t235, 0, Tryz.underlying342, rfl, rfl, zL Tryz.typeInfo235, rfl⟩
theorem fo342_1 : FieldOff Tryz.prog 342 1 1 := ⟨_, _, Tryz.t235, 0, Tryz.underlying342, rfl, rfl, zL Tryz.typeInfo235, rfl⟩
theorem fo342_2 : FieldOff Tryz.prog 342 2 2 := ⟨_, _, Tryz.t3, 0, Tryz.underlying342, rfl, rfl, zL Tryz.typeInfo3, rfl⟩
theorem inf359 : Tryz.prog.info? 359 = some Tryz.t359 := zL Tryz.typeInfo359
theorem si359 : ∃ i, Tryz.prog.info? 359 = some i ∧ i.size = 2 := ⟨_, inf359, rfl⟩
theorem fo359_0 : FieldOff Tryz.prog 359 0 0 := ⟨_, _, Tryz.t235, 0, Tryz.underlying359, rfl, rfl, zL Tryz.typeInfo235, rfl⟩
theorem fo359_1 : FieldOff Tryz.prog 359 1 1 := ⟨_, _, Tryz.t235, 0, Tryz.underlying359, rfl, rfl, zL Tryz.typeInfo235, rfl⟩
end Go.Jw

namespace Go.Jw
open Go Go.RowKit Go.Proofs
set_option maxRecDepth 8000
theorem ext_get {s : ByteArray} {i : Nat} (h : i < s.size) : ∃ h' : 0 < (s.extract i s.size).size, (s.extract i s.size)[0] = s[i] := by
 have hs : (s.extract i s.size).size = s.size - i := by simp
 refine ⟨by omega, ?_⟩
 simp [ByteArray.getElem_extract]
theorem dgt_int {c : UInt8} (h : Dgt c) : (48 : Int) ≤ (c.toNat : Int) ∧ (c.toNat : Int) ≤ 57 := by unfold Dgt at h; omega
def ftL (fb : Addr) : List (Addr × Value) := [(⟨4, 0, none⟩, .bool true), (⟨5, 0, none⟩, .int .u64 52), (⟨10, 0, none⟩, .slice (some fb) 23 23),
 (fb.add 1, .float .f64 4621819117588971520), (fb.add 2, .float .f64 4636737291354636288), (fb.add 6, .float .f64 4696837146684686336),
 (⟨11, 708, none⟩, .int .u64 17592186044416000000), (⟨11, 709, none⟩, .int .u64 0), (⟨11, 710, none⟩, .int .u64 10995116277760000000), (⟨11, 711, none⟩, .int .u64 0)] ++ (List.range 20).map fun i => (⟨0, i, none⟩, .int .u64 ((10 ^ i : Nat) : Int))
abbrev ftD (fb : Addr) : DA := .cs (ftL fb)

theorem c256 : CtV Tryz.prog 256 #[.int .u8 46] [] (.int .u8 46) := by
 refine Ct.of_run (args := [.int .u8 46]) Tryz.func256 (by kernel_rfl) rfl Tryz.ntmps256 rfl (fun c => ?_)
 refine rO 10 rfl (tF rfl rfl rfl (fun w => rfl) ?_)
 refine oR 3 rfl ?_
 exact zC Tryz.results256 rfl ⟨rfl, rfl, rfl⟩ nS (fun _ h => by cases h)
theorem c292 (s p : ByteArray) (h : 0 < s.size) (hd : Dgt s[0]) (hp : 0 < p.size) (hp2 : ¬ Dgt p[0]) : CtV Tryz.prog 292 #[.string s, .string p] [] (.int .i64 0) := by
 refine Ct.of_run (args := [.string s, .string p]) Tryz.func292 (by kernel_rfl) rfl Tryz.ntmps292 rfl (fun c => ?_)
 have hd2 := dgt_int hd
 refine rO 10 rfl (wH st9 rfl rfl ?_)
 refine oO 3 rfl (wH st9 rfl rfl ?_)
 refine zA (op_min rfl rfl rfl rfl ?_)
 refine oK 10 [6, 5, 0, 1] rfl rfl (xP 1 (fun (i : Nat) => i = 0) (fun (i : Nat) => [(6, .int .i64 ((i : Nat) : Int))]) (fun (i : Nat) => 0) 0 (rfl) (eC rfl (eN _)) ?_ (eC rfl (eC rfl (eC rfl (eN _)))))
 intro i hI K hK
 change Run _ _ _ _ _ [(6, _), (5, _), (0, _), (1, _)] _ _
 subst hI
 refine rO 8 rfl (vF rfl rfl rfl ?_)
 refine yK (wF rfl (decide_eq_true (by omega)) ?_)
 refine rO 10 rfl (uK st9 rfl rfl rfl (by omega) ?_)
 refine oO 9 rfl (op_leq rfl rfl rfl ?_)
 refine oS 2 rfl (wB (s := 23) rfl (decide_eq_false (by omega)) ?_)
 refine oK 5 [26, 7, 6, 5, 0, 1] rfl rfl (rO 11 rfl ?_)
 refine uK st9 rfl rfl rfl (by omega) (zA ?_)
 refine op_neqN rfl rfl rfl (yK ?_)
 refine wF rfl (decide_eq_true (fun he => hp2 (by unfold Dgt at hd ⊢; omega))) (rK 7 [4] rfl rfl ?_)
 exact zC Tryz.results292 rfl ⟨rfl, rfl, rfl⟩ nS (fun _ h => by cases h)
theorem c265d (s : ByteArray) (h : 0 < s.size) (hd : Dgt s[0]) : CtV Tryz.prog 265 #[.string s] [] (.tuple #[.float .f64 0, .int .i64 0, .bool false]) := by
 refine Ct.of_run (args := [.string s]) Tryz.func265 (by kernel_rfl) rfl Tryz.ntmps265 rfl (fun c => ?_)
 have hd2 := dgt_int hd
 refine rO 15 rfl (wH st9 rfl rfl ?_)
 refine oR 3 rfl (yO rfl (decide_eq_false (by omega)) ?_)
 refine rO 17 rfl (uK (i := 0) st9 rfl rfl rfl h ?_)
 refine oR 18 rfl (yO rfl (decide_eq_false (by omega)) ?_)
 refine rK 6 [13, 12, 6, 5, 0] rfl rfl (yO rfl (decide_eq_false (by omega)) ?_)
 refine rR 10 rfl (yO rfl (decide_eq_false (by omega)) ?_)
 refine rR 6 rfl (yO rfl (decide_eq_false (by omega)) ?_)
 refine rR 9 rfl (yO rfl (decide_eq_false (by omega)) ?_)
 refine rK 6 [19, 0] rfl rfl (yO rfl (decide_eq_false (by omega)) ?_)
 refine rR 11 rfl ?_
 exact run_ret3 Tryz.results265 rfl rfl rfl ⟨rfl, rfl, rfl⟩ nS (fun _ h => by cases h)
theorem c265m (s : ByteArray) (h : 1 < s.size) (h0 : s[0] = 45) (hd : Dgt s[1]) : CtV Tryz.prog 265 #[.string s] [] (.tuple #[.float .f64 0, .int .i64 0, .bool false]) := by
 refine Ct.of_run (args := [.string s]) Tryz.func265 (by kernel_rfl) rfl Tryz.ntmps265 rfl (fun c => ?_)
 have hd2 := dgt_int hd
 have h45 : ((s[0].toNat : Nat) : Int) = 45 := by rw [h0]; rfl
 obtain ⟨hx1, hx2⟩ := ext_get h
 refine rO 15 rfl (wH st9 rfl rfl ?_)
 refine oR 3 rfl (yO rfl (decide_eq_false (by omega)) ?_)
 refine rO 17 rfl (uK (i := 0) st9 rfl rfl rfl (by omega) ?_)
 refine oR 18 rfl (yO rfl (decide_eq_false (by omega)) ?_)
 refine rK 6 [13, 12, 6, 5, 0] rfl rfl (wF rfl (decide_eq_true h45) ?_)
 refine rO 7 rfl (uK (i := 0) st9 rfl rfl rfl (by omega) ?_)
 refine oR 3 rfl (wF rfl (decide_eq_true h45) ?_)
 refine rO 13 rfl (op_sliceStrLo (i := 1) st9 rfl rfl rfl (by omega) ?_)
 refine oO 10 rfl (zJ rfl rfl rfl (c292 (s.extract 1 s.size) ⟨#[105, 110, 102, 105, 110, 105, 116, 121]⟩ hx1 (by rw [hx2]; exact hd) (by decide) (by unfold Dgt; decide)) sub0 ?_)
 refine oK 3 [7, 6, 5] rfl rfl (rO 6 rfl ?_)
 refine vF rfl rfl rfl (oS 2 rfl ?_)
 refine wB (s := 31) rfl (rfl) (oS 15 rfl ?_)
 refine wB (s := 37) rfl (rfl) (oK 7 [40, 7, 6, 5] rfl rfl ?_)
 refine rR 12 rfl ?_
 exact run_ret3 Tryz.results265 rfl rfl rfl ⟨rfl, rfl, rfl⟩ nS (fun _ h => by cases h)
theorem results_tmp7 {fn : Func} {t1 t2 t3 t4 t5 t6 t7 : Tmp} (h : fn.results = #[.tmp t1, .tmp t2, .tmp t3, .tmp t4, .tmp t5, .tmp t6, .tmp t7]) (tmps : Array Value) (P : Program) (w : World) :
  (results fn tmps).run P w = .ok (.tuple #[tmps.getD t1 undef, tmps.getD t2 undef, tmps.getD t3 undef, tmps.getD t4 undef, tmps.getD t5 undef, tmps.getD t6 undef, tmps.getD t7 undef]) w := by
 simp [results, h]
section rules
variable {P : Program} {n : Nat} {F : List Nat} {c : Ctx F} {k : List KI} {e : Env} {M : List HA} {D : List DA}
theorem run_ret7 {fn : Func} {R : Value → List HA → List DA → Prop} {t1 t2 t3 t4 t5 t6 t7 : Nat} {v1 v2 v3 v4 v5 v6 v7 : Value} {M' : List HA} {D' : List DA} (hr : fn.results = #[.tmp t1, .tmp t2, .tmp t3, .tmp t4, .tmp t5, .tmp t6, .tmp t7])
  (h1 : look e t1 = some v1) (h2 : look e t2 = some v2) (h3 : look e t3 = some v3) (h4 : look e t4 = some v4) (h5 : look e t5 = some v5) (h6 : look e t6 = some v6) (h7 : look e t7 = some v7) (hR : R (.tuple #[v1, v2, v3, v4, v5, v6, v7]) M' D') (hM : List.Sublist M' M) (hD : ∀ d ∈ D', d ∈ D) :
  Run P n c (.code .ret :: k) (RetQ P c fn R) e M D :=
 rN (fun a w hf => by
  have := results_tmp7 hr a.tmps P w
  rw [this, vG hf h1, vG hf h2, vG hf h3, vG hf h4, vG hf h5, vG hf h6, vG hf h7]) hR hM hD
end rules
structure NumTxt (s : ByteArray) (neg : Bool) (l : List UInt8) : Prop where
 at_ : Sf s neg.toNat l
 sign : ∀ h : 0 < s.size, s[0] = 45 ↔ neg = true
 dec : Dec l
 ne : 0 < l.length
 d0 : ∀ h : 0 < l.length, Dgt l[0]
 z : ∀ h : 1 < l.length, l[0] = 48 → l[1] = 46
theorem NumTxt.sz {s : ByteArray} {neg : Bool} {l : List UInt8} (h : NumTxt s neg l) : s.size = neg.toNat + l.length ∧ s.size ≤ 19 ∧ 0 < l.length ∧ l.length ≤ 18 := by
 have h1 := h.at_.size
 have h2 := h.dec.len
 have h3 := h.ne
 have : neg.toNat ≤ 1 := by cases neg <;> decide
 exact ⟨h1, by omega, h3, h2⟩
theorem NumTxt.c {s : ByteArray} {neg : Bool} {l : List UInt8} (h : NumTxt s neg l) {j : Nat} (hj : j < l.length) : ∃ hs : neg.toNat + j < s.size, s[neg.toNat + j] = l[j] := by
 have h1 := h.at_.size
 exact ⟨by omega, h.at_.get hj (by omega)⟩
theorem rfStep_dot (st : RSt) : rfStep st 46 = (st.1, st.2.1, (st.2.1 : Int), true) := rfl
theorem rfStep_zero {st : RSt} (h : st.2.1 = 0) : rfStep st 48 = (st.1, st.2.1, st.2.2.1 - 1, st.2.2.2) := by
 unfold rfStep
 rw [if_neg (by decide), if_pos ⟨rfl, h⟩]
theorem rfStep_dig {st : RSt} {c : UInt8} (h : Dgt c) (hz : ¬ (c = 48 ∧ st.2.1 = 0)) : rfStep st c = (st.1 * 10 + (c.toNat - 48), st.2.1 + 1, st.2.2.1, st.2.2.2) := by
 unfold rfStep
 rw [if_neg h.ne, if_neg hz]
theorem u8_eq {c : UInt8} {n : Nat} (hn : n < 256) (h : (c.toNat : Int) = (n : Int)) : c = UInt8.ofNat n := by
 apply UInt8.toNat_inj.1
 rw [UInt8.toNat_ofNat']
 omega

theorem no43 {c : UInt8} {neg : Bool} (h : (neg = true ∧ c = 45) ∨ (neg = false ∧ Dgt c)) : ¬ ((c.toNat : Int) = 43) := by
 rcases h with ⟨_, rfl⟩ | ⟨_, h⟩
 ·decide
 ·unfold Dgt at h; omega
theorem no95 {c : UInt8} (h : c = 46 ∨ Dgt c) : ¬ ((c.toNat : Int) = 95) := by
 rcases h with rfl | h
 ·decide
 ·unfold Dgt at h; omega
set_option maxHeartbeats 4000000 in
theorem c266 (s : ByteArray) (neg : Bool) (l : List UInt8) (hN : NumTxt s neg l) (m n k : Nat) (hr : rf l = (m, n + k, (n : Int), true)) (hm : 0 < m) (hnk : n + k ≤ 18) : CtV Tryz.prog 266 #[.string s] [] (.tuple #[.int .u64 (m : Int), .int .i64 (-((k : Nat) : Int)), .bool neg, .bool false, .bool false, .int .i64 (s.size : Int), .bool true]) := by
 refine Ct.of_run (args := [.string s]) Tryz.func266 (by kernel_rfl) rfl Tryz.ntmps266 rfl (fun c => ?_)
 obtain ⟨hsz, hs19, hln, hl18⟩ := hN.sz
 have hs0 := hN.sign (by omega)
 have hnt : neg.toNat ≤ 1 := by cases neg <;> decide
 have hf0 : (neg = true ∧ s[0] = 45) ∨ (neg = false ∧ Dgt s[0]) := by
  cases neg with
  | true => exact .inl ⟨rfl, hs0.2 rfl⟩
  | false =>
   obtain ⟨h1, h2⟩ := hN.c (j := 0) hln
   exact .inr ⟨rfl, by have h3 : s[0] = l[0] := h2; rw [h3]; exact hN.d0 hln⟩
 refine rR 17 rfl (run_scope (retQ_goto _ _ _ _) ?_)
 refine rO 13 rfl (wH st9 rfl rfl ?_)
 refine zA (qJ rfl rfl rfl ?_)
 refine yK (yO rfl (decide_eq_false (by omega)) ?_)
 refine rO 9 rfl (uK (i := 0) st9 rfl rfl rfl (by omega) ?_)
 refine oK 1 [27, 9, 8, 7, 6, 5, 4, 3, 2, 0] rfl rfl (rK 0 [27, 9, 8, 7, 6, 5, 4, 3, 2, 0] rfl rfl ?_)
 refine run_joinE [9, 8, 6, 5, 3, 2, 0] (fun (u : Unit) => True) (fun (u : Unit) => [(7, .int .i64 ((neg.toNat : Nat) : Int)), (4, .bool neg)]) (fun (u : Unit) => []) (fun (u : Unit) => []) ?_ ?_
 ·intro K hK
  refine rR 8 rfl (yO rfl (decide_eq_false (no43 hf0)) ?_)
  refine rR 7 rfl (zM rfl (fun h32 => ?_) (fun h32 => ?_))
  ·refine rO 5 rfl (yP (s := 1) rfl rfl rfl rfl (by omega) (by omega) ?_)
   refine oK 3 [7, 9, 8, 6, 5, 3, 2, 0] rfl rfl (rR 5 rfl ?_)
   obtain rfl : neg = true := hs0.1 (u8_eq (n := 45) (by omega) h32)
   exact kQ (hK () trivial) (hD := (by intro d hd; exact hd))
  refine rR 2 rfl ?_
  obtain rfl : neg = false := by
   cases neg with
   | false => rfl
   | true => exact absurd (by rw [hs0.2 rfl]; rfl) h32
  exact kQ (hK () trivial) (hD := (by intro d hd; exact hd))
 intro u hI
 replace hI : True := hI
 change Run _ _ _ _ _ [(7, _), (4, _), (9, _), (8, _), (6, _), (5, _), (3, _), (2, _), (0, _)] ([]) ([])
 refine rK 17 [12, 11, 10, 7, 4, 9, 8, 6, 5, 3, 2, 0] rfl rfl (pS (fun (u : Unit) => True) (fun (u : Unit) => [(54, .bool false)]) ?_ ?_)
 ·intro K hK
  refine rO 4 rfl (yP (s := ((neg.toNat + 2 : Nat) : Int)) rfl rfl rfl (by omega) (by omega) (by omega) ?_)
  refine oO 3 rfl (wH st9 rfl rfl ?_)
  refine zA (yT rfl rfl rfl ?_)
  refine oS 2 rfl (yA (s := 41) rfl (fun h41 => ?_) (fun h41 => ?_))
  ·obtain ⟨hs1, hc1⟩ := hN.c (j := 0) hln
   rw [Nat.add_zero] at hs1
   have hc1a : s[neg.toNat] = l[0] := hc1
   refine oO 5 rfl (uK (i := neg.toNat) st9 rfl rfl rfl hs1 ?_)
   refine oS 6 rfl (yA (s := 47) rfl (fun h47 => ?_) (fun h47 => ?_))
   ·have hl1 : 1 < l.length := by omega
    obtain ⟨hs2, hc2⟩ := hN.c (j := 1) hl1
    have hz := hN.z hl1 (by rw [← hc1a]; exact u8_eq (n := 48) (by omega) h47)
    rw [hz] at hc2
    refine oO 5 rfl (yP (s := ((neg.toNat + 1 : Nat) : Int)) rfl rfl rfl (by omega) (by omega) (by omega) ?_)
    refine zH rfl rfl (uK (i := neg.toNat + 1) st9 rfl rfl rfl hs2 ?_)
    rw [hc2]
    refine zH rfl rfl (zJ rfl rfl rfl c256 sub0 ?_)
    refine oK 5 [54, 12, 11, 10, 7, 4, 9, 8, 6, 5, 3, 2, 0] rfl rfl ?_
    exact kQ (hK () (trivial))
   refine oK 9 [54, 12, 11, 10, 7, 4, 9, 8, 6, 5, 3, 2, 0] rfl rfl ?_
   exact kQ (hK () (trivial))
  refine oK 17 [54, 12, 11, 10, 7, 4, 9, 8, 6, 5, 3, 2, 0] rfl rfl ?_
  exact kQ (hK () (trivial))
 intro u hI
 replace hI : True := hI
 change Run _ _ _ _ _ [(54, _), (12, _), (11, _), (10, _), (7, _), (4, _), (9, _), (8, _), (6, _), (5, _), (3, _), (2, _), (0, _)] (_) (_)
 refine rK 12 [14, 13, 12, 11, 10, 7, 4, 9, 8, 6, 5, 3, 2, 0] rfl rfl (rK 5 [15, 14, 13, 12, 11, 10, 7, 4, 9, 8, 6, 5, 3, 2, 0] rfl rfl ?_)
 refine rK 5 [16, 15, 14, 13, 12, 11, 10, 7, 4, 9, 8, 6, 5, 3, 2, 0] rfl rfl (rK 5 [17, 16, 15, 14, 13, 12, 11, 10, 7, 4, 9, 8, 6, 5, 3, 2, 0] rfl rfl ?_)
 refine run_seq (run_label ?_)
 refine rK 2 [7, 2, 13, 14, 15, 16, 17, 12, 11, 10, 4, 9, 8, 6, 5, 3, 0] rfl rfl ?_
 refine xP 7 (fun (j : Nat) => j ≤ l.length) (fun (j : Nat) => [(7, .int .i64 ((neg.toNat + j : Nat) : Int)), (2, .int .u64 ((rf (l.take j)).1 : Int)), (13, .bool (rf (l.take j)).2.2.2), (14, .bool (decide (0 < j))), (15, .int .i64 ((rf (l.take j)).2.1 : Int)), (16, .int .i64 ((rf (l.take j)).2.1 : Int)), (17, .int .i64 (rf (l.take j)).2.2.1)]) (fun (j : Nat) => l.length - j) 0 ((by show 0 ≤ _; omega)) (eC rfl (eC rfl (eC rfl (eC rfl (eC rfl (eC rfl (eC rfl (eN _)))))))) ?_ (eC rfl (eC rfl (eC rfl (eC rfl (eC rfl (eC rfl (eC rfl (eC rfl (eC rfl (eC rfl (eN _)))))))))))
 intro j hI K hK
 change Run _ _ _ _ _ [(7, _), (2, _), (13, _), (14, _), (15, _), (16, _), (17, _), (12, _), (11, _), (10, _), (4, _), (9, _), (8, _), (6, _), (5, _), (3, _), (0, _)] _ _
 replace hI : j ≤ l.length := hI
 obtain ⟨hb1, hb2, hb3, hb4⟩ := hN.dec.lt j
 refine rO 8 rfl (wH st9 rfl rfl ?_)
 refine zA (vF rfl rfl rfl ?_)
 refine oK 1 [60, 7, 2, 13, 14, 15, 16, 17, 12, 11, 10, 4, 9, 8, 6, 5, 3, 0] rfl rfl (zM rfl (fun h60 => ?_) (fun h60 => ?_))
 ·have hlt : j < l.length := by omega
  obtain ⟨hsj, hcj⟩ := hN.c hlt
  have hall := hN.dec.all l[j] (List.getElem_mem hlt)
  refine rO 11 rfl (uK (i := neg.toNat + j) st9 rfl rfl rfl hsj ?_)
  rw [hcj]
  refine oK 3 [18, 7, 2, 13, 14, 15, 16, 17, 12, 11, 10, 4, 9, 8, 6, 5, 3, 0] rfl rfl (rO 8 rfl ?_)
  refine op_eqT Tryz.underlying4 rfl rfl rfl (oK 3 [66, 18, 7, 2, 13, 14, 15, 16, 17, 12, 11, 10, 4, 9, 8, 6, 5, 3, 0] rfl rfl ?_)
  refine yO rfl (decide_eq_false (no95 hall)) (rO 7 rfl ?_)
  refine op_eqT Tryz.underlying4 rfl rfl rfl (oK 3 [70, 18, 7, 2, 13, 14, 15, 16, 17, 12, 11, 10, 4, 9, 8, 6, 5, 3, 0] rfl rfl ?_)
  refine zM rfl (fun h70 => ?_) (fun h70 => ?_)
  ·have hc46 : l[j] = 46 := u8_eq (n := 46) (by omega) h70
   have hj0 : 0 < j := by
    rcases Nat.eq_zero_or_pos j with rfl | h
    ·exact absurd hc46 (hN.d0 hln).ne
    ·exact h
   refine rK 6 [74, 7, 2, 13, 14, 15, 16, 17, 12, 11, 10, 4, 9, 8, 6, 5, 3, 0] rfl rfl (yO rfl (hN.dec.nodot hlt hc46) ?_)
   refine rK 6 [13, 7, 2, 14, 15, 16, 12, 11, 10, 4, 9, 8, 6, 5, 3, 0] rfl rfl (rK 7 [17, 13, 7, 2, 14, 15, 16, 12, 11, 10, 4, 9, 8, 6, 5, 3, 0] rfl rfl ?_)
   refine rO 5 rfl (yP (s := ((neg.toNat + (j + 1) : Nat) : Int)) rfl rfl rfl (by omega) (by omega) (by omega) ?_)
   refine oK 3 [7, 17, 13, 2, 14, 15, 16, 12, 11, 10, 4, 9, 8, 6, 5, 3, 0] rfl rfl ?_
   have hst := rf_take hlt
   rw [hc46, rfStep_dot] at hst
   exact wC (hK (j + 1) (by show j + 1 ≤ _; omega) (by show l.length - (j + 1) < l.length - j; omega)) (by rw [hst]; exact (eC rfl (eC rfl (eC rfl (eC (by first | rfl | exact congrArg some (congrArg Value.bool (decide_eq_true (Nat.succ_pos _)).symm) | exact congrArg some (congrArg Value.bool ((decide_eq_true hj0).trans (decide_eq_true (Nat.succ_pos _)).symm))) (eC rfl (eC rfl (eC rfl (eC rfl (eC rfl (eC rfl (eC rfl (eC rfl (eC rfl (eC rfl (eC rfl (eC rfl (eC rfl (eN _))))))))))))))))))) (yB _) (by intro d hd; exact hd)
  have hdg : Dgt l[j] := hall.resolve_left (fun h => h70 (by rw [h]; rfl))
  have hdi := dgt_int hdg
  refine rO 5 rfl (op_leq rfl rfl rfl ?_)
  refine oS 2 rfl (pR (s := 79) rfl (decide_eq_true (by omega)) ?_)
  refine oO 3 rfl (op_leq rfl rfl rfl ?_)
  refine oO 3 rfl (op_eqT Tryz.underlying4 rfl rfl rfl ?_)
  refine oK 3 [76, 18, 7, 2, 13, 14, 15, 16, 17, 12, 11, 10, 4, 9, 8, 6, 5, 3, 0] rfl rfl (wF rfl (decide_eq_true (by omega)) ?_)
  refine rK 5 [14, 18, 7, 2, 13, 15, 16, 17, 12, 11, 10, 4, 9, 8, 6, 5, 3, 0] rfl rfl (rS 9 rfl ?_)
  refine yA (s := 86) rfl (fun h86 => ?_) (fun h86 => ?_)
  ·refine oK 7 [89, 14, 18, 7, 2, 13, 15, 16, 17, 12, 11, 10, 4, 9, 8, 6, 5, 3, 0] rfl rfl (zM rfl (fun h89 => ?_) (fun h89 => ?_))
   ·refine rO 5 rfl (xI (s := (rf (l.take j)).2.2.1 - 1) rfl rfl rfl rfl (by omega) (by omega) ?_)
    refine oK 3 [17, 14, 7, 2, 13, 15, 16, 12, 11, 10, 4, 9, 8, 6, 5, 3, 0] rfl rfl (rO 5 rfl ?_)
    refine yP (s := ((neg.toNat + (j + 1) : Nat) : Int)) rfl rfl rfl (by omega) (by omega) (by omega) (oK 3 [7, 17, 14, 2, 13, 15, 16, 12, 11, 10, 4, 9, 8, 6, 5, 3, 0] rfl rfl ?_)
    have hc48 : l[j] = 48 := u8_eq (n := 48) (by omega) h86
    have hst := rf_take hlt
    rw [hc48, rfStep_zero (by omega)] at hst
    exact wC (hK (j + 1) (by show j + 1 ≤ _; omega) (by show l.length - (j + 1) < l.length - j; omega)) (by rw [hst]; exact (eC rfl (eC rfl (eC rfl (eC (by first | rfl | exact congrArg some (congrArg Value.bool (decide_eq_true (Nat.succ_pos _)).symm) | exact congrArg some (congrArg Value.bool ((decide_eq_true hj0).trans (decide_eq_true (Nat.succ_pos _)).symm))) (eC rfl (eC rfl (eC rfl (eC rfl (eC rfl (eC rfl (eC rfl (eC rfl (eC rfl (eC rfl (eC rfl (eC rfl (eC rfl (eN _))))))))))))))))))) (yB _) (by intro d hd; exact hd)
   refine rO 6 rfl (yP (s := (((rf (l.take j)).2.1 + 1 : Nat) : Int)) rfl rfl rfl (by omega) (by omega) (by omega) ?_)
   refine oK 3 [15, 14, 18, 7, 2, 13, 16, 17, 12, 11, 10, 4, 9, 8, 6, 5, 3, 0] rfl rfl (rO 8 rfl ?_)
   refine vF rfl rfl rfl (oK 1 [96, 15, 14, 18, 7, 2, 13, 16, 17, 12, 11, 10, 4, 9, 8, 6, 5, 3, 0] rfl rfl ?_)
   refine wF rfl (decide_eq_true (by omega)) (rO 7 rfl ?_)
   refine op_mulU (r := (rf (l.take j)).1 * 10) rfl rfl rfl rfl (by omega) (oK 3 [2, 15, 14, 18, 7, 13, 16, 17, 12, 11, 10, 4, 9, 8, 6, 5, 3, 0] rfl rfl ?_)
   refine rO 7 rfl (op_subU8 (m' := 48) (r := l[j].toNat - 48) rfl rfl rfl (by unfold Dgt at hdg; omega) rfl (by unfold Dgt at hdg; omega) ?_)
   refine zA (op_convII Tryz.underlying5 Tryz.underlying235 rfl rfl (vN (m := l[j].toNat - 48) (by unfold Dgt at hdg; omega)) ?_)
   refine zA (op_addU (r := (rf (l.take j)).1 * 10 + (l[j].toNat - 48)) rfl rfl rfl rfl (by unfold Dgt at hdg; omega) ?_)
   refine oK 3 [2, 15, 14, 7, 13, 16, 17, 12, 11, 10, 4, 9, 8, 6, 5, 3, 0] rfl rfl (rO 4 rfl ?_)
   refine yP (s := (((rf (l.take j)).2.1 + 1 : Nat) : Int)) rfl rfl rfl (by omega) (by omega) (by omega) (oK 3 [16, 2, 15, 14, 7, 13, 17, 12, 11, 10, 4, 9, 8, 6, 5, 3, 0] rfl rfl ?_)
   refine rO 5 rfl (yP (s := ((neg.toNat + (j + 1) : Nat) : Int)) rfl rfl rfl (by omega) (by omega) (by omega) ?_)
   refine oK 3 [7, 16, 2, 15, 14, 13, 17, 12, 11, 10, 4, 9, 8, 6, 5, 3, 0] rfl rfl ?_
   have hst := rf_take hlt
   rw [rfStep_dig hdg (fun hh => h89 (by have := hh.2; omega))] at hst
   exact wC (hK (j + 1) (by show j + 1 ≤ _; omega) (by show l.length - (j + 1) < l.length - j; omega)) (by rw [hst]; exact (eC rfl (eC rfl (eC rfl (eC (by first | rfl | exact congrArg some (congrArg Value.bool (decide_eq_true (Nat.succ_pos _)).symm) | exact congrArg some (congrArg Value.bool ((decide_eq_true hj0).trans (decide_eq_true (Nat.succ_pos _)).symm))) (eC rfl (eC rfl (eC rfl (eC rfl (eC rfl (eC rfl (eC rfl (eC rfl (eC rfl (eC rfl (eC rfl (eC rfl (eC rfl (eN _))))))))))))))))))) (yB _) (by intro d hd; exact hd)
  refine oK 5 [89, 14, 18, 7, 2, 13, 15, 16, 17, 12, 11, 10, 4, 9, 8, 6, 5, 3, 0] rfl rfl (rO 7 rfl ?_)
  refine yP (s := (((rf (l.take j)).2.1 + 1 : Nat) : Int)) rfl rfl rfl (by omega) (by omega) (by omega) (oK 3 [15, 14, 18, 7, 2, 13, 16, 17, 12, 11, 10, 4, 9, 8, 6, 5, 3, 0] rfl rfl ?_)
  refine rO 8 rfl (vF rfl rfl rfl ?_)
  refine oK 1 [96, 15, 14, 18, 7, 2, 13, 16, 17, 12, 11, 10, 4, 9, 8, 6, 5, 3, 0] rfl rfl (wF rfl (decide_eq_true (by omega)) ?_)
  refine rO 7 rfl (op_mulU (r := (rf (l.take j)).1 * 10) rfl rfl rfl rfl (by omega) ?_)
  refine oK 3 [2, 15, 14, 18, 7, 13, 16, 17, 12, 11, 10, 4, 9, 8, 6, 5, 3, 0] rfl rfl (rO 7 rfl ?_)
  refine op_subU8 (m' := 48) (r := l[j].toNat - 48) rfl rfl rfl (by unfold Dgt at hdg; omega) rfl (by unfold Dgt at hdg; omega) (zA ?_)
  refine op_convII Tryz.underlying5 Tryz.underlying235 rfl rfl (vN (m := l[j].toNat - 48) (by unfold Dgt at hdg; omega)) (zA ?_)
  refine op_addU (r := (rf (l.take j)).1 * 10 + (l[j].toNat - 48)) rfl rfl rfl rfl (by unfold Dgt at hdg; omega) (oK 3 [2, 15, 14, 7, 13, 16, 17, 12, 11, 10, 4, 9, 8, 6, 5, 3, 0] rfl rfl ?_)
  refine rO 4 rfl (yP (s := (((rf (l.take j)).2.1 + 1 : Nat) : Int)) rfl rfl rfl (by omega) (by omega) (by omega) ?_)
  refine oK 3 [16, 2, 15, 14, 7, 13, 17, 12, 11, 10, 4, 9, 8, 6, 5, 3, 0] rfl rfl (rO 5 rfl ?_)
  refine yP (s := ((neg.toNat + (j + 1) : Nat) : Int)) rfl rfl rfl (by omega) (by omega) (by omega) (oK 3 [7, 16, 2, 15, 14, 13, 17, 12, 11, 10, 4, 9, 8, 6, 5, 3, 0] rfl rfl ?_)
  have hst := rf_take hlt
  rw [rfStep_dig hdg (fun hh => h86 (by rw [hh.1]; rfl))] at hst
  exact wC (hK (j + 1) (by show j + 1 ≤ _; omega) (by show l.length - (j + 1) < l.length - j; omega)) (by rw [hst]; exact (eC rfl (eC rfl (eC rfl (eC (by first | rfl | exact congrArg some (congrArg Value.bool (decide_eq_true (Nat.succ_pos _)).symm) | exact congrArg some (congrArg Value.bool ((decide_eq_true hj0).trans (decide_eq_true (Nat.succ_pos _)).symm))) (eC rfl (eC rfl (eC rfl (eC rfl (eC rfl (eC rfl (eC rfl (eC rfl (eC rfl (eC rfl (eC rfl (eC rfl (eC rfl (eN _))))))))))))))))))) (yB _) (by intro d hd; exact hd)
 obtain rfl : j = l.length := by omega
 have e1 : (rf l).1 = m := by rw [hr]
 have e2 : (rf l).2.1 = n + k := by rw [hr]
 have e3 : (rf l).2.2.1 = (n : Int) := by rw [hr]
 have e4 : (rf l).2.2.2 = true := by rw [hr]
 rw [List.take_length, e1, e2, e3, e4, ← hsz]
 refine rK 9 [140, 7, 2, 13, 15, 16, 17, 12, 10, 4, 9, 8, 6, 5, 3, 0] rfl rfl (yO rfl (by simp [hln]) ?_)
 refine rK 9 [142, 7, 2, 15, 16, 17, 12, 10, 4, 9, 8, 6, 5, 3, 0] rfl rfl (rK 10 [145, 7, 2, 16, 17, 12, 10, 4, 9, 8, 6, 5, 3, 0] rfl rfl ?_)
 refine rO 10 rfl (wH st9 rfl rfl ?_)
 refine zA (yT rfl rfl rfl ?_)
 refine oS 2 rfl (wB (s := 154) rfl (decide_eq_false (by omega)) ?_)
 refine oK 9 [161, 7, 2, 16, 17, 10, 4, 9, 8, 6, 5, 3, 0] rfl rfl (rK 8 [239, 7, 2, 16, 17, 4, 9, 8, 6, 5, 3, 0] rfl rfl ?_)
 refine rO 8 rfl (uR rfl rfl rfl ?_)
 refine yK (wF rfl (decide_eq_true (by omega)) ?_)
 refine rO 6 rfl (xI (s := -((k : Nat) : Int)) rfl rfl rfl (by omega) (by omega) (by omega) ?_)
 refine oK 3 [3, 7, 2, 4, 9, 8, 6, 5, 0] rfl rfl (rK 15 [252, 3, 7, 2, 4, 8, 6, 5] rfl rfl ?_)
 refine rR 7 rfl ?_
 exact run_ret7 Tryz.results266 rfl rfl rfl rfl rfl rfl rfl ⟨rfl, rfl, rfl⟩ nS (fun _ h => by cases h)
section rules
variable {P : Program} {n : Nat} {F : List Nat} {c : Ctx F} {ops : Array Oper} {d : Nat} {T : TypeId} {l : List Oper} {k : List KI} {Q : Post} {e : Env} {M : List HA} {D : List DA}
variable {x y : Operand} {S S' : TypeId}
theorem op_neqNN (hS : P.underlying S = some (.interface (P.methodsAt S))) (hd : Nat.blt d n = true) (hx : ev e x = some .nilIface) (next : RunOps P n c ops l k Q ((d, .bool false) :: e) M D) : RunOp P n c ops (some d) (.binOp .neq S x (.const .nilIface) S') T l k Q e M D :=
 xJ hd (fun a w hf => by
  have h1 := run_neq_nil_nil (P := P) (w := w) S hS
  have h2 : a.eval (.const .nilIface) = .nilIface := rfl
  simp only [execOp, opr, hf.ev hx, h2, eqGuard_nil_constR, Sem.run_bind, Sem.run_pure, Result.andThen_ok, h1]) next
theorem op_convNF {kd : IntKind} {m : Nat} (hS : (P.underlying S).isSome = true) (hS' : P.underlying S' = some (.float .f64)) (hd : Nat.blt d n = true) (hx : ev e x = some (.int kd (m : Nat))) (next : RunOps P n c ops l k Q ((d, .float .f64 (near false m 0)) :: e) M D) :
  RunOp P n c ops (some d) (.convert S S' x) T l k Q e M D := by
 refine op_convIF hS hS' hd hx ?_
 rw [show decide ((m : Int) < 0) = false from decide_eq_false (by omega), Int.natAbs_natCast]
 exact next
end rules
theorem if77 : Tryz.prog.underlying 77 = some (.interface (Tryz.prog.methodsAt 77)) := by kernel_rfl
theorem ft_pow {F : List Nat} {c : Ctx F} {M : List HA} {D : List DA} {w : World} (h : FitsW c M D w) {j k : Nat} {fb : Addr} (hj : D[j]? = some (ftD fb)) (hk : k = 1 ∨ k = 2 ∨ k = 6) : w.cell? (fb.add (k * 1)) = some (.float .f64 (near false (10 ^ k) 0)) := by
 have hd : ∀ q ∈ ftL fb, _ ∧ w.cell? q.1 = some q.2 := h.dt hj
 rcases hk with rfl | rfl | rfl
 ·rw [c_10]; exact (hd (fb.add 1, _) (by simp [ftL])).2
 ·rw [c_100]; exact (hd (fb.add 2, _) (by simp [ftL])).2
 ·rw [c_1000000]; exact (hd (fb.add 6, _) (by simp [ftL])).2
theorem pow53 {k : Nat} (hk : k = 1 ∨ k = 2 ∨ k = 6) : 10 ^ k < 2 ^ 53 := by rcases hk with rfl | rfl | rfl <;> decide
structure QTxt (s : ByteArray) (n : Int) : Prop where
 ok : ∃ (l : List UInt8) (m nn k : Nat), NumTxt s (decide (n < 0)) l ∧ rf l = (m, nn + k, (nn : Int), true) ∧ 0 < m ∧ m < 2 ^ 52 ∧ (k = 1 ∨ k = 2 ∨ k = 6) ∧ nn + k ≤ 18 ∧ m * 4 = 10 ^ k * n.natAbs ∧ 0 < n.natAbs ∧ n.natAbs < 2 ^ 53

theorem c274 (b : Bool) : CtV Tryz.prog 274 #[.bool b] [] (.int .u64 ((b.toNat : Nat) : Int)) := by
 refine Ct.of_run (args := [.bool b]) Tryz.func274 (by kernel_rfl) rfl Tryz.ntmps274 rfl (fun c => ?_)
 refine rR 11 rfl (yQ rfl (fun h3 => ?_) (fun h3 => ?_))
 ·subst h3
  refine rR 5 rfl ?_
  exact zC Tryz.results274 rfl ⟨rfl, rfl, rfl⟩ nS (fun _ h => by cases h)
 subst h3
 refine rR 6 rfl ?_
 exact zC Tryz.results274 rfl ⟨rfl, rfl, rfl⟩ nS (fun _ h => by cases h)
theorem c276 (fb : Addr) (neg : Bool) (m A k : Nat) (hm : 0 < m) (hm2 : m < 2 ^ 52) (hk : k = 1 ∨ k = 2 ∨ k = 6) (hA : 0 < A) (hA2 : A < 2 ^ 53) (h4 : m * 4 = 10 ^ k * A) : CtV Tryz.prog 276 #[.int .u64 (m : Int), .int .i64 (-((k : Nat) : Int)), .bool neg] [ftD fb] (.tuple #[.float .f64 (near neg A (-2)), .bool true]) := by
 refine Ct.of_run (args := [.int .u64 (m : Int), .int .i64 (-((k : Nat) : Int)), .bool neg]) Tryz.func276 (by kernel_rfl) rfl Tryz.ntmps276 rfl (fun c => ?_)
 have hk6 : 1 ≤ k ∧ k ≤ 6 := by omega
 refine rO 13 rfl (zB fo305_0 rfl rfl ?_)
 refine zA (uI 0 1 sc206 rfl rfl rfl rfl ?_)
 refine zA (op_shrU (m := m) (s := 52) (r := 0) rfl rfl rfl (by omega) (Nat.div_eq_of_lt hm2) ?_)
 refine zA (uR rfl rfl rfl ?_)
 refine oO 8 rfl (op_convNF (by rw [Tryz.underlying235]; rfl) Tryz.underlying214 rfl rfl ?_)
 refine oK 9 [15, 6, 7, 1] rfl rfl (yQ rfl (fun h15 => ?_) (fun h15 => ?_))
 ·subst h15
  refine rO 4 rfl (op_fneg rfl rfl (neg_near hm (by omega) (by omega) (by omega)) ?_)
  refine oR 14 rfl (yO rfl (decide_eq_false (by omega)) ?_)
  refine rO 5 rfl (wJ rfl rfl rfl ?_)
  refine oS 2 rfl (wB (s := 25) rfl (decide_eq_false (by omega)) ?_)
  refine oK 7 [22, 6, 7, 1] rfl rfl (rO 6 rfl ?_)
  refine vF rfl rfl rfl (oS 2 rfl ?_)
  refine pR (s := 53) rfl (decide_eq_true (by omega)) (oO 3 rfl ?_)
  refine qJ rfl rfl rfl (oR 5 rfl ?_)
  refine wF rfl (decide_eq_true (by omega)) (rO 5 rfl ?_)
  refine uI 0 2 sc349 rfl rfl rfl rfl (oO 3 rfl ?_)
  refine tT (s := ((k : Nat) : Int)) rfl rfl (by omega) (by omega) (by omega) (zA ?_)
  refine xV sl349 rfl rfl rfl (by omega) (zA ?_)
  refine yN sc214 rfl rfl (fun _ h => ft_pow h (j := 0) rfl hk) (zA ?_)
  refine op_fquo rfl rfl rfl (qw_parse _ hA hA2 (by omega) (pow53 hk) h4) (oK 5 [7, 6] rfl rfl ?_)
  exact tU Tryz.results276 rfl rfl ⟨rfl, rfl, rfl⟩ nS (fun _ h => by cases h)
 subst h15
 refine rR 12 rfl (yO rfl (decide_eq_false (by omega)) ?_)
 refine rO 5 rfl (wJ rfl rfl rfl ?_)
 refine oS 2 rfl (wB (s := 25) rfl (decide_eq_false (by omega)) ?_)
 refine oK 7 [22, 6, 7, 1] rfl rfl (rO 6 rfl ?_)
 refine vF rfl rfl rfl (oS 2 rfl ?_)
 refine pR (s := 53) rfl (decide_eq_true (by omega)) (oO 3 rfl ?_)
 refine qJ rfl rfl rfl (oR 5 rfl ?_)
 refine wF rfl (decide_eq_true (by omega)) (rO 5 rfl ?_)
 refine uI 0 2 sc349 rfl rfl rfl rfl (oO 3 rfl ?_)
 refine tT (s := ((k : Nat) : Int)) rfl rfl (by omega) (by omega) (by omega) (zA ?_)
 refine xV sl349 rfl rfl rfl (by omega) (zA ?_)
 refine yN sc214 rfl rfl (fun _ h => ft_pow h (j := 0) rfl hk) (zA ?_)
 refine op_fquo rfl rfl rfl (qw_parse _ hA hA2 (by omega) (pow53 hk) h4) (oK 5 [7, 6] rfl rfl ?_)
 exact tU Tryz.results276 rfl rfl ⟨rfl, rfl, rfl⟩ nS (fun _ h => by cases h)
theorem c265 {s : ByteArray} {neg : Bool} {l : List UInt8} (hN : NumTxt s neg l) : CtV Tryz.prog 265 #[.string s] [] (.tuple #[.float .f64 0, .int .i64 0, .bool false]) := by
  obtain ⟨hsz, hs19, hln, hl18⟩ := hN.sz
  have hs0 := hN.sign (by omega)
  obtain ⟨h1, h2⟩ := hN.c (j := 0) hln
  have hd := hN.d0 hln
  cases neg with
  | false => exact c265d s (by omega) (by have h3 : s[0] = l[0] := h2; rw [h3]; exact hd)
  | true => exact c265m s (by have : true.toNat = 1 := rfl; omega) (hs0.2 rfl) (by have h3 : s[1] = l[0] := h2; rw [h3]; exact hd)
theorem c253 (s : ByteArray) (l : List UInt8) (nn : Nat) (fb : Addr) (neg : Bool) (m A k : Nat) (hm : 0 < m) (hm2 : m < 2 ^ 52) (hk : k = 1 ∨ k = 2 ∨ k = 6) (hA : 0 < A) (hA2 : A < 2 ^ 53) (h4 : m * 4 = 10 ^ k * A) (hN : NumTxt s neg l) (hr : rf l = (m, nn + k, (nn : Int), true)) (hnk : nn + k ≤ 18) : CtV Tryz.prog 253 #[.string s] [ftD fb] (.tuple #[.float .f64 (near neg A (-2)), .int .i64 ((s.size : Nat) : Int), .nilIface]) := by
 refine Ct.of_run (args := [.string s]) Tryz.func253 (by kernel_rfl) rfl Tryz.ntmps253 rfl (fun c => ?_)
 have hk6 : 1 ≤ k ∧ k ≤ 6 := by omega
 refine rO 15 rfl (zJ rfl rfl rfl (c265 hN) sub0 ?_)
 refine oK 20 [32, 6, 5, 4, 0] rfl rfl (rO 7 rfl ?_)
 refine zJ rfl rfl rfl (c266 s neg l hN m nn k hr hm hnk) sub0 (oK 31 [13, 3, 12, 11, 10, 9, 8, 4, 0] rfl rfl ?_)
 refine rO 22 rfl (uI 0 0 sc4 rfl rfl rfl rfl ?_)
 refine oO 7 rfl (zJ rfl rfl rfl (c274 neg) sub0 ?_)
 refine zA (op_shlU (m := neg.toNat) (s := 63) (r := neg.toNat * 2 ^ 63) rfl rfl rfl (by omega) rfl (by cases neg <;> decide) ?_)
 refine oK 3 [16, 3, 11, 10, 9, 8, 4, 0] rfl rfl (rR 8 rfl ?_)
 refine yO rfl (decide_eq_false (by omega)) (rO 7 rfl ?_)
 refine wJ rfl rfl rfl (yK ?_)
 refine yO rfl (decide_eq_false (by omega)) (rO 7 rfl ?_)
 refine vF rfl rfl rfl (yK ?_)
 refine yO rfl (decide_eq_false (by omega)) (rK 9 [88, 16, 3, 11, 10, 9, 8, 4, 0] rfl rfl ?_)
 refine rO 10 rfl (zJ rfl rfl rfl (c276 fb neg m A k hm hm2 hk hA hA2 h4) (sub1 0 rfl) ?_)
 refine oK 11 [18, 17, 16, 3, 11, 9, 8, 4, 0] rfl rfl (rK 19 [4, 3, 2] rfl rfl ?_)
 exact run_ret3 Tryz.results253 rfl rfl rfl ⟨rfl, rfl, rfl⟩ nS (fun _ h => by cases h)
theorem c236 (fb : Addr) (s : ByteArray) (n : Int) (hq : QTxt s n) : CtV Tryz.prog 236 #[.string s, .int .i64 64] [ftD fb] (.tuple #[.float .f64 (qw n), .int .i64 ((s.size : Nat) : Int), .nilIface]) := by
 refine Ct.of_run (args := [.string s, .int .i64 64]) Tryz.func236 (by kernel_rfl) rfl Tryz.ntmps236 rfl (fun c => ?_)
 obtain ⟨l, m, nn, k, hN, hr, hm, hm2, hk, hnk, h4, hA, hA2⟩ := hq.ok
 refine rO 24 rfl (zJ rfl rfl rfl (c253 s l nn fb (decide (n < 0)) m n.natAbs k hm hm2 hk hA hA2 h4 hN hr hnk) (sub1 0 rfl) ?_)
 refine oK 13 [6, 5, 4] rfl rfl ?_
 exact run_ret3 Tryz.results236 rfl rfl rfl ⟨rfl, rfl, rfl⟩ nS (fun _ h => by cases h)
theorem c215 (fb : Addr) (s : ByteArray) (n : Int) (hq : QTxt s n) : CtV Tryz.prog 215 #[.string s, .int .i64 64] [ftD fb] (.tuple #[.float .f64 (qw n), .nilIface]) := by
 refine Ct.of_run (args := [.string s, .int .i64 64]) Tryz.func215 (by kernel_rfl) rfl Tryz.ntmps215 rfl (fun c => ?_)
 refine rO 14 rfl (zJ rfl rfl rfl (c236 fb s n hq) (sub1 0 rfl) ?_)
 refine oK 15 [8, 7, 6, 0] rfl rfl (rO 8 rfl ?_)
 refine wH st9 rfl rfl (zA ?_)
 refine uR rfl rfl rfl (yK ?_)
 refine yO rfl (decide_eq_false (fun h => h rfl)) (rK 12 [5, 4] rfl rfl ?_)
 exact tU Tryz.results215 rfl rfl ⟨rfl, rfl, rfl⟩ nS (fun _ h => by cases h)
theorem c179 (fb : Addr) (s : ByteArray) (n : Int) (hq : QTxt s n) : CtV Tryz.prog 179 #[.string s, .int .i64 64] [ftD fb] (.tuple #[.float .f64 (qw n), .nilIface]) := by
 refine Ct.of_run (args := [.string s, .int .i64 64]) Tryz.func179 (by kernel_rfl) rfl Tryz.ntmps179 rfl (fun c => ?_)
 refine rO 14 rfl (zJ rfl rfl rfl (c215 fb s n hq) (sub1 0 rfl) ?_)
 refine oO 17 rfl (op_neqNN if77 rfl rfl ?_)
 refine oK 1 [15, 7, 6, 0, 1] rfl rfl (rR 11 rfl ?_)
 exact tU Tryz.results179 rfl rfl ⟨rfl, rfl, rfl⟩ nS (fun _ h => by cases h)
end Go.Jw

namespace Go.Jw
open Go Go.Lib
theorem dec_ne (u : Nat) : decDigits u ≠ [] := fun h => by
 have h1 := decDigits_length u
 have h2 := nDigits_pos u
 rw [h] at h1
 simp only [List.length_nil] at h1
 omega
theorem dec_head (u : Nat) (h0 : u ≠ 0) : ∀ c r, decDigits u = c :: r → c ≠ 48 := by
  induction u using Nat.strongRecOn with
  | _ u ih =>
    intro c r h
    rw [decDigits] at h
    split at h
    · rename_i h9
      injection h with h1 h2
      subst h1
      intro he
      have := congrArg UInt8.toNat he
      rw [qR h9] at this
      have h48 : (48 : UInt8).toNat = 48 := rfl
      omega
    · rename_i h9
      cases hd : decDigits (u / 10) with
      | nil => exact absurd hd (dec_ne _)
      | cons c' r' =>
        rw [hd, List.cons_append] at h
        injection h with h1 h2
        subst h1
        exact ih (u / 10) (by omega) (by omega) _ _ hd
theorem dec_zero : decDigits 0 = [48] := by rw [decDigits]; rfl
theorem numTxt_of {s : ByteArray} {neg : Bool} {A k : Nat} {fr : List UInt8} (hs : rl s = (if neg then [45] else []) ++ (decDigits (A / 4) ++ fr)) (hA : A < 1000000000) (hf : Frac fr (A % 4) k) : NumTxt s neg (decDigits (A / 4) ++ fr) := by
  obtain ⟨hdec, _⟩ := rf_quart hA hf
  have hsz : s.size = (rl s).length := rfl
  have hne : 0 < (decDigits (A / 4)).length := List.length_pos_iff.2 (dec_ne _)
  have hd0 : ∀ h : 0 < (decDigits (A / 4) ++ fr).length, Dgt (decDigits (A / 4) ++ fr)[0] := fun h => by
    rw [List.getElem_append_left hne]
    exact rL _ _ (List.getElem_mem _)
  have hat : Sf s neg.toNat (decDigits (A / 4) ++ fr) := by
    refine ⟨?_, ?_⟩
    · rw [hs]; cases neg <;> rfl
    · rw [hsz, hs]; cases neg <;> simp
  have hn0 : 0 < (decDigits (A / 4) ++ fr).length := by rw [List.length_append]; omega
  refine ⟨hat, fun h => ?_, hdec, hn0, hd0, fun h h48 => ?_⟩
  · have hg : s[0] = (rl s)[0]'(by rw [← hsz]; exact h) := rfl
    rw [hg]
    cases neg with
    | true => simp [hs]
    | false =>
      have h2 : (rl s)[0]'(by rw [← hsz]; exact h) = (decDigits (A / 4) ++ fr)[0] := by simp [hs]
      rw [h2]
      have h3 := hd0 hn0
      constructor
      · intro he
        rw [he] at h3
        exact absurd h3.1 (by decide)
      · intro he; cases he
  · rw [List.getElem_append_left hne] at h48
    have hz : A / 4 = 0 := Classical.byContradiction fun hz => by
      cases hd : decDigits (A / 4) with
      | nil => exact dec_ne _ hd
      | cons c r => exact dec_head _ hz _ _ hd (by simp only [hd] at h48; exact h48)
    have hl1 : (decDigits (A / 4)).length = 1 := by rw [hz, dec_zero]; rfl
    rw [List.getElem_append_right (by omega)]
    have hh := hf.hd
    cases fr with
    | nil => cases hh
    | cons c r =>
      simp only [List.head?_cons, Option.some.injEq] at hh
      subst hh
      simp [hl1]
theorem quart_of {s : ByteArray} {n : Int} {k : Nat} {fr : List UInt8} (h1 : -1000000000 < n) (h2 : n < 1000000000) (hs : rl s = (if decide (n < 0) then [45] else []) ++ (decDigits (n.natAbs / 4) ++ fr)) (hf : Frac fr (n.natAbs % 4) k) (hk : k = 1 ∨ k = 2 ∨ k = 6) : QTxt s n := by
 have hA : n.natAbs < 1000000000 := by omega
 obtain ⟨_, m, nn, hr, h4, hm, hm2, hn9⟩ := rf_quart hA hf
 have := hf.q3
 exact ⟨_, m, nn, k, numTxt_of hs hA hf, hr, hm, hm2, hk, by omega, h4, by omega, by omega⟩
theorem rl_itoa (m : Nat) : rl (itoaB (m : Int)) = decDigits m := by
 show Lib.itoa (m : Int) = _
 unfold Lib.itoa
 rw [if_neg (by omega), Int.toNat_natCast]
theorem rl_sign (b : Bool) : rl (if b = true then (⟨#[45]⟩ : ByteArray) else ⟨#[]⟩) = if b then [45] else [] := by cases b <;> rfl
theorem tmod4 {n : Int} (h : n.tmod 4 ≠ 0) : 0 < n.natAbs % 4 ∧ n.natAbs % 4 < 4 := by
 refine ⟨?_, Nat.mod_lt _ (by omega)⟩
 have h1 : (n.tmod 4).natAbs = n.natAbs % 4 := Int.natAbs_tmod n 4
 omega
theorem qtxt_V {n : Int} (h0 : n.tmod 4 ≠ 0) (h1 : -1000000000 < n) (h2 : n < 1000000000) : QTxt (quartV n) n := by
 obtain ⟨a1, a2⟩ := tmod4 h0
 obtain ⟨k, hf, hk⟩ := frac_frac a1 a2
 refine quart_of h1 h2 ?_ hf (by omega)
 unfold quartV quartS
 rw [rl_app, rl_app, rl_itoa, rl_sign, List.append_assoc]
 rfl
theorem qtxt_F {n : Int} (h0 : n.tmod 4 ≠ 0) (h1 : -1000000000 < n) (h2 : n < 1000000000) : QTxt (quartF n) n := by
 obtain ⟨a1, a2⟩ := tmod4 h0
 refine quart_of h1 h2 ?_ (frac_frac6 a1 a2) (by omega)
 unfold quartF
 rw [rl_app, rl_app, rl_itoa, rl_sign, List.append_assoc]
 rfl
end Go.Jw

namespace Go.Jw
open Go Go.RowKit Go.Proofs
set_option maxRecDepth 8000
theorem fun318 : Fun Tryz.prog 318 := ⟨_, Tryz.func318, by kernel_rfl, rfl⟩
theorem fun206 : Fun Tryz.prog 206 := ⟨_, Tryz.func206, by kernel_rfl, rfl⟩
theorem fun220 : Fun Tryz.prog 220 := ⟨_, Tryz.func220, by kernel_rfl, rfl⟩
theorem c318 (x y : Nat) (hx : x < 18446744073709551616) (hy : y < 18446744073709551616) : CtV Tryz.prog 318 #[.int .u64 (x : Int), .int .u64 (y : Int)] [] (.tuple #[.int .u64 ((x * y / 18446744073709551616 : Nat) : Int), .int .u64 ((x * y % 18446744073709551616 : Nat) : Int)]) :=
 pF fun318 fun w ok h => (Tryz.bits_Mul64 x y hx hy w).mono (by
  rintro e w' ⟨rfl, rfl⟩
  exact ⟨rfl, Chg.refl _ _⟩)
theorem c220 (u : Nat) (h1 : 1 ≤ u) (h2 : u < 18446744073709551616) : CtV Tryz.prog 220 #[.int .u64 (u : Int)] [.tab] (.int .i64 ((Lib.nDigits u : Nat) : Int)) :=
 pF fun220 fun w ok h => (Tryz.internal_strconv_numDigits u h1 h2 w (tab_is (h _ List.mem_cons_self))).mono (by
  rintro e w' ⟨rfl, rfl⟩
  exact ⟨rfl, Chg.refl _ _⟩)
theorem ft_p10 {F : List Nat} {c : Ctx F} {M : List HA} {D : List DA} {w : World} (h : FitsW c M D w) {j i : Nat} {fb : Addr} (hj : D[j]? = some (ftD fb)) (hi : i < 20) : w.cell? ((⟨0, 0, none⟩ : Addr).add (i * 1)) = some (.int .u64 ((10 ^ i : Nat) : Int)) := by
  have hd : ∀ q ∈ ftL fb, _ ∧ w.cell? q.1 = some q.2 := h.dt hj
  have hm : ((⟨0, i, none⟩ : Addr), Value.int .u64 ((10 ^ i : Nat) : Int)) ∈ ftL fb := by
    unfold ftL
    exact List.mem_append_right _ (List.mem_map.2 ⟨i, List.mem_range.2 hi, rfl⟩)
  have ha : (⟨0, 0, none⟩ : Addr).add (i * 1) = ⟨0, i, none⟩ := by
    unfold Addr.add
    by_cases h0 : i * 1 = 0
    · rw [if_pos h0]; have : i = 0 := by omega
      subst this; rfl
    · rw [if_neg h0]; simp
  rw [ha]
  exact (hd _ hm).2
abbrev scB (pb hi s : Nat) : HA := .blk pb [.int .u64 (hi : Int), .int .u64 ((0 : Nat) : Int), .int .i64 (s : Int)] 342
theorem and63 {s : Nat} (h : s < 64) : s &&& 63 = s := by
 have := Nat.and_two_pow_sub_one_eq_mod s 6
 rw [show 2 ^ 6 - 1 = 63 from rfl] at this
 rw [this]; exact Nat.mod_eq_of_lt h
theorem even_and (q : Nat) : (10 * q) &&& 1 = 0 := by rw [Nat.and_one_is_mod]; omega

theorem c242 (x : Int) (h0 : -1000 ≤ x) (h1 : x ≤ 1000) : CtV Tryz.prog 242 #[.int .i64 x] [] (.int .i64 ((x * 78913).fdiv (2 ^ 18))) := by
 refine Ct.of_run (args := [.int .i64 x]) Tryz.func242 (by kernel_rfl) rfl Tryz.ntmps242 rfl (fun c => ?_)
 refine rO 10 rfl (op_mul rfl rfl rfl ?_)
 rw [vV (by omega) (by omega)]
 refine zA (op_shrI (s := 18) rfl rfl rfl (by omega) rfl ?_)
 refine oR 3 rfl ?_
 exact zC Tryz.results242 rfl ⟨rfl, rfl, rfl⟩ nS (fun _ h => by cases h)
theorem c295 (x : Int) (h0 : -1000 ≤ x) (h1 : x ≤ 1000) : CtV Tryz.prog 295 #[.int .i64 x] [] (.int .i64 ((x * 108853).fdiv (2 ^ 15))) := by
 refine Ct.of_run (args := [.int .i64 x]) Tryz.func295 (by kernel_rfl) rfl Tryz.ntmps295 rfl (fun c => ?_)
 refine rO 10 rfl (op_mul rfl rfl rfl ?_)
 rw [vV (by omega) (by omega)]
 refine zA (op_shrI (s := 15) rfl rfl rfl (by omega) rfl ?_)
 refine oR 3 rfl ?_
 exact zC Tryz.results295 rfl ⟨rfl, rfl, rfl⟩ nS (fun _ h => by cases h)
theorem c298 (x : Nat) (h0 : 1 ≤ x) (h1 : 4 * x < 18446744073709551616) : CtV Tryz.prog 298 #[.int .u64 (x : Int)] [] (.int .u64 ((4 * x - 2 : Nat) : Int)) := by
 refine Ct.of_run (args := [.int .u64 (x : Int)]) Tryz.func298 (by kernel_rfl) rfl Tryz.ntmps298 rfl (fun c => ?_)
 refine rO 10 rfl (op_shlU (m := x) (s := 2) (r := 4 * x) rfl rfl rfl (by omega) (by omega) h1 ?_)
 refine zA (op_subU (m := 4 * x) (m' := 2) (r := 4 * x - 2) rfl rfl rfl (by omega) rfl (by omega) ?_)
 refine oR 3 rfl ?_
 exact zC Tryz.results298 rfl ⟨rfl, rfl, rfl⟩ nS (fun _ h => by cases h)
theorem c300 (q : Nat) (h : 4 * q + 8 < 18446744073709551616) : CtV Tryz.prog 300 #[.int .u64 ((4 * q : Nat) : Int)] [] (.int .u64 (q : Int)) := by
 refine Ct.of_run (args := [.int .u64 ((4 * q : Nat) : Int)]) Tryz.func300 (by kernel_rfl) rfl Tryz.ntmps300 rfl (fun c => ?_)
 have hm : q % 2 < 2 := Nat.mod_lt _ (by omega)
 refine rO 10 rfl (op_addU (m := 4 * q) (m' := 1) (r := 4 * q + 1) rfl rfl rfl rfl (by omega) ?_)
 refine oO 3 rfl (op_shrU (m := 4 * q) (s := 2) (r := q) rfl rfl rfl (by omega) (by omega) ?_)
 refine zA (op_andU (m := q) (m' := 1) (r := q % 2) rfl rfl rfl (by omega) (by omega) (Nat.and_one_is_mod q) ?_)
 refine zA (op_addU (m := 4 * q + 1) (m' := q % 2) (r := 4 * q + 1 + q % 2) rfl rfl rfl rfl (by omega) ?_)
 refine zA (op_shrU (m := 4 * q + 1 + q % 2) (s := 2) (r := q) rfl rfl rfl (by omega) (by omega) ?_)
 refine oR 3 rfl ?_
 exact zC Tryz.results300 rfl ⟨rfl, rfl, rfl⟩ nS (fun _ h => by cases h)
theorem c319 (b : Bool) : CtV Tryz.prog 319 #[.bool b] [] (.int .u64 ((b.toNat : Nat) : Int)) := by
 refine Ct.of_run (args := [.bool b]) Tryz.func319 (by kernel_rfl) rfl Tryz.ntmps319 rfl (fun c => ?_)
 refine rR 11 rfl (yQ rfl (fun h3 => ?_) (fun h3 => ?_))
 ·subst h3
  refine rR 5 rfl ?_
  exact zC Tryz.results319 rfl ⟨rfl, rfl, rfl⟩ nS (fun _ h => by cases h)
 subst h3
 refine rR 6 rfl ?_
 exact zC Tryz.results319 rfl ⟨rfl, rfl, rfl⟩ nS (fun _ h => by cases h)
set_option maxHeartbeats 1000000 in
theorem c309 (q : Nat) (h : 10 * q < 18446744073709551616) : CtV Tryz.prog 309 #[.int .u64 ((10 * q : Nat) : Int), .int .u64 ((10 : Nat) : Int)] [] (.int .u64 (q : Int)) := by
 refine Ct.of_run (args := [.int .u64 ((10 * q : Nat) : Int), .int .u64 ((10 : Nat) : Int)]) Tryz.func309 (by kernel_rfl) rfl Tryz.ntmps309 rfl (fun c => ?_)
 refine rR 13 rfl (yU yG ?_)
 refine zQ (tP 0 rfl wanted0 (zU rfl) ?_)
 refine tP 1 rfl wanted0 (zU rfl) (tP 3 rfl wanted0 (zU rfl) ?_)
 refine tP 6 rfl wanted0 (zU rfl) (tP 7 rfl wanted0 (zU rfl) ?_)
 refine yD (tM 2 rfl wanted0 (tL (bin_quoU (m := 10 * q) (m' := 10) (r := q) (by omega) (by omega) (by omega)) rfl rfl) ?_)
 refine tM 4 rfl wanted0 (tL (bin_andU (m := 10 * q) (m' := 1) (r := 0) h (by omega) (even_and q)) rfl rfl) (tM 5 rfl wanted0 (tL (bin_orU (m := q) (m' := 0) (r := q) (by omega) (by omega) (Nat.or_zero q)) rfl rfl) ?_)
 refine tM 8 rfl wanted0 (tL (bin_remU (m := 10 * q) (m' := 10) (r := 0) (by omega) (by omega)) rfl rfl) (tM 9 rfl wanted0 (tL (v := .bool false) (fun w => rfl) rfl rfl) ?_)
 refine zN 10 (by decide +kernel) ?_
 refine zO (I2 := [[5, 4, 2], [3, 1, 0], []]) rfl wanted0 (by decide +kernel) (fun Kd hKd => ?_)
 refine zJ rfl rfl rfl (c319 false) sub0 (hKd _ _ _ (hC (hC (zE (zP)))) ?_)
 refine yD (tM 11 rfl wanted0 (tL (bin_orU (m := q) (m' := 0) (r := q) (by omega) (by omega) (Nat.or_zero q)) rfl rfl) ?_)
 refine zQ (tP 12 rfl wanted0 (yY rfl) ?_)
 refine yH (by decide +kernel) (rK 0 [4] rfl rfl ?_)
 exact zC Tryz.results309 rfl ⟨rfl, rfl, rfl⟩ nS (fun _ h => by cases h)
theorem c296_6 (fb : Addr) (pb s : Nat) (e lp : Int) (cs : List Value) (hs : (s : Int) = -(e + lp + 3)) (he : -1000 ≤ e) (he2 : e ≤ 1000) (hl : -1000 ≤ lp) (hl2 : lp ≤ 1000) (v0 v1 v2 : Value) : Ct Tryz.prog 296 #[.pointer (some ⟨pb, 0, none⟩), .int .i64 e, .int .i64 6, .int .i64 lp] [.blk pb [v0, v1, v2] 342] [ftD fb] (fun u M' D' => u = .tuple #[] ∧ M' = [scB pb 17592186044416000000 s] ∧ D' = []) := by
 refine Ct.of_run (args := [.pointer (some ⟨pb, 0, none⟩), .int .i64 e, .int .i64 6, .int .i64 lp]) Tryz.func296 (by kernel_rfl) rfl Tryz.ntmps296 rfl (fun c => ?_)
 refine rO 7 rfl (xI (s := ((354 : Nat) : Int)) rfl rfl rfl (by omega) (by omega) (by omega) ?_)
 refine zA (sJ (i := 354) Tryz.underlying360 si359 rfl rfl rfl (by omega) ?_)
 refine zA (zB fo359_0 rfl rfl ?_)
 refine zA (uI 0 6 sc235 rfl rfl rfl rfl ?_)
 refine oO 3 rfl (zB fo342_0 rfl rfl ?_)
 refine zA (zG 0 (M' := [HA.blk _ [_, _, _] _]) rfl rfl rfl rfl si235 rfl rfl rfl ?_)
 refine oO 8 rfl (xI (s := ((354 : Nat) : Int)) rfl rfl rfl (by omega) (by omega) (by omega) ?_)
 refine zA (sJ (i := 354) Tryz.underlying360 si359 rfl rfl rfl (by omega) ?_)
 refine zA (zB fo359_1 rfl rfl ?_)
 refine zA (uI 0 7 sc235 rfl rfl rfl rfl ?_)
 refine oO 3 rfl (zB fo342_1 rfl rfl ?_)
 refine zA (zG 0 (M' := [HA.blk _ [_, _, _] _]) rfl rfl rfl rfl si235 rfl rfl rfl ?_)
 refine oK 1 [0, 1, 3] rfl rfl (rO 8 rfl ?_)
 refine yP (s := e + lp) rfl rfl rfl rfl (by omega) (by omega) (zA ?_)
 refine yP (s := e + lp + 3) rfl rfl rfl rfl (by omega) (by omega) (zA ?_)
 refine tT (s := (s : Int)) rfl rfl hs.symm (by omega) (by omega) (oO 3 rfl ?_)
 refine zB fo342_2 rfl rfl (zA ?_)
 refine zG 0 (M' := [HA.blk _ [_, _, _] _]) rfl rfl rfl rfl si3 rfl rfl rfl (oK 1 [] rfl rfl ?_)
 exact pM Tryz.results296 ⟨rfl, rfl, rfl⟩ (List.Sublist.refl _) (fun _ h => by cases h)
theorem c296_7 (fb : Addr) (pb s : Nat) (e lp : Int) (cs : List Value) (hs : (s : Int) = -(e + lp + 3)) (he : -1000 ≤ e) (he2 : e ≤ 1000) (hl : -1000 ≤ lp) (hl2 : lp ≤ 1000) (v0 v1 v2 : Value) : Ct Tryz.prog 296 #[.pointer (some ⟨pb, 0, none⟩), .int .i64 e, .int .i64 7, .int .i64 lp] [.blk pb [v0, v1, v2] 342] [ftD fb] (fun u M' D' => u = .tuple #[] ∧ M' = [scB pb 10995116277760000000 s] ∧ D' = []) := by
 refine Ct.of_run (args := [.pointer (some ⟨pb, 0, none⟩), .int .i64 e, .int .i64 7, .int .i64 lp]) Tryz.func296 (by kernel_rfl) rfl Tryz.ntmps296 rfl (fun c => ?_)
 refine rO 7 rfl (xI (s := ((355 : Nat) : Int)) rfl rfl rfl (by omega) (by omega) (by omega) ?_)
 refine zA (sJ (i := 355) Tryz.underlying360 si359 rfl rfl rfl (by omega) ?_)
 refine zA (zB fo359_0 rfl rfl ?_)
 refine zA (uI 0 8 sc235 rfl rfl rfl rfl ?_)
 refine oO 3 rfl (zB fo342_0 rfl rfl ?_)
 refine zA (zG 0 (M' := [HA.blk _ [_, _, _] _]) rfl rfl rfl rfl si235 rfl rfl rfl ?_)
 refine oO 8 rfl (xI (s := ((355 : Nat) : Int)) rfl rfl rfl (by omega) (by omega) (by omega) ?_)
 refine zA (sJ (i := 355) Tryz.underlying360 si359 rfl rfl rfl (by omega) ?_)
 refine zA (zB fo359_1 rfl rfl ?_)
 refine zA (uI 0 9 sc235 rfl rfl rfl rfl ?_)
 refine oO 3 rfl (zB fo342_1 rfl rfl ?_)
 refine zA (zG 0 (M' := [HA.blk _ [_, _, _] _]) rfl rfl rfl rfl si235 rfl rfl rfl ?_)
 refine oK 1 [0, 1, 3] rfl rfl (rO 8 rfl ?_)
 refine yP (s := e + lp) rfl rfl rfl rfl (by omega) (by omega) (zA ?_)
 refine yP (s := e + lp + 3) rfl rfl rfl rfl (by omega) (by omega) (zA ?_)
 refine tT (s := (s : Int)) rfl rfl hs.symm (by omega) (by omega) (oO 3 rfl ?_)
 refine zB fo342_2 rfl rfl (zA ?_)
 refine zG 0 (M' := [HA.blk _ [_, _, _] _]) rfl rfl rfl rfl si3 rfl rfl rfl (oK 1 [] rfl rfl ?_)
 exact pM Tryz.results296 ⟨rfl, rfl, rfl⟩ (List.Sublist.refl _) (fun _ h => by cases h)
set_option maxHeartbeats 1000000 in
theorem c297 (pb x hi s q : Nat) (hx : x < 18446744073709551616) (hh : hi < 18446744073709551616) (hs : s < 64) (hq : q * 2 ^ s < 18446744073709551616) (h : x * hi = q * 2 ^ s * 18446744073709551616) : Ct Tryz.prog 297 #[.int .u64 (x : Int), .pointer (some ⟨pb, 0, none⟩)] [scB pb hi s] [] (fun u M' D' => u = .int .u64 (q : Int) ∧ M' = [] ∧ D' = []) := by
 refine Ct.of_run (args := [.int .u64 (x : Int), .pointer (some ⟨pb, 0, none⟩)]) Tryz.func297 (by kernel_rfl) rfl Tryz.ntmps297 rfl (fun c => ?_)
 have hp : 0 < 2 ^ s := Nat.two_pow_pos s
 have hql : q ≤ q * 2 ^ s := Nat.le_mul_of_pos_right _ hp
 have e1 : x * hi / 18446744073709551616 = q * 2 ^ s := by rw [h]; omega
 have e2 : x * hi % 18446744073709551616 = 0 := by rw [h]; omega
 have e3 : q * 2 ^ s / 2 ^ s = q := Nat.mul_div_cancel _ hp
 refine rO 14 rfl (zB fo342_0 rfl rfl ?_)
 refine zA (zI 0 sc235 rfl rfl rfl rfl ?_)
 refine zA (zJ rfl rfl rfl (c318 x hi hx hh) sub0 ?_)
 rw [e1, e2]
 refine oK 11 [6, 5, 0, 1] rfl rfl (rO 7 rfl ?_)
 refine zB fo342_2 rfl rfl (zA ?_)
 refine zI 0 sc3 rfl rfl rfl rfl (zA ?_)
 refine op_bin (bin_andI (m := s) (m' := 63) (r := s) (by omega) (by omega) (and63 hs)) rfl rfl rfl (oO 11 rfl ?_)
 refine op_bin (bin_shrU (m := q * 2 ^ s) (s := s) (r := q) (by omega) e3) rfl rfl rfl (oO 3 rfl ?_)
 refine op_shlU (m := q) (s := s) (r := q * 2 ^ s) rfl rfl rfl (by omega) rfl hq (oO 3 rfl ?_)
 refine uR rfl rfl rfl (oK 1 [30, 7, 6, 5, 0, 1] rfl rfl ?_)
 refine yO rfl (decide_eq_false (fun h => h rfl)) (rO 10 rfl ?_)
 refine zB fo342_1 rfl rfl (zA ?_)
 refine zI 0 sc235 rfl rfl rfl rfl (zA ?_)
 refine zJ rfl rfl rfl (c318 x 0 hx (by omega)) sub0 ?_
 rw [Nat.mul_zero]
 refine oK 11 [8, 7, 6, 5] rfl rfl (rO 9 rfl ?_)
 refine vF rfl rfl rfl (zA ?_)
 refine zJ rfl rfl rfl (c274 false) sub0 (zA ?_)
 refine op_bin (bin_subU (m := q * 2 ^ s) (m' := 0) (r := q * 2 ^ s) (by omega) rfl hq) rfl rfl rfl (oR 4 rfl ?_)
 refine yU yG (zQ ?_)
 refine tP 0 rfl wanted0 (zU rfl) (tP 1 rfl wanted0 (zU rfl) ?_)
 refine tP 3 rfl wanted0 (zU rfl) (tP 4 rfl wanted0 (zU rfl) ?_)
 refine yD (tM 2 rfl wanted0 (tL (bin_shrU (m := q * 2 ^ s) (s := s) (r := q) (by omega) e3) rfl rfl) ?_)
 refine tM 5 rfl wanted0 (tL (bin_subU (m := 0) (m' := 0) (r := 0) (by omega) (Eq.refl _) (by omega)) rfl rfl) (tM 6 rfl wanted0 (tL (v := .bool false) (fun w => rfl) rfl rfl) ?_)
 refine zN 7 (by decide +kernel) ?_
 refine zO (I2 := [[2], [1, 0], []]) rfl wanted0 (by decide +kernel) (fun Kd hKd => ?_)
 refine zJ rfl rfl rfl (c274 false) sub0 (hKd _ _ _ (hC (hC (zE (zP)))) ?_)
 refine yD (tM 8 rfl wanted0 (tL (bin_orU (m := q) (m' := 0) (r := q) (by omega) (by omega) (Nat.or_zero q)) rfl rfl) ?_)
 refine zQ (tP 9 rfl wanted0 (yY rfl) ?_)
 refine yH (by decide +kernel) (rK 0 [4] rfl rfl ?_)
 exact zC Tryz.results297 rfl ⟨rfl, rfl, rfl⟩ nS (fun _ h => by cases h)
end Go.Jw

namespace Go.Jw
open Go Go.RowKit Go.Proofs
set_option maxRecDepth 8000
open Go.Lib Go.Sort
abbrev u8V (l : List UInt8) : List Value := l.map fun b => .int .u8 (b.toNat : Int)
abbrev z8 (n : Nat) : List Value := List.replicate n (.int .u8 0)
theorem fun221 : Fun Tryz.prog 221 := ⟨_, Tryz.func221, by kernel_rfl, rfl⟩
theorem c221 (b T nd D : Nat) (hnd : nd = nDigits D) (hD : D < 18446744073709551616) (h24 : nd ≤ 24) :
    Ct Tryz.prog 221 #[.slice (some ⟨b, 0, none⟩) nd 24, .int .u64 (D : Int)] [.blk b (z8 24) T] [] (fun u M' D' => u = .tuple #[] ∧ M' = [.blk b (u8V (decDigits D) ++ z8 (24 - nd)) T] ∧ D' = []) := by
  refine ⟨fun221, fun w ok hok hM hn hDD => ?_⟩
  have hb : w.heap[b]? = some (.cells (z8 24).toArray T (0, 0)) := hM _ List.mem_cons_self
  have hsz : (Array.replicate nd (0 : UInt8)).size = nd := by simp
  have hH : Holds (fun (x : UInt8) => Value.int .u8 (x.toNat : Int)) w b 0 (Array.replicate nd (0 : UInt8)) := fun j hj => by
    have hj' : j < nd := by simpa using hj
    constructor
    · unfold World.cell?
      simp only [hb, Nat.zero_add]
      rw [getElem!_pos _ j hj]
      simp [show j < 24 by omega]
    · unfold World.frozen?
      simp [hb]
  have hc := Tryz.internal_strconv_formatBase10 b 0 24 D (Array.replicate nd 0) w hH (by rw [hsz, hnd]; exact lt_pow_nDigits D) hD (by rw [hsz]; omega)
  rw [hsz] at hc
  refine hc.mono ?_
  rintro e w' ⟨rfl, n, v', dk, rfl, hf⟩
  have hheap : ((putRow (fun (x : UInt8) => Value.int .u8 (x.toNat : Int)) w b 0 dk).drewN n).heap = w.heap.modify b (onCells (putCells (fun (x : UInt8) => Value.int .u8 (x.toNat : Int)) 0 dk)) := rfl
  have hcells : putCells (fun (x : UInt8) => Value.int .u8 (x.toNat : Int)) 0 dk (z8 24).toArray = (u8V (decDigits D) ++ z8 (24 - nd)).toArray := by
    have hdl : (decDigits D).length = nd := by rw [decDigits_length, hnd]
    apply Array.ext_getElem?
    intro k
    unfold putCells
    rw [Array.getElem?_mapIdx, List.getElem?_toArray, List.getElem?_toArray]
    by_cases hk : k < nd
    · rw [List.getElem?_append_left (by simpa [hdl] using hk), List.getElem?_map, List.getElem?_eq_getElem (by omega : k < (decDigits D).length), row_is_numeral (by rw [← hnd]; exact hf) k (by omega)]
      simp [z8, List.getElem?_replicate, show k < 24 by omega, hf.size, hk]
    · rw [List.getElem?_append_right (by simp [hdl]; omega)]
      simp only [List.length_map, hdl, z8, List.getElem?_replicate]
      by_cases hk2 : k < 24
      · simp [hk2, hf.size, hk, show k - nd < 24 - nd by omega]
      · simp [hk2, show ¬ k - nd < 24 - nd by omega]
  refine ⟨_, [.blk b (u8V (decDigits D) ++ z8 (24 - nd)) T], [], rfl, ⟨rfl, rfl, rfl⟩, ⟨rfl, rfl, rfl, ?_, fun k hk hF => ?_⟩, ?_, by simp [foots, HA.foot], by simp [foots, HA.foot], by simp⟩
  · rw [hheap]; simp
  · rw [hheap, Array.getElem?_modify, if_neg (fun h => hF (by simp [foots, HA.foot, h]))]
  · intro h hh
    rcases List.mem_singleton.1 hh with rfl
    show _ = _
    rw [hheap, Array.getElem?_modify, if_pos rfl, hb]
    simp only [Option.map_some, onCells, hcells]
theorem blk_add {F : List Nat} {c : Ctx F} {M : List HA} {D : List DA} {w : World} (h : FitsW c M D w) {j b i T : Nat} {cs : List Value} {v : Value} (hj : M[j]? = some (.blk b cs T)) (hv : cs[i]? = some v) : w.cell? ((⟨b, 0, none⟩ : Addr).add (i * 1)) = some v := by
 have hb : w.heap[b]? = some (.cells cs.toArray T (0, 0)) := h.own _ (List.mem_of_getElem? hj)
 rw [Nat.mul_one, add_plain, Nat.zero_add]
 rw [uJ hb]
 exact hv
def dgOf (L : Nat) : Nat := if 2 ≤ L then 7 + ((L - 1) * 78913) / 262144 else 7
def pOf (L : Nat) : Nat := if 2 ≤ L then dgOf L - 1 - ((L - 2) * 78913) / 262144 else 7
theorem dg_tab : ∀ L : Fin 30, 7 ≤ dgOf L.val ∧ dgOf L.val ≤ 15 ∧ (pOf L.val = 6 ∨ pOf L.val = 7) ∧ ((pOf L.val : Nat) : Int) = (dgOf L.val : Int) - 1 - (((L.val : Int) - 2) * 78913).fdiv (2 ^ 18) ∧ 2 ^ (L.val + 1) * 1000000 ≤ 4 * 10 ^ dgOf L.val ∧
  (2 ≤ L.val → (dgOf L.val : Int) = 1 + (((L.val : Int) - 1) * 78913).fdiv (2 ^ 18) + 6) ∧ (¬ 2 ≤ L.val → (7 : Int) = 1 + 6 - ((2 - (L.val : Int)) * 78913).fdiv (2 ^ 18)) := by decide +kernel
theorem pow_split {a b c d : Nat} (h : a + b = c + d) : 2 ^ a * 2 ^ b = 2 ^ c * 2 ^ d := by rw [← Nat.pow_add, ← Nat.pow_add, h]
structure FmtN (N L : Nat) : Prop where
 n0 : 0 < N
 n9 : N < 1000000000
 lo : 2 ^ L ≤ N
 hi : N < 2 ^ (L + 1)
 l29 : L < 30
theorem fmtN {N : Nat} (h0 : 0 < N) (h9 : N < 1000000000) : FmtN N N.log2 := by
 have h1 := Nat.log2_self_le (Nat.ne_of_gt h0)
 refine ⟨h0, h9, h1, Nat.lt_log2_self, ?_⟩
 exact (Nat.log2_lt (Nat.ne_of_gt h0)).2 (by omega)
theorem FmtN.tab {N L : Nat} (h : FmtN N L) : 7 ≤ dgOf L ∧ dgOf L ≤ 15 ∧ (pOf L = 6 ∨ pOf L = 7) ∧ ((pOf L : Nat) : Int) = (dgOf L : Int) - 1 - (((L : Int) - 2) * 78913).fdiv (2 ^ 18) ∧ 2 ^ (L + 1) * 1000000 ≤ 4 * 10 ^ dgOf L ∧
  (2 ≤ L → (dgOf L : Int) = 1 + (((L : Int) - 1) * 78913).fdiv (2 ^ 18) + 6) ∧ (¬ 2 ≤ L → (7 : Int) = 1 + 6 - ((2 - (L : Int)) * 78913).fdiv (2 ^ 18)) := dg_tab ⟨L, h.l29⟩
theorem FmtN.mul {N L : Nat} (h : FmtN N L) (P k s : Nat) (hs : s + L + 1 = k) (hk : k ≤ 44) : N * 2 ^ (63 - L) * (P * 2 ^ k) = N * P * 2 ^ s * 18446744073709551616 := by
  have := h.l29
  have e := pow_split (a := 63 - L) (b := k) (c := s) (d := 64) (by omega)
  calc N * 2 ^ (63 - L) * (P * 2 ^ k) = N * P * (2 ^ (63 - L) * 2 ^ k) := by ac_rfl
    _ = N * P * (2 ^ s * 2 ^ 64) := by rw [e]
    _ = N * P * 2 ^ s * 18446744073709551616 := by rw [← Nat.mul_assoc]
theorem FmtN.up {N L : Nat} (h : FmtN N L) : N * 2 ^ (63 - L) < 18446744073709551616 := by
 have := h.l29
 have e := pow_split (a := L + 1) (b := 63 - L) (c := 64) (d := 0) (by omega)
 have := Nat.mul_lt_mul_of_pos_right h.hi (Nat.two_pow_pos (63 - L))
 omega
theorem FmtN.fits {N L : Nat} (h : FmtN N L) (s k : Nat) (hs : s + L + 1 = k) : N * 2 ^ s < 2 ^ k := by
 have e := pow_split (a := L + 1) (b := s) (c := k) (d := 0) (by omega)
 have := Nat.mul_lt_mul_of_pos_right h.hi (Nat.two_pow_pos s)
 omega
theorem FmtN.small {N L : Nat} (h : FmtN N L) : N * 1000000 + 2 < 4 * 10 ^ dgOf L := by
 have h1 := h.tab.2.2.2.2.1
 have h2 := h.hi
 have h3 : (N + 1) * 1000000 ≤ 2 ^ (L + 1) * 1000000 := Nat.mul_le_mul_right _ h2
 have h4 : 2 ^ (L + 1) * 1000000 ≤ 4 * 10 ^ dgOf L := h1
 omega
theorem pow15 {d : Nat} (h : d ≤ 15) : 10 ^ d ≤ 1000000000000000 := Nat.le_trans (Nat.pow_le_pow_right (by omega) h) (by decide)
def uOf (N a : Nat) : Nat := if a = 0 then 4 * (N * 250000) else 10 * (4 * (N * 250000))

set_option maxHeartbeats 1000000 in
theorem c286_6 (fb : Addr) (N L : Nat) (hF : FmtN N L) (hp : pOf L = 6) : CtV Tryz.prog 286 #[.int .u64 ((N * 2 ^ (63 - L) : Nat) : Int), .int .i64 ((L : Int) - 65), .int .i64 ((dgOf L : Nat) : Int), .int .i64 6, .int .u8 102] [ftD fb] (.tuple #[.int .u64 ((N * 250000 : Nat) : Int), .int .i64 (-6)]) := by
 refine Ct.of_run (args := [.int .u64 ((N * 2 ^ (63 - L) : Nat) : Int), .int .i64 ((L : Int) - 65), .int .i64 ((dgOf L : Nat) : Int), .int .i64 6, .int .u8 102]) Tryz.func286 (by kernel_rfl) rfl Tryz.ntmps286 rfl (fun c => ?_)
 obtain ⟨d7, d15, _, hpv, hbd, _, _⟩ := hF.tab
 rw [hp] at hpv
 have hl := hF.l29
 have hn9 := hF.n9
 have hsm := hF.small
 have hp15 := pow15 d15
 have hlp : ((6 : Int) * 108853).fdiv (2 ^ 15) = 19 := by decide
 have hfit := hF.fits (43 - L) 44 (by omega)
 have hq1 : (4 * (N * 250000)) * 2 ^ (43 - L) < 18446744073709551616 := by
  have e : (4 * (N * 250000)) * 2 ^ (43 - L) = 1000000 * (N * 2 ^ (43 - L)) := by rw [show (4 * (N * 250000)) = 1000000 * N by omega, Nat.mul_assoc]
  omega
 have hq2 : N * 2 ^ (63 - L) * 17592186044416000000 = (4 * (N * 250000)) * 2 ^ (43 - L) * 18446744073709551616 := by
  have e := hF.mul 1000000 44 (43 - L) (by omega) (by omega)
  rw [show (4 * (N * 250000)) = N * 1000000 by omega]
  exact e
 refine rO 12 rfl (xI (s := ((dgOf L : Nat) : Int) - 1) rfl rfl rfl rfl (by omega) (by omega) ?_)
 refine oO 3 rfl (yP (s := (L : Int) - 2) rfl rfl rfl (by omega) (by omega) (by omega) ?_)
 refine zA (zJ rfl rfl rfl (c242 ((L : Int) - 2) (by omega) (by omega)) sub0 ?_)
 refine zA (xI (s := 6) rfl rfl rfl (by omega) (by omega) (by omega) ?_)
 refine oO 6 rfl (zT ze342 rfl (fun b12 => ?_))
 change RunOps _ _ _ _ _ _ _ _ (HA.blk _ [_, _, _] _ :: _) _
 refine oO 10 rfl (zJ rfl rfl rfl (c295 6 (by omega) (by omega)) sub0 ?_)
 refine zA ?_
 refine xF 0 rfl rfl rfl (c296_6 fb b12 (43 - L) ((L : Int) - 65) (((6 : Int) * 108853).fdiv (2 ^ 15)) [] (by rw [hlp]; omega) (by omega) (by omega) (by rw [hlp]; omega) (by rw [hlp]; omega) _ _ _) rfl (sub1 0 rfl) (fun u24 M24 D24 hv24 => ?_)
 obtain ⟨rfl, rfl, rfl⟩ := hv24
 refine oK 1 [12, 11, 0, 2, 3, 4] rfl rfl (rO 5 rfl ?_)
 refine xF 0 rfl rfl rfl (c297 b12 (N * 2 ^ (63 - L)) 17592186044416000000 (43 - L) (4 * (N * 250000)) hF.up (by omega) (by omega) hq1 hq2) rfl sub0 (fun u26 M26 D26 hv26 => ?_)
 obtain ⟨rfl, rfl, rfl⟩ := hv26
 refine oO 11 rfl (sJ (i := dgOf L) Tryz.underlying270 si235 rfl rfl rfl (by omega) ?_)
 refine zA (yN sc235 rfl rfl (fun _ h => ft_p10 h (j := 0) rfl (by omega)) ?_)
 refine zA (zJ rfl rfl rfl (c298 (10 ^ dgOf L) (Nat.pow_pos (by omega)) (by omega)) sub0 ?_)
 refine zA (qJ rfl rfl rfl ?_)
 refine oK 1 [32, 13, 11, 3, 4] rfl rfl (yO rfl (decide_eq_false (by omega)) ?_)
 refine rK 11 [13, 11, 3] rfl rfl ?_
 refine xP 2 (fun (a : Nat) => a ≤ 1) (fun (a : Nat) => [(13, .int .u64 ((uOf N a : Nat) : Int)), (11, .int .i64 ((6 + a : Nat) : Int))]) (fun (a : Nat) => a) 0 ((by show 0 ≤ 1; omega)) (eC rfl (eC rfl (eN _))) ?_ (eC rfl (eN _))
 intro a hI K hK
 change Run _ _ _ _ _ [(13, _), (11, _), (3, _)] _ _
 replace hI : a ≤ 1 := hI
 refine rO 8 rfl (wJ rfl rfl rfl ?_)
 refine yK (zM rfl (fun h41 => ?_) (fun h41 => ?_))
 ·obtain rfl : a = 1 := by omega
  refine rO 7 rfl (zJ rfl rfl rfl (c309 (4 * (N * 250000)) (by omega)) sub0 ?_)
  refine oO 7 rfl (xI (s := 6) rfl rfl rfl rfl (by omega) (by omega) ?_)
  refine oR 4 rfl ?_
  exact kQ (hK 0 ((by show 0 ≤ 1; omega)) (by show 0 < 1; omega))
 obtain rfl : a = 0 := by omega
 refine rO 6 rfl (zJ rfl rfl rfl (c300 (N * 250000) (by omega)) sub0 ?_)
 refine oO 3 rfl (tT (s := -6) rfl rfl rfl (by omega) (by omega) ?_)
 refine oK 5 [11, 10] rfl rfl ?_
 exact tU Tryz.results286 rfl rfl ⟨rfl, rfl, rfl⟩ nS (fun _ h => by cases h)
set_option maxHeartbeats 1000000 in
theorem c286_7 (fb : Addr) (N L : Nat) (hF : FmtN N L) (hp : pOf L = 7) : CtV Tryz.prog 286 #[.int .u64 ((N * 2 ^ (63 - L) : Nat) : Int), .int .i64 ((L : Int) - 65), .int .i64 ((dgOf L : Nat) : Int), .int .i64 6, .int .u8 102] [ftD fb] (.tuple #[.int .u64 ((N * 250000 : Nat) : Int), .int .i64 (-6)]) := by
 refine Ct.of_run (args := [.int .u64 ((N * 2 ^ (63 - L) : Nat) : Int), .int .i64 ((L : Int) - 65), .int .i64 ((dgOf L : Nat) : Int), .int .i64 6, .int .u8 102]) Tryz.func286 (by kernel_rfl) rfl Tryz.ntmps286 rfl (fun c => ?_)
 obtain ⟨d7, d15, _, hpv, hbd, _, _⟩ := hF.tab
 rw [hp] at hpv
 have hl := hF.l29
 have hn9 := hF.n9
 have hsm := hF.small
 have hp15 := pow15 d15
 have hlp : ((7 : Int) * 108853).fdiv (2 ^ 15) = 23 := by decide
 have hfit := hF.fits (39 - L) 40 (by omega)
 have hq1 : (10 * (4 * (N * 250000))) * 2 ^ (39 - L) < 18446744073709551616 := by
  have e : (10 * (4 * (N * 250000))) * 2 ^ (39 - L) = 10000000 * (N * 2 ^ (39 - L)) := by rw [show (10 * (4 * (N * 250000))) = 10000000 * N by omega, Nat.mul_assoc]
  omega
 have hq2 : N * 2 ^ (63 - L) * 10995116277760000000 = (10 * (4 * (N * 250000))) * 2 ^ (39 - L) * 18446744073709551616 := by
  have e := hF.mul 10000000 40 (39 - L) (by omega) (by omega)
  rw [show (10 * (4 * (N * 250000))) = N * 10000000 by omega]
  exact e
 refine rO 12 rfl (xI (s := ((dgOf L : Nat) : Int) - 1) rfl rfl rfl rfl (by omega) (by omega) ?_)
 refine oO 3 rfl (yP (s := (L : Int) - 2) rfl rfl rfl (by omega) (by omega) (by omega) ?_)
 refine zA (zJ rfl rfl rfl (c242 ((L : Int) - 2) (by omega) (by omega)) sub0 ?_)
 refine zA (xI (s := 7) rfl rfl rfl (by omega) (by omega) (by omega) ?_)
 refine oO 6 rfl (zT ze342 rfl (fun b12 => ?_))
 change RunOps _ _ _ _ _ _ _ _ (HA.blk _ [_, _, _] _ :: _) _
 refine oO 10 rfl (zJ rfl rfl rfl (c295 7 (by omega) (by omega)) sub0 ?_)
 refine zA ?_
 refine xF 0 rfl rfl rfl (c296_7 fb b12 (39 - L) ((L : Int) - 65) (((7 : Int) * 108853).fdiv (2 ^ 15)) [] (by rw [hlp]; omega) (by omega) (by omega) (by rw [hlp]; omega) (by rw [hlp]; omega) _ _ _) rfl (sub1 0 rfl) (fun u24 M24 D24 hv24 => ?_)
 obtain ⟨rfl, rfl, rfl⟩ := hv24
 refine oK 1 [12, 11, 0, 2, 3, 4] rfl rfl (rO 5 rfl ?_)
 refine xF 0 rfl rfl rfl (c297 b12 (N * 2 ^ (63 - L)) 10995116277760000000 (39 - L) (10 * (4 * (N * 250000))) hF.up (by omega) (by omega) hq1 hq2) rfl sub0 (fun u26 M26 D26 hv26 => ?_)
 obtain ⟨rfl, rfl, rfl⟩ := hv26
 refine oO 11 rfl (sJ (i := dgOf L) Tryz.underlying270 si235 rfl rfl rfl (by omega) ?_)
 refine zA (yN sc235 rfl rfl (fun _ h => ft_p10 h (j := 0) rfl (by omega)) ?_)
 refine zA (zJ rfl rfl rfl (c298 (10 ^ dgOf L) (Nat.pow_pos (by omega)) (by omega)) sub0 ?_)
 refine zA (qJ rfl rfl rfl ?_)
 refine oK 1 [32, 13, 11, 3, 4] rfl rfl (zM rfl (fun h32 => ?_) (fun h32 => ?_))
 ·refine rO 5 rfl (zJ rfl rfl rfl (c309 (4 * (N * 250000)) (by omega)) sub0 ?_)
  refine oO 7 rfl (xI (s := 6) rfl rfl rfl rfl (by omega) (by omega) ?_)
  refine oK 13 [13, 11, 3] rfl rfl ?_
  refine xP 2 (fun (a : Nat) => a ≤ 1) (fun (a : Nat) => [(13, .int .u64 ((uOf N a : Nat) : Int)), (11, .int .i64 ((6 + a : Nat) : Int))]) (fun (a : Nat) => a) 0 ((by show 0 ≤ 1; omega)) (eC rfl (eC rfl (eN _))) ?_ (eC rfl (eN _))
  intro a hI K hK
  change Run _ _ _ _ _ [(13, _), (11, _), (3, _)] _ _
  replace hI : a ≤ 1 := hI
  refine rO 8 rfl (wJ rfl rfl rfl ?_)
  refine yK (zM rfl (fun h41 => ?_) (fun h41 => ?_))
  ·obtain rfl : a = 1 := by omega
   refine rO 7 rfl (zJ rfl rfl rfl (c309 (4 * (N * 250000)) (by omega)) sub0 ?_)
   refine oO 7 rfl (xI (s := 6) rfl rfl rfl rfl (by omega) (by omega) ?_)
   refine oR 4 rfl ?_
   exact kQ (hK 0 ((by show 0 ≤ 1; omega)) (by show 0 < 1; omega))
  obtain rfl : a = 0 := by omega
  refine rO 6 rfl (zJ rfl rfl rfl (c300 (N * 250000) (by omega)) sub0 ?_)
  refine oO 3 rfl (tT (s := -6) rfl rfl rfl (by omega) (by omega) ?_)
  refine oK 5 [11, 10] rfl rfl ?_
  exact tU Tryz.results286 rfl rfl ⟨rfl, rfl, rfl⟩ nS (fun _ h => by cases h)
 refine rK 11 [13, 11, 3] rfl rfl ?_
 refine xP 2 (fun (a : Nat) => a ≤ 1) (fun (a : Nat) => [(13, .int .u64 ((uOf N a : Nat) : Int)), (11, .int .i64 ((6 + a : Nat) : Int))]) (fun (a : Nat) => a) 1 ((by show 1 ≤ 1; omega)) (eC rfl (eC rfl (eN _))) ?_ (eC rfl (eN _))
 intro a hI K hK1
 change Run _ _ _ _ _ [(13, _), (11, _), (3, _)] _ _
 replace hI : a ≤ 1 := hI
 refine rO 8 rfl (wJ rfl rfl rfl ?_)
 refine yK (zM rfl (fun h41 => ?_) (fun h41 => ?_))
 ·obtain rfl : a = 1 := by omega
  refine rO 7 rfl (zJ rfl rfl rfl (c309 (4 * (N * 250000)) (by omega)) sub0 ?_)
  refine oO 7 rfl (xI (s := 6) rfl rfl rfl rfl (by omega) (by omega) ?_)
  refine oR 4 rfl ?_
  exact kQ (hK1 0 ((by show 0 ≤ 1; omega)) (by show 0 < 1; omega))
 obtain rfl : a = 0 := by omega
 refine rO 6 rfl (zJ rfl rfl rfl (c300 (N * 250000) (by omega)) sub0 ?_)
 refine oO 3 rfl (tT (s := -6) rfl rfl rfl (by omega) (by omega) ?_)
 refine oK 5 [11, 10] rfl rfl ?_
 exact tU Tryz.results286 rfl rfl ⟨rfl, rfl, rfl⟩ nS (fun _ h => by cases h)
end Go.Jw

namespace Go.Jw
open Go Go.RowKit Go.Proofs
set_option maxRecDepth 8000
open Go.Lib
def sgL (neg : Bool) : List UInt8 := if neg then [45] else []
def ipL (N : Nat) : List UInt8 := if N / 4 = 0 then [] else decDigits (N / 4)
def frL (N : Nat) : List UInt8 := if N % 4 = 1 then [50, 53, 48, 48, 48, 48] else if N % 4 = 2 then [53, 48, 48, 48, 48, 48] else [55, 53, 48, 48, 48, 48]
def kq (N : Nat) : Nat := if N % 4 = 2 then 1 else 2
theorem frL_len (N : Nat) : (frL N).length = 6 := by
 unfold frL; split
 ·rfl
 ·split <;> rfl
theorem kq_le (N : Nat) : 1 ≤ kq N ∧ kq N ≤ 2 := by unfold kq; split <;> omega
theorem dec_step {u d : Nat} (h : 1 ≤ u) (hd : d < 10) : decDigits (10 * u + d) = decDigits u ++ [UInt8.ofNat (48 + d)] := by
 rw [decDigits, dif_neg (by omega), show (10 * u + d) / 10 = u by omega, show (10 * u + d) % 10 = d by omega]
theorem dec_one {u : Nat} (h : u < 10) : decDigits u = [UInt8.ofNat (48 + u)] := by rw [decDigits, dif_pos h]
theorem dec_0 {u : Nat} (h : 1 ≤ u) : decDigits (10 * u) = decDigits u ++ [48] := dec_step (d := 0) h (by omega)
theorem dec_0000 {u : Nat} (h : 1 ≤ u) : decDigits (10 * (10 * (10 * (10 * u)))) = decDigits u ++ [48, 48, 48, 48] := by
 have h1 : 1 ≤ 10 * u := by omega
 have h2 : 1 ≤ 10 * (10 * u) := by omega
 have h3 : 1 ≤ 10 * (10 * (10 * u)) := by omega
 rw [dec_0 h3, dec_0 h2, dec_0 h1, dec_0 h]
 simp
theorem q_mul (a q : Nat) : (4 * a + q) * 250000 = 1000000 * a + q * 250000 := by rw [Nat.add_mul, Nat.mul_right_comm]
theorem q_ten {a q r1 r2 : Nat} (he : r1 * 100000 + r2 * 10000 = q * 250000) : 1000000 * a + q * 250000 = 10 * (10 * (10 * (10 * (10 * (10 * a + r1) + r2)))) := by omega
theorem dec_quart (N : Nat) (h : 0 < N % 4) : decDigits (N * 250000) = ipL N ++ frL N := by
 have hd := Nat.div_add_mod N 4
 have h4 : N % 4 < 4 := Nat.mod_lt _ (by omega)
 unfold ipL frL
 generalize hq : N % 4 = q at *
 generalize ha : N / 4 = a at *
 have hN : N = 4 * a + q := by omega
 subst hN
 have key : ∀ r1 r2 : Nat, r1 < 10 → r2 < 10 → r1 * 100000 + r2 * 10000 = q * 250000 → 1 ≤ r1 → decDigits ((4 * a + q) * 250000) = (if a = 0 then [] else decDigits a) ++ [UInt8.ofNat (48 + r1), UInt8.ofNat (48 + r2), 48, 48, 48, 48] := by
  intro r1 r2 h1 h2 he h3
  have e1 : (4 * a + q) * 250000 = 10 * (10 * (10 * (10 * (10 * (10 * a + r1) + r2)))) := (q_mul a q).trans (q_ten he)
  rw [e1, dec_0000 (show 1 ≤ 10 * (10 * a + r1) + r2 by omega), dec_step (show 1 ≤ 10 * a + r1 by omega) h2]
  split
  ·rename_i h0
   subst h0
   rw [Nat.mul_zero, Nat.zero_add, dec_one h1]
   rfl
  ·rename_i h0
   rw [dec_step (show 1 ≤ a by omega) h1]
   simp
 have h3 : q = 1 ∨ q = 2 ∨ q = 3 := by omega
 rcases h3 with rfl | rfl | rfl
 ·exact key 2 5 (by omega) (by omega) (by omega) (by omega)
 ·exact key 5 0 (by omega) (by omega) (by omega) (by omega)
 ·exact key 7 5 (by omega) (by omega) (by omega) (by omega)
theorem ipL_len {N : Nat} (h9 : N < 1000000000) : (ipL N).length ≤ 9 := by
 unfold ipL
 split
 ·simp
 ·rw [decDigits_length]; exact nDigits_le (by omega) (by omega)
theorem nd_quart {N : Nat} (h : 0 < N % 4) : nDigits (N * 250000) = (ipL N).length + 6 := by rw [← decDigits_length, dec_quart N h, List.length_append, frL_len]
theorem fr_at (N : Nat) (h : 0 < N % 4) (j : Nat) (hj : j < 6) : ∃ c : UInt8, (frL N)[j]? = some c ∧ (c.toNat = 48 ↔ kq N ≤ j) := by
 have h4 : N % 4 < 4 := Nat.mod_lt _ (by omega)
 unfold frL kq
 have hj6 : j = 0 ∨ j = 1 ∨ j = 2 ∨ j = 3 ∨ j = 4 ∨ j = 5 := by omega
 rcases (show N % 4 = 1 ∨ N % 4 = 2 ∨ N % 4 = 3 by omega) with hq | hq | hq <;> rw [hq] <;> rcases hj6 with rfl | rfl | rfl | rfl | rfl | rfl <;> exact ⟨_, rfl, by decide⟩
abbrev bufL (N : Nat) : List Value := u8V (ipL N ++ frL N) ++ z8 (24 - ((ipL N).length + 6))
theorem buf_fr {N : Nat} (h : 0 < N % 4) {j : Nat} (hj : j < 6) : ∃ c : UInt8, (frL N)[j]? = some c ∧ (bufL N)[(ipL N).length + j]? = some (.int .u8 (c.toNat : Int)) ∧ (c.toNat = 48 ↔ kq N ≤ j) := by
 obtain ⟨c, h1, h2⟩ := fr_at N h j hj
 refine ⟨c, h1, ?_, h2⟩
 unfold bufL
 rw [List.getElem?_append_left (by rw [List.length_map, List.length_append, frL_len]; omega), List.getElem?_map, List.getElem?_append_right (by omega), Nat.add_sub_cancel_left, h1]
 rfl
theorem buf_ip {N : Nat} {j : Nat} (hj : j < (ipL N).length) : (bufL N)[j]? = some (.int .u8 ((ipL N)[j].toNat : Int)) := by
 unfold bufL
 rw [List.getElem?_append_left (by rw [List.length_map, List.length_append]; omega), List.getElem?_map, List.getElem?_append_left hj, List.getElem?_eq_getElem hj]
 rfl
theorem buf_m {N m : Nat} (h : 0 < N % 4) (h1 : (ipL N).length + kq N ≤ m) (h2 : m ≤ (ipL N).length + 6) : ∃ c : UInt8, (bufL N)[m - 1]? = some (.int .u8 (c.toNat : Int)) ∧ (c.toNat = 48 ↔ (ipL N).length + kq N < m) := by
 have hk := kq_le N
 obtain ⟨c, _, h3, h4⟩ := buf_fr (N := N) h (j := m - 1 - (ipL N).length) (by omega)
 rw [show (ipL N).length + (m - 1 - (ipL N).length) = m - 1 by omega] at h3
 exact ⟨c, h3, by rw [h4]; omega⟩
theorem u8_snoc (l : List UInt8) (b : UInt8) : u8V l ++ [.int .u8 (b.toNat : Int)] = u8V (l ++ [b]) := by simp
section rules
variable {P : Program} {n : Nat} {F : List Nat} {c : Ctx F} {k : List KI} {Q : Post} {e : Env} {M : List HA} {D : List DA}
theorem tE (i : Nat) {A : Option Addr} {m cap U sz : Nat} {xs ys : List Value} (hi : M[i]? = some (.row A m cap U sz xs)) (h : xs = ys) (next : Run P n c k Q e (M.set i (.row A m cap U sz ys)) D) : Run P n c k Q e M D := by
 subst h
 have : M.set i (.row A m cap U sz xs) = M := by
  apply List.ext_getElem?
  intro j
  rw [List.getElem?_set]
  split
  ·rename_i hj
   subst hj
   split
   ·exact hi.symm
   ·rename_i h2
    rw [List.getElem?_eq_none (by omega)]
  ·rfl
 rwa [this] at next
end rules

theorem c285 (b T N : Nat) (hq : 0 < N % 4) (h9 : N < 1000000000) : Ct Tryz.prog 285 #[.slice (some ⟨b, 0, none⟩) 24 24, .int .u64 ((N * 250000 : Nat) : Int), .int .i64 (-6), .int .i64 (((ipL N).length + 6 : Nat) : Int)] [.blk b (z8 24) T] [] (fun u M' D' => u = .tuple #[.int .i64 (((ipL N).length : Nat) : Int), .int .i64 (((ipL N).length + kq N : Nat) : Int)] ∧ M' = [.blk b (bufL N) T] ∧ D' = []) := by
 refine Ct.of_run (args := [.slice (some ⟨b, 0, none⟩) 24 24, .int .u64 ((N * 250000 : Nat) : Int), .int .i64 (-6), .int .i64 (((ipL N).length + 6 : Nat) : Int)]) Tryz.func285 (by kernel_rfl) rfl Tryz.ntmps285 rfl (fun c => ?_)
 have hil := ipL_len h9
 have hk := kq_le N
 refine rO 15 rfl (zZ sl142 rfl rfl ?_)
 refine zA (op_leq rfl rfl rfl ?_)
 refine yK (wF rfl (decide_eq_true (by omega)) ?_)
 refine rO 7 rfl (op_sliceHi (h := (ipL N).length + 6) sl142 rfl rfl rfl (by omega) (by omega) ?_)
 refine oO 3 rfl ?_
 refine xF 0 rfl rfl rfl (c221 b T ((ipL N).length + 6) (N * 250000) (nd_quart hq).symm (by omega) (by omega)) rfl sub0 (fun u18 M18 D18 hv18 => ?_)
 obtain ⟨rfl, rfl, rfl⟩ := hv18
 rw [dec_quart N hq]
 refine oK 1 [0, 2, 3] rfl rfl (rO 7 rfl ?_)
 refine yP (s := (((ipL N).length : Nat) : Int)) rfl rfl rfl (by omega) (by omega) (by omega) (oK 4 [3, 8, 0] rfl rfl ?_)
 refine xP 1 (fun (m : Nat) => (ipL N).length + kq N ≤ m ∧ m ≤ (ipL N).length + 6) (fun (m : Nat) => [(3, .int .i64 ((m : Nat) : Int))]) (fun (m : Nat) => m) ((ipL N).length + 6) (⟨by omega, Nat.le_refl _⟩) (eC rfl (eN _)) ?_ (eC rfl (eC rfl (eN _)))
 intro m hI K hK
 change Run _ _ _ _ _ [(3, _), (8, _), (0, _)] _ _
 obtain ⟨hm1, hm2⟩ := hI
 obtain ⟨cm, hc1, hc2⟩ := buf_m hq hm1 hm2
 refine rO 6 rfl (wJ rfl rfl rfl ?_)
 refine oS 2 rfl (pR (s := 24) rfl (decide_eq_true (by omega)) ?_)
 refine oO 5 rfl (xI (s := ((m - 1 : Nat) : Int)) rfl rfl rfl (by omega) (by omega) (by omega) ?_)
 refine zH rfl rfl (xV sl142 rfl rfl rfl (by omega) ?_)
 refine zH rfl rfl (yN sc5 rfl rfl (fun _ h => blk_add h (j := 0) rfl hc1) ?_)
 refine oK 5 [31, 3, 8, 0] rfl rfl (zM rfl (fun h31 => ?_) (fun h31 => ?_))
 ·have hlt := hc2.1 (by omega)
  refine rO 6 rfl (xI (s := ((m - 1 : Nat) : Int)) rfl rfl rfl (by omega) (by omega) (by omega) ?_)
  refine oR 4 rfl ?_
  exact kQ (hK (m - 1) (⟨by omega, by omega⟩) (by show m - 1 < m; omega))
 obtain rfl : m = (ipL N).length + kq N := by
  rcases Nat.lt_or_eq_of_le hm1 with h | h
  ·exact absurd (hc2.2 h) (by omega)
  ·exact h.symm
 refine rR 12 rfl ?_
 exact tU Tryz.results285 rfl rfl ⟨rfl, rfl, rfl⟩ (List.Sublist.refl _) (fun _ h => by cases h)
theorem ipL_pos {N : Nat} (h : 0 < (ipL N).length) : ipL N = decDigits (N / 4) := by
 unfold ipL at h ⊢
 split
 ·rename_i h0; rw [if_pos h0] at h; simp at h
 ·rfl
theorem ipL_zero {N : Nat} (h : ¬ 0 < (ipL N).length) : decDigits (N / 4) = [48] := by
 have h0 : N / 4 = 0 := Classical.byContradiction fun h0 => h (by
  unfold ipL
  rw [if_neg h0, decDigits_length]
  exact nDigits_pos _)
 rw [h0, dec_one (by omega)]
 rfl
theorem fr_snoc {N k : Nat} (hq : 0 < N % 4) (h1 : kq N ≤ k) (h2 : k < 6) : (frL N).take (k + 1) = (frL N).take k ++ [48] := by
 obtain ⟨c, hf1, hf2⟩ := fr_at N hq k h2
 obtain ⟨hl6, hci⟩ := List.getElem?_eq_some_iff.1 hf1
 rw [List.take_succ_eq_append_getElem hl6, hci]
 have h48 : c.toNat = 48 := hf2.2 h1
 rw [show c = 48 from UInt8.toNat_inj.1 h48]
set_option maxHeartbeats 4000000 in
theorem c283 (b T N c0 : Nat) (A0 : Option Addr) (neg : Bool) (hq : 0 < N % 4) (h9 : N < 1000000000) : Ct Tryz.prog 283 #[.slice A0 0 c0, .bool neg, .slice (some ⟨b, 0, none⟩) 24 24, .int .i64 (((ipL N).length : Nat) : Int), .int .i64 (((ipL N).length + kq N : Nat) : Int), .int .i64 6, .int .u8 102, .bool false] [.row A0 0 c0 5 1 [], .blk b (bufL N) T] [] (fun u M' D' => ∃ A n c, u = .slice A n c ∧ M' = [.row A n c 5 1 (u8V (sgL neg ++ decDigits (N / 4) ++ [46] ++ frL N))] ∧ D' = []) := by
 refine Ct.of_run (args := [.slice A0 0 c0, .bool neg, .slice (some ⟨b, 0, none⟩) 24 24, .int .i64 (((ipL N).length : Nat) : Int), .int .i64 (((ipL N).length + kq N : Nat) : Int), .int .i64 6, .int .u8 102, .bool false]) Tryz.func283 (by kernel_rfl) rfl Tryz.ntmps283 rfl (fun c => ?_)
 have hil := ipL_len h9
 have hk := kq_le N
 refine rS 14 rfl (wB (s := 33) rfl (rfl) ?_)
 refine oK 7 [36, 0, 1, 2, 3, 4, 5, 6, 7] rfl rfl (rK 32 [176, 0, 1, 2, 3, 4, 5, 6] rfl rfl ?_)
 refine rK 7 [178, 0, 2, 3, 4, 5] rfl rfl (run_joinE [2, 3, 4, 5] (fun (⟨A1, n1, c1⟩ : Option Addr × Nat × Nat) => n1 ≤ 1) (fun (⟨A1, n1, c1⟩ : Option Addr × Nat × Nat) => [(0, .slice A1 n1 c1)]) (fun (⟨A1, n1, c1⟩ : Option Addr × Nat × Nat) => HA.row A1 n1 c1 5 1 (u8V (sgL neg)) :: HA.blk b (bufL N) T :: []) (fun (⟨A1, n1, c1⟩ : Option Addr × Nat × Nat) => []) ?_ ?_)
 ·intro K hK
  refine yQ rfl (fun h178 => ?_) (fun h178 => ?_)
  ·refine rO 4 rfl (zK sl142 rfl rfl rfl rfl rfl (fun b180 => ?_))
   refine zA ?_
   refine op_apd 1 0 sl142 (fun A181 c181 => ?_)
   refine oR 3 rfl ?_
   subst h178
   exact kQ (hK (_, _, _) (by show _ ≤ 1; omega)) (eC rfl (eC rfl (eC rfl (eC rfl (eC rfl (eN _)))))) (hD := (by intro d hd; exact hd))
  refine rM ?_
  subst h178
  exact kQ (hK (_, _, _) (by show _ ≤ 1; omega)) (eC rfl (eC rfl (eC rfl (eC rfl (eC rfl (eN _)))))) (hD := (by intro d hd; exact hd))
 intro ⟨A1, n1, c1⟩ hI
 replace hI : n1 ≤ 1 := hI
 change Run _ _ _ _ _ [(0, _), (2, _), (3, _), (4, _), (5, _)] [_, _] ([])
 replace hI : n1 ≤ 1 := hI
 refine rO 6 rfl (wJ rfl rfl rfl ?_)
 refine oK 1 [183, 0, 2, 3, 4, 5] rfl rfl (run_joinE [2, 3, 4, 5] (fun (⟨A2, n2, c2⟩ : Option Addr × Nat × Nat) => n2 ≤ 11) (fun (⟨A2, n2, c2⟩ : Option Addr × Nat × Nat) => [(0, .slice A2 n2 c2)]) (fun (⟨A2, n2, c2⟩ : Option Addr × Nat × Nat) => HA.row A2 n2 c2 5 1 (u8V (sgL neg ++ decDigits (N / 4))) :: HA.blk b (bufL N) T :: []) (fun (⟨A2, n2, c2⟩ : Option Addr × Nat × Nat) => []) ?_ ?_)
 ·intro Kj2 hKj2
  refine zM rfl (fun h183 => ?_) (fun h183 => ?_)
  ·have hip : ipL N = decDigits (N / 4) := ipL_pos (by omega)
   refine rO 7 rfl (op_min (s := (((ipL N).length : Nat) : Int)) rfl rfl rfl (by omega) ?_)
   refine oO 11 rfl (op_sliceHi (h := (ipL N).length) sl142 rfl rfl rfl (by omega) (by omega) ?_)
   refine zA (zZ sl142 rfl rfl ?_)
   refine oK 3 [191, 190, 189, 23, 0, 2, 3, 4, 5] rfl rfl (rK 1 [191, 0, 190, 189, 23, 2, 3, 4, 5] rfl rfl ?_)
   refine tE (ys := u8V (sgL neg ++ (ipL N).take 0)) 0 rfl (by simp) ?_
   refine yS 2 (fun (⟨i, A3, n3, c3⟩ : Nat × Option Addr × Nat × Nat) => i ≤ (ipL N).length ∧ n3 ≤ 1 + i) (fun (⟨i, A3, n3, c3⟩ : Nat × Option Addr × Nat × Nat) => [(191, .int .i64 ((i : Nat) : Int)), (0, .slice A3 n3 c3)]) (fun (⟨i, A3, n3, c3⟩ : Nat × Option Addr × Nat × Nat) => HA.row A3 n3 c3 5 1 (u8V (sgL neg ++ (ipL N).take i)) :: HA.blk b (bufL N) T :: []) (fun (⟨i, A3, n3, c3⟩ : Nat × Option Addr × Nat × Nat) => []) (fun (⟨i, A3, n3, c3⟩ : Nat × Option Addr × Nat × Nat) => (ipL N).length - i) (0, _, _, _) (⟨by show 0 ≤ _; omega, by show _ ≤ _ + 0; omega⟩) (eC rfl (eC rfl (eN _))) rfl rfl ?_ (eC rfl (eC rfl (eC rfl (eC rfl (eC rfl (eC rfl (eC rfl (eN _))))))))
   intro ⟨i, A3, n3, c3⟩ hI K hK
   change Run _ _ _ _ _ [(191, _), (0, _), (190, _), (189, _), (23, _), (2, _), (3, _), (4, _), (5, _)] [_, _] ([])
   obtain ⟨hi1, hi2⟩ := hI
   refine rO 3 rfl (vF rfl rfl rfl ?_)
   refine oR 2 rfl (zM rfl (fun h192 => ?_) (fun h192 => ?_))
   ·have hlt : i < (ipL N).length := by omega
    refine rO 6 rfl (xV sl142 rfl rfl rfl (by omega) ?_)
    refine zA (yN sc5 rfl rfl (fun _ h => blk_add h (j := 1) rfl (buf_ip hlt)) ?_)
    refine oO 9 rfl (zK sl142 rfl rfl rfl rfl rfl (fun b197 => ?_))
    refine zA ?_
    refine op_apd 1 0 sl142 (fun A198 c198 => ?_)
    refine oK 3 [0, 191, 190, 189, 23, 2, 3, 4, 5] rfl rfl (rO 3 rfl ?_)
    refine yL rfl rfl (by omega) (oR 3 rfl ?_)
    refine tE (ys := u8V (sgL neg ++ (ipL N).take (i + 1))) 1 rfl (by rw [u8_snoc, List.append_assoc, ← List.take_succ_eq_append_getElem hlt]) ?_
    exact kQ (hK (i + 1, _, _, _) (⟨by show i + 1 ≤ _; omega, by show _ ≤ _ + (i + 1); omega⟩) (by show (ipL N).length - (i + 1) < (ipL N).length - i; omega)) (eC rfl (eC rfl (eC rfl (eC rfl (eC rfl (eC rfl (eC rfl (eC rfl (eC rfl (eN _))))))))))
   obtain rfl : i = (ipL N).length := by omega
   refine tE (ys := u8V (sgL neg ++ decDigits (N / 4))) 0 rfl (by rw [List.take_length, hip]) (rO 8 rfl ?_)
   refine xI (s := 0) rfl rfl rfl (by omega) (by omega) (by omega) (oK 4 [203, 202, 0, 2, 3, 4, 5] rfl rfl ?_)
   refine xP 1 (fun (z : Nat) => z = 0) (fun (z : Nat) => [(203, .int .i64 ((z : Nat) : Int))]) (fun (z : Nat) => z) 0 (rfl) (eC rfl (eN _)) ?_ (eC rfl (eC rfl (eC rfl (eC rfl (eC rfl (eC rfl (eN _)))))))
   intro z hI K hK1
   change Run _ _ _ _ _ [(203, _), (202, _), (0, _), (2, _), (3, _), (4, _), (5, _)] _ _
   replace hI : z = 0 := hI
   subst hI
   refine rO 3 rfl (vF rfl rfl rfl ?_)
   refine oR 4 rfl ?_
   exact kQ (hKj2 (_, _, _) (by show _ ≤ 11; omega)) (eC rfl (eC rfl (eC rfl (eC rfl (eC rfl (eN _)))))) (hD := (by intro d hd; exact hd))
  have hz0 : sgL neg ++ [48] = sgL neg ++ decDigits (N / 4) := by rw [ipL_zero (by omega)]
  refine rO 4 rfl (zK sl142 rfl rfl rfl rfl rfl (fun b210 => ?_))
  refine zA ?_
  refine op_apd 1 0 sl142 (fun A211 c211 => ?_)
  refine oR 3 rfl (tE (ys := u8V (sgL neg ++ decDigits (N / 4))) 1 rfl ((u8_snoc (sgL neg) 48).trans (congrArg u8V hz0)) ?_)
  exact kQ (hKj2 (_, _, _) (by show _ ≤ 11; omega)) (eC rfl (eC rfl (eC rfl (eC rfl (eC rfl (eN _)))))) (hD := (by intro d hd; exact hd))
 intro ⟨A2, n2, c2⟩ hI
 replace hI : n2 ≤ 11 := hI
 change Run _ _ _ _ _ [(0, _), (2, _), (3, _), (4, _), (5, _)] [_, _] ([])
 replace hI : n2 ≤ 11 := hI
 refine rO 6 rfl (wJ rfl rfl rfl ?_)
 refine oO 7 rfl (zK sl142 rfl rfl rfl rfl rfl (fun b215 => ?_))
 refine zA ?_
 refine op_apd 1 0 sl142 (fun A216 c216 => ?_)
 refine oO 10 rfl (tT (s := -(((ipL N).length : Nat) : Int)) rfl rfl rfl (by omega) (by omega) ?_)
 refine zA (op_max (s := 0) rfl rfl rfl (by omega) ?_)
 refine zA (op_min (s := 0) rfl rfl rfl (by omega) ?_)
 refine oK 3 [26, 0, 2, 3, 4, 5] rfl rfl (rO 7 rfl ?_)
 refine yP (s := (((ipL N).length : Nat) : Int)) rfl rfl rfl (by omega) (by omega) (by omega) (oO 10 rfl ?_)
 refine xI (s := 6) rfl rfl rfl rfl (by omega) (by omega) (oO 5 rfl ?_)
 refine xI (s := ((kq N : Nat) : Int)) rfl rfl rfl (by omega) (by omega) (by omega) (zA ?_)
 refine op_max (s := ((kq N : Nat) : Int)) rfl rfl rfl (by omega) (zA ?_)
 refine op_min (s := ((kq N : Nat) : Int)) rfl rfl rfl (by omega) (oK 3 [28, 27, 26, 0, 2, 5] rfl rfl ?_)
 refine rO 7 rfl (xI (s := 6) rfl rfl rfl rfl (by omega) (by omega) ?_)
 refine oO 3 rfl (xI (s := ((6 - kq N : Nat) : Int)) rfl rfl rfl (by omega) (by omega) (by omega) ?_)
 refine zA (op_max (s := ((6 - kq N : Nat) : Int)) rfl rfl rfl (by omega) ?_)
 refine oK 11 [240, 239, 29, 28, 27, 0, 2] rfl rfl (rK 1 [240, 239, 29, 28, 27, 0, 2] rfl rfl ?_)
 refine tE (ys := u8V (sgL neg ++ decDigits (N / 4) ++ [46])) 1 rfl (u8_snoc _ 46) (xP 1 (fun (z : Nat) => z = 0) (fun (z : Nat) => [(240, .int .i64 ((z : Nat) : Int))]) (fun (z : Nat) => z) 0 (rfl) (eC rfl (eN _)) ?_ (eC rfl (eC rfl (eC rfl (eC rfl (eC rfl (eC rfl (eN _))))))))
 intro z hI K hK2
 change Run _ _ _ _ _ [(240, _), (239, _), (29, _), (28, _), (27, _), (0, _), (2, _)] _ _
 replace hI : z = 0 := hI
 subst hI
 refine rO 3 rfl (vF rfl rfl rfl ?_)
 refine oK 13 [247, 0, 246, 29, 27, 2] rfl rfl (tE (ys := u8V (sgL neg ++ decDigits (N / 4) ++ [46] ++ (frL N).take 0)) 1 rfl (by simp) ?_)
 refine wG (M' := [HA.row A216 (n2 + 1) c216 5 1 (u8V (sgL neg ++ decDigits (N / 4) ++ [46] ++ (frL N).take 0)), HA.blk b (bufL N) T]) (zD 1 rfl (zD 1 rfl (yB _))) ?_
 refine yS 2 (fun (⟨i, A3, n3, c3⟩ : Nat × Option Addr × Nat × Nat) => i ≤ kq N ∧ n3 ≤ 12 + i) (fun (⟨i, A3, n3, c3⟩ : Nat × Option Addr × Nat × Nat) => [(247, .int .i64 ((i : Nat) : Int)), (0, .slice A3 n3 c3)]) (fun (⟨i, A3, n3, c3⟩ : Nat × Option Addr × Nat × Nat) => HA.row A3 n3 c3 5 1 (u8V (sgL neg ++ decDigits (N / 4) ++ [46] ++ (frL N).take i)) :: HA.blk b (bufL N) T :: []) (fun (⟨i, A3, n3, c3⟩ : Nat × Option Addr × Nat × Nat) => []) (fun (⟨i, A3, n3, c3⟩ : Nat × Option Addr × Nat × Nat) => kq N - i) (0, _, _, _) (⟨by show 0 ≤ _; omega, by show _ ≤ _ + 0; omega⟩) (eC rfl (eC rfl (eN _))) rfl rfl ?_ (eC rfl (eC rfl (eC rfl (eC rfl (eN _)))))
 intro ⟨i, A3, n3, c3⟩ hI K hK3
 change Run _ _ _ _ _ [(247, _), (0, _), (246, _), (29, _), (27, _), (2, _)] [_, _] ([])
 obtain ⟨hi1, hi2⟩ := hI
 refine rO 3 rfl (vF rfl rfl rfl ?_)
 refine oR 2 rfl (zM rfl (fun h248 => ?_) (fun h248 => ?_))
 ·have hlt : i < kq N := by omega
  obtain ⟨ci, hf1, hf2, hf3⟩ := buf_fr (N := N) hq (j := i) (by omega)
  obtain ⟨hl6, hci⟩ := List.getElem?_eq_some_iff.1 hf1
  subst hci
  refine rO 20 rfl (yP (s := (((ipL N).length + i : Nat) : Int)) rfl rfl rfl (by omega) (by omega) (by omega) ?_)
  refine zA (xV sl142 rfl rfl rfl (by omega) ?_)
  refine zA (yN sc5 rfl rfl (fun _ h => blk_add h (j := 1) rfl hf2) ?_)
  refine zA (zK sl142 rfl rfl rfl rfl rfl (fun b257 => ?_))
  refine zA ?_
  refine op_apd 1 0 sl142 (fun A258 c258 => ?_)
  refine oK 3 [0, 247, 246, 29, 27, 2] rfl rfl (rO 3 rfl ?_)
  refine yL rfl rfl (by omega) (oR 3 rfl ?_)
  refine tE (ys := u8V (sgL neg ++ decDigits (N / 4) ++ [46] ++ (frL N).take (i + 1))) 1 rfl (by rw [u8_snoc, List.append_assoc, ← List.take_succ_eq_append_getElem (by rw [frL_len]; omega)]) ?_
  exact kQ (hK3 (i + 1, _, _, _) (⟨by show i + 1 ≤ _; omega, by show _ ≤ _ + (i + 1); omega⟩) (by show kq N - (i + 1) < kq N - i; omega)) (eC rfl (eC rfl (eC rfl (eC rfl (eC rfl (eC rfl (eN _)))))))
 obtain rfl : i = kq N := by omega
 refine rK 9 [261, 0, 260] rfl rfl ?_
 refine yS 2 (fun (⟨i, A3, n3, c3⟩ : Nat × Option Addr × Nat × Nat) => i ≤ (6 - kq N) ∧ n3 ≤ 14 + i) (fun (⟨i, A3, n3, c3⟩ : Nat × Option Addr × Nat × Nat) => [(261, .int .i64 ((i : Nat) : Int)), (0, .slice A3 n3 c3)]) (fun (⟨i, A3, n3, c3⟩ : Nat × Option Addr × Nat × Nat) => HA.row A3 n3 c3 5 1 (u8V (sgL neg ++ decDigits (N / 4) ++ [46] ++ (frL N).take (kq N + i))) :: HA.blk b (bufL N) T :: []) (fun (⟨i, A3, n3, c3⟩ : Nat × Option Addr × Nat × Nat) => []) (fun (⟨i, A3, n3, c3⟩ : Nat × Option Addr × Nat × Nat) => (6 - kq N) - i) (0, _, _, _) (⟨by show 0 ≤ _; omega, by show _ ≤ _ + 0; omega⟩) (eC rfl (eC rfl (eN _))) rfl rfl ?_ (eC rfl (eN _))
 intro ⟨i, A3, n3, c3⟩ hI K hK4
 change Run _ _ _ _ _ [(261, _), (0, _), (260, _)] [_, _] ([])
 obtain ⟨hi1, hi2⟩ := hI
 refine rO 3 rfl (vF rfl rfl rfl ?_)
 refine oR 2 rfl (zM rfl (fun h262 => ?_) (fun h262 => ?_))
 ·have hlt : i < 6 - kq N := by omega
  have hsn : (frL N).take (kq N + (i + 1)) = (frL N).take (kq N + i) ++ [48] := fr_snoc (k := kq N + i) hq (by omega) (by omega)
  refine rO 7 rfl (zK sl142 rfl rfl rfl rfl rfl (fun b264 => ?_))
  refine zA ?_
  refine op_apd 1 0 sl142 (fun A265 c265 => ?_)
  refine oO 6 rfl (yL rfl rfl (by omega) ?_)
  refine oR 3 rfl (tE (ys := u8V (sgL neg ++ decDigits (N / 4) ++ [46] ++ (frL N).take (kq N + (i + 1)))) 1 rfl ((u8_snoc _ 48).trans (by rw [List.append_assoc, ← hsn])) ?_)
  exact kQ (hK4 (i + 1, _, _, _) (⟨by show i + 1 ≤ _; omega, by show _ ≤ _ + (i + 1); omega⟩) (by show (6 - kq N) - (i + 1) < (6 - kq N) - i; omega)) (eC rfl (eC rfl (eC rfl (eN _))))
 obtain rfl : i = 6 - kq N := by omega
 refine tE (ys := u8V (sgL neg ++ decDigits (N / 4) ++ [46] ++ frL N)) 0 rfl (by rw [show kq N + (6 - kq N) = (frL N).length by rw [frL_len]; omega, List.take_length]) (rR 8 rfl ?_)
 exact zC Tryz.results283 rfl ⟨_, _, _, rfl, rfl, rfl⟩ (.cons_cons _ nS) (fun _ h => by cases h)
theorem c206 (x : Nat) (h1 : x < 18446744073709551616) : CtV Tryz.prog 206 #[.int .u64 (x : Int)] [] (.int .i64 ((Lib.bitLen x : Nat) : Int)) :=
  pF fun206 fun w ok h => (Tryz.bits_Len64 (x : Int) w (by omega) (by omega)).mono (by
    rintro e w' ⟨rfl, rfl⟩
    exact ⟨rfl, Chg.refl _ _⟩)
theorem len53 {x : Nat} (h1 : 2 ^ 52 ≤ x) (h2 : x < 2 ^ 53) : Lib.bitLen x = 53 := by
 obtain ⟨a1, a2, a3⟩ := bitLenAux_bounds 64 x (by omega) (by omega)
 show bitLenAux 64 x = 53
 generalize bitLenAux 64 x = l at *
 have h3 : l ≤ 53 := Classical.byContradiction fun h => by
  have := Nat.pow_le_pow_right (n := 2) (by omega) (show 53 ≤ l - 1 by omega)
  omega
 have h4 : 53 ≤ l := Classical.byContradiction fun h => by
  have := Nat.pow_le_pow_right (n := 2) (by omega) (show l ≤ 52 by omega)
  omega
 omega
structure QBits (B N L : Nat) (neg : Bool) (K : Nat) : Prop where
 lt : B < 18446744073709551616
 sg : B / 2 ^ 63 = neg.toNat
 ex : B / 2 ^ 52 = neg.toNat * 2048 + (1021 + L)
 mt : B % 2 ^ 52 = K - 2 ^ 52
 lo : 2 ^ 52 ≤ K
 hi : K < 2 ^ 53
 up : K * 2 ^ 11 = N * 2 ^ (63 - L)
theorem qbits {n : Int} (h0 : 0 < n.natAbs) (h9 : n.natAbs < 1000000000) : QBits (qw n) n.natAbs n.natAbs.log2 (decide (n < 0)) (n.natAbs * 2 ^ fill n.natAbs) := by
 have hL := fmtN h0 h9
 have hl := hL.l29
 have h53 : n.natAbs < 2 ^ 53 := by omega
 have hlo := fill_lo h53 h0
 have hhi := fill_hi h53 h0
 have hfl : fill n.natAbs = 52 - n.natAbs.log2 := rfl
 have hs : Ieee.double.signWeight = 2 ^ 63 := by decide
 have hw : qw n = (if decide (n < 0) = true then 2 ^ 63 else 0) + ((1020 + n.natAbs.log2) * 2 ^ 52 + n.natAbs * 2 ^ fill n.natAbs) := by
  unfold qw
  rw [pW _ h0 h53 (by omega) (by omega)]
  have e1 : ((-2 : Int) - fill n.natAbs + 1074).toNat = 1020 + n.natAbs.log2 := by rw [hfl]; omega
  rw [e1]
  unfold Ieee.Format.word
  rw [hs]
  split <;> simp
 have hup : n.natAbs * 2 ^ fill n.natAbs * 2 ^ 11 = n.natAbs * 2 ^ (63 - n.natAbs.log2) := by
  rw [Nat.mul_assoc, ← Nat.pow_add, hfl, show 52 - n.natAbs.log2 + 11 = 63 - n.natAbs.log2 by omega]
 generalize n.natAbs * 2 ^ fill n.natAbs = K at *
 generalize n.natAbs.log2 = L at *
 rw [hw]
 cases decide (n < 0)
 ·simp only [Bool.false_eq_true, ↓reduceIte]
  exact ⟨by omega, by show _ = 0; omega, by show _ = 0 * 2048 + _; omega, by omega, hlo, hhi, hup⟩
 ·simp only [↓reduceIte]
  exact ⟨by omega, by show _ = 1; omega, by show _ = 1 * 2048 + _; omega, by omega, hlo, hhi, hup⟩
theorem and2047 (x : Nat) (b : Bool) (h : x < 2048) : (b.toNat * 2048 + x) &&& 2047 = x := by
 have := Nat.and_two_pow_sub_one_eq_mod (b.toNat * 2048 + x) 11
 rw [show 2 ^ 11 - 1 = 2047 from rfl] at this
 rw [this]
 cases b <;> simp <;> omega
theorem and52 (x : Nat) : x &&& 4503599627370495 = x % 2 ^ 52 := by
 have := Nat.and_two_pow_sub_one_eq_mod x 52
 rwa [show 2 ^ 52 - 1 = 4503599627370495 from rfl] at this
theorem or52 {K : Nat} (h1 : 2 ^ 52 ≤ K) (h2 : K < 2 ^ 53) : (K - 2 ^ 52) ||| 4503599627370496 = K := by
 have := Nat.two_pow_add_eq_or_of_lt (i := 52) (b := K - 2 ^ 52) (by omega) 1
 rw [Nat.or_comm]
 rw [Nat.mul_one] at this
 have e : (4503599627370496 : Nat) = 2 ^ 52 := rfl
 rw [e, ← this]
 omega
theorem c286 (fb : Addr) (N L : Nat) (hF : FmtN N L) : CtV Tryz.prog 286 #[.int .u64 ((N * 2 ^ (63 - L) : Nat) : Int), .int .i64 ((L : Int) - 65), .int .i64 ((dgOf L : Nat) : Int), .int .i64 6, .int .u8 102] [ftD fb] (.tuple #[.int .u64 ((N * 250000 : Nat) : Int), .int .i64 (-6)]) := by
 rcases hF.tab.2.2.1 with h | h
 ·exact c286_6 fb N L hF h
 ·exact c286_7 fb N L hF h
theorem ext280 : ∃ fn, Tryz.prog.funcs[280]? = some fn ∧ (fn.name == "runtime.NumGoroutine") = false ∧ fn.body.isNone = true ∧ Extern.findNext fn = none ∧ Extern.find fn = some Extern.MathFloatBits.float64bits := ⟨Tryz.f280, Tryz.func280, by kernel_rfl, rfl, by kernel_rfl, by kernel_rfl⟩

set_option maxHeartbeats 4000000 in
theorem c261 (fb : Addr) (B N L K c0 : Nat) (A0 : Option Addr) (neg : Bool) (hF : FmtN N L) (hB : QBits B N L neg K) (hq : 0 < N % 4) : Ct Tryz.prog 261 #[.slice A0 0 c0, .float .f64 B, .int .u8 102, .int .i64 6] [.row A0 0 c0 5 1 []] [.tab, ftD fb] (fun u M' D' => ∃ A m c, u = .slice A m c ∧ M' = [.row A m c 5 1 (u8V (sgL neg ++ decDigits (N / 4) ++ [46] ++ frL N))] ∧ D' = []) := by
 refine Ct.of_run (args := [.slice A0 0 c0, .float .f64 B, .int .u8 102, .int .i64 6]) Tryz.func261 (by kernel_rfl) rfl Tryz.ntmps261 rfl (fun c => ?_)
 obtain ⟨fn, e1, e2, e3, e4, e5⟩ := ext280
 have hl := hF.l29
 have hn9 := hF.n9
 have hk1 := hB.lo
 have hk2 := hB.hi
 have hnt : neg.toNat ≤ 1 := by cases neg <;> decide
 obtain ⟨d7a, d15, _, _, _, d6, d7⟩ := hF.tab
 refine rO 42 rfl (op_extern e1 e2 e3 e4 e5 rfl rfl rfl (fun w => rfl) ?_)
 refine oK 3 [9, 0, 2, 3] rfl rfl (rO 24 rfl ?_)
 refine yP (s := 63) rfl rfl rfl rfl (by omega) (by omega) (zA ?_)
 refine op_shrU (m := B) (s := 63) (r := neg.toNat) rfl rfl rfl (by omega) hB.sg (zA ?_)
 refine op_bin (v := .bool neg) (fun w => by cases neg <;> rfl) rfl rfl rfl (oR 4 rfl ?_)
 refine yU yG (zQ ?_)
 refine tP 0 rfl wanted0 (zU rfl) (tP 1 rfl wanted0 (zU rfl) ?_)
 refine tP 4 rfl wanted0 (zU rfl) (yD ?_)
 refine tM 2 rfl wanted0 (tL (bin_shrU (m := B) (s := 52) (r := neg.toNat * 2048 + (1021 + L)) (by omega) hB.ex) rfl rfl) (tM 3 rfl wanted0 (st_convII Tryz.underlying235 Tryz.underlying3 rfl (vV (by omega) (by omega))) ?_)
 refine tM 5 rfl wanted0 (tL (bin_shlI (m := 1) (s := 11) (r := 2048) (by omega) (Eq.refl _) (by omega)) rfl rfl) (tM 6 rfl wanted0 (st_subF (s := ((2047 : Nat) : Int)) rfl rfl (by omega) (by omega) (by omega)) ?_)
 refine tM 7 rfl wanted0 (tL (bin_andI (m := neg.toNat * 2048 + (1021 + L)) (m' := 2047) (r := 1021 + L) (by omega) (by omega) (and2047 (1021 + L) neg (by omega))) rfl rfl) (zQ ?_)
 refine tP 8 rfl wanted0 (yY rfl) (yH (by decide +kernel) ?_)
 refine rK 0 [14, 13, 12, 11, 10, 9, 0, 2, 3] rfl rfl (rO 7 rfl ?_)
 refine op_shlU (m := 1) (s := 52) (r := 4503599627370496) rfl rfl rfl (by omega) rfl (by omega) (zA ?_)
 refine op_subU (m := 4503599627370496) (m' := 1) (r := 4503599627370495) rfl rfl rfl (by omega) rfl (by omega) (zA ?_)
 refine op_andU (m := B) (m' := 4503599627370495) (r := K - 2 ^ 52) rfl rfl rfl hB.lt (by omega) ((and52 B).trans hB.mt) (oK 3 [15, 14, 13, 12, 11, 10, 0, 2, 3] rfl rfl ?_)
 refine rO 8 rfl (op_bin (bin_shlI (m := 1) (s := 11) (r := 2048) (by omega) (Eq.refl _) (by omega)) rfl rfl rfl ?_)
 refine zA (xI (s := ((2047 : Nat) : Int)) rfl rfl rfl (by omega) (by omega) (by omega) ?_)
 refine oR 3 rfl (yO rfl (decide_eq_false (by omega)) ?_)
 refine rK 9 [78, 15, 14, 13, 12, 11, 0, 2, 3] rfl rfl (yO rfl (decide_eq_false (by omega)) ?_)
 refine rO 6 rfl (op_shlU (m := 1) (s := 52) (r := 4503599627370496) rfl rfl rfl (by omega) rfl (by omega) ?_)
 refine zA (op_orU (m := K - 2 ^ 52) (m' := 4503599627370496) (r := K) rfl rfl rfl (by omega) (by omega) (or52 hB.lo hB.hi) ?_)
 refine oO 10 rfl (yP (s := (L : Int) - 2) rfl rfl rfl (by omega) (by omega) (by omega) ?_)
 refine oK 3 [14, 15, 13, 11, 0, 2, 3] rfl rfl (rS 19 rfl ?_)
 refine wB (s := 99) rfl (rfl) (oK 7 [102, 14, 15, 13, 11, 0, 2, 3] rfl rfl ?_)
 refine rR 10 rfl (yO rfl (decide_eq_false (by omega)) ?_)
 refine rO 7 rfl (vF rfl rfl rfl ?_)
 refine oO 7 rfl (uI 1 0 sc4 rfl rfl rfl rfl ?_)
 refine oK 9 [24, 14, 15, 13, 11, 0, 2, 3] rfl rfl (rK 6 [175, 24, 14, 15, 13, 11, 0, 2, 3] rfl rfl ?_)
 refine run_joinE [14, 15, 13, 11, 0, 2, 3] (fun (u : Unit) => True) (fun (u : Unit) => [(24, .int .i64 ((dgOf L : Nat) : Int))]) (fun (u : Unit) => HA.row A0 0 c0 5 1 [] :: []) (fun (u : Unit) => .tab :: ftD fb :: []) ?_ ?_
 ·intro K hK
  refine rO 14 rfl (qJ rfl rfl rfl ?_)
  refine yK (zM rfl (fun h179 => ?_) (fun h179 => ?_))
  ·have hdg := d6 (by omega)
   refine rO 4 rfl (yP (s := (L : Int) - 1) rfl rfl rfl (by omega) (by omega) (by omega) ?_)
   refine zA (zJ rfl rfl rfl (c242 ((L : Int) - 1) (by omega) (by omega)) sub0 ?_)
   refine zA (yP rfl rfl rfl rfl (by omega) (by omega) ?_)
   refine oO 3 rfl (yP (s := ((dgOf L : Nat) : Int)) rfl rfl rfl (by omega) (by omega) (by omega) ?_)
   refine oK 3 [24, 14, 15, 13, 11, 0, 2, 3] rfl rfl (run_blk ?_)
   exact kQ (hK () trivial) (hD := (by intro d hd; exact hd))
  have hdg := d7 (by omega)
  have hdg2 : dgOf L = 7 := by unfold dgOf; rw [if_neg (by omega)]
  refine rO 4 rfl (yP (s := 7) rfl rfl rfl rfl (by omega) (by omega) ?_)
  refine oO 3 rfl (tT (s := 2 - (L : Int)) rfl rfl (by omega) (by omega) (by omega) ?_)
  refine zA (zJ rfl rfl rfl (c242 (2 - (L : Int)) (by omega) (by omega)) sub0 ?_)
  refine zA (xI (s := ((dgOf L : Nat) : Int)) rfl rfl rfl (by omega) (by omega) (by omega) ?_)
  refine oK 3 [24, 14, 15, 13, 11, 0, 2, 3] rfl rfl (run_blk ?_)
  exact kQ (hK () trivial) (hD := (by intro d hd; exact hd))
 intro u hI
 replace hI : True := hI
 change Run _ _ _ _ _ [(24, _), (14, _), (15, _), (13, _), (11, _), (0, _), (2, _), (3, _)] [_] [_, _]
 refine rO 5 rfl (op_leq rfl rfl rfl ?_)
 refine yK (wF rfl (decide_eq_true (by omega)) ?_)
 refine rO 3 rfl (zT ze246 rfl (fun b25 => ?_))
 change RunOps _ _ _ _ _ _ _ _ (HA.blk _ [_, _, _, _, _, _, _, _, _, _, _, _, _, _, _, _, _, _, _, _, _, _, _, _] _ :: _) _
 refine oO 14 rfl (wJ rfl rfl rfl ?_)
 refine oK 1 [206, 27, 26, 25, 24, 14, 15, 13, 11, 0, 2, 3] rfl rfl (wF rfl (decide_eq_true (by omega)) ?_)
 refine rO 5 rfl (zJ rfl rfl rfl (c206 K (by omega)) sub0 ?_)
 rw [len53 hB.lo hB.hi]
 refine zA (xI (s := ((11 : Nat) : Int)) rfl rfl rfl rfl (by omega) (by omega) ?_)
 refine oK 3 [28, 27, 26, 25, 24, 14, 15, 13, 11, 0, 2, 3] rfl rfl (rO 7 rfl ?_)
 refine op_shlU (m := K) (s := 11) (r := N * 2 ^ (63 - L)) rfl rfl rfl (by omega) hB.up hF.up (oK 3 [29, 28, 27, 26, 25, 24, 14, 13, 11, 0, 2, 3] rfl rfl ?_)
 refine rO 7 rfl (xI (s := (L : Int) - 13) rfl rfl rfl (by omega) (by omega) (by omega) ?_)
 refine oK 3 [30, 29, 27, 26, 25, 24, 13, 11, 0, 2, 3] rfl rfl (rO 9 rfl ?_)
 refine xI (s := (L : Int) - 65) rfl rfl rfl (by omega) (by omega) (by omega) (oO 7 rfl ?_)
 refine zJ rfl rfl rfl (c286 fb N L hF) (sub1 1 rfl) (oK 11 [32, 31, 27, 26, 25, 13, 0, 2, 3] rfl rfl ?_)
 refine rO 5 rfl (uR rfl rfl rfl ?_)
 refine yK (wF rfl (decide_eq_true (by omega)) ?_)
 refine yU yG (zQ ?_)
 refine tP 1 rfl wanted0 (zU rfl) (tP 2 rfl wanted0 (zU rfl) ?_)
 refine tP 3 rfl wanted0 (zU rfl) (yD ?_)
 refine tM 0 rfl wanted0 (st_sliceArr Tryz.underlying246 si5 rfl) (zN 4 (by decide +kernel) ?_)
 refine zO (I2 := [[0], [2, 1], []]) rfl wanted0 (by decide +kernel) (fun Kd hKd => ?_)
 refine zJ rfl rfl rfl (c220 (N * 250000) (by omega) (by omega)) (sub1 0 rfl) ?_
 rw [nd_quart hq]
 refine hKd _ _ _ (hC (hC (zE (zP)))) (zN 5 (by decide +kernel) ?_)
 refine zO (I2 := [[], [], []]) rfl wanted0 (by decide +kernel) (fun Kd hKd => ?_)
 refine xF 0 rfl rfl rfl (c285 b25 246 N hq hF.n9) rfl sub0 (fun u235 M235 D235 hv235 => ?_)
 obtain ⟨rfl, rfl, rfl⟩ := hv235
 refine hKd _ _ _ (zE (zE (zE (zP)))) (zQ ?_)
 refine tP 6 rfl wanted0 (zU rfl) (tP 7 rfl wanted0 (st_extract rfl rfl) ?_)
 refine tP 8 rfl wanted0 (st_extract rfl rfl) (tP 9 rfl wanted0 (yY rfl) ?_)
 refine tP 10 rfl wanted0 (yY rfl) (yH (by decide +kernel) ?_)
 refine rK 0 [27, 26, 25, 13, 0, 2, 3] rfl rfl (rO 7 rfl ?_)
 refine op_sliceArr Tryz.underlying246 si5 rfl rfl (oO 9 rfl ?_)
 refine tW 1 0 rfl rfl rfl (c283 b25 246 N c0 A0 neg hq hF.n9) rfl rfl sub0 (fun u245 M245 D245 hv245 => ?_)
 obtain ⟨A9, n9, c9, rfl, rfl, rfl⟩ := hv245
 refine oK 3 [8] rfl rfl ?_
 exact zC Tryz.results261 rfl ⟨_, _, _, rfl, rfl, rfl⟩ (List.Sublist.refl _) (fun _ h => by cases h)
theorem decFrom_app : ∀ (l r : List UInt8) (a m : Nat), decFrom a l = some m → decFrom a (l ++ r) = decFrom m r
  | [], r, a, m, h => by simp only [decFrom, Option.some.injEq] at h; subst h; rfl
  | b :: l, r, a, m, h => by
    simp only [List.cons_append, decFrom] at h ⊢
    split
    · rename_i d hd
      rw [hd] at h
      exact decFrom_app l r _ m h
    · rename_i hd
      rw [hd] at h
      exact absurd h (by simp)
theorem digitVal_d {d : Nat} (h : d < 10) : digitVal (UInt8.ofNat (48 + d)) = some d := by
 unfold digitVal
 rw [qR h]
 rw [if_pos (by omega)]
 congr 1
 omega
theorem decFrom_dec (u : Nat) : decFrom 0 (decDigits u) = some u := by
  induction u using Nat.strongRecOn with
  | _ u ih =>
    rw [decDigits]
    split
    · rename_i h
      simp only [decFrom, digitVal_d h, Option.some.injEq]
      omega
    · rename_i h
      rw [decFrom_app _ _ _ _ (ih (u / 10) (by omega))]
      simp only [decFrom, digitVal_d (Nat.mod_lt u (show 0 < 10 by omega)), Option.some.injEq]
      omega
theorem decNat_dec (u : Nat) : decNat (decDigits u) = some u := by
  unfold decNat
  have := dec_ne u
  cases hd : decDigits u with
  | nil => exact absurd hd this
  | cons c r => rw [← hd, decFrom_dec]; simp [hd]
theorem dec_len9 {u : Nat} (h : u < 1000000000) : (decDigits u).length ≤ 9 := by
 rw [decDigits_length]
 exact nDigits_le (by omega) (by omega)
theorem dec_first (u : Nat) : ∀ c r, decDigits u = c :: r → Dgt c := by
  induction u using Nat.strongRecOn with
  | _ u ih =>
    intro c r h
    rw [decDigits] at h
    split at h
    · rename_i h9
      injection h with h1 h2
      subst h1
      show 48 ≤ _ ∧ _
      rw [qR h9]
      omega
    · cases hd : decDigits (u / 10) with
      | nil => exact absurd hd (dec_ne _)
      | cons c' r' =>
        rw [hd, List.cons_append] at h
        injection h with h1 h2
        subst h1
        exact ih (u / 10) (by omega) _ _ hd
theorem parse_itoa {n : Int} (h1 : -1000000000 < n) (h2 : n < 1000000000) : parseIntB 64 (Lib.itoa n) = .ok n := by
  rcases Int.lt_or_le n 0 with h | h
  · obtain ⟨u, rfl⟩ : ∃ u : Nat, n = -(u : Int) := ⟨n.natAbs, by omega⟩
    rw [itoa_neg u (by omega), parseIntB_64, atoiAll_short _ (by have := dec_len9 (u := u) (by omega); simp only [List.length_cons]; omega)]
    simp [atoi, decNat_dec, NumEnd.ofOption]
  · obtain ⟨u, rfl⟩ : ∃ u : Nat, n = (u : Int) := ⟨n.natAbs, by omega⟩
    rw [itoa_nonneg, parseIntB_64, atoiAll_short _ (by have := dec_len9 (u := u) (by omega); omega)]
    cases hd : decDigits u with
    | nil => exact absurd hd (dec_ne u)
    | cons c r =>
      have hc : 48 ≤ c.toNat ∧ c.toNat ≤ 57 := dec_first u c r hd
      have h45 : (c == 45) = false := by
        cases hq : c == 45 with
        | false => rfl
        | true => rw [beq_iff_eq] at hq; subst hq; exact absurd hc.1 (by decide)
      have h43 : (c == 43) = false := by
        cases hq : c == 43 with
        | false => rfl
        | true => rw [beq_iff_eq] at hq; subst hq; exact absurd hc.1 (by decide)
      simp only [atoi, h45, h43, Bool.false_eq_true, ↓reduceIte]
      rw [← hd, decNat_dec]
      rfl
theorem fun180 : Fun Tryz.prog 180 := ⟨_, Tryz.func180, by kernel_rfl, rfl⟩
theorem chg_bytes (w : World) (t : TypeId) (s : ByteArray) : Chg [] w (Lib.bytesWorld w t s) :=
 by
 unfold Lib.bytesWorld World.freeze
 rw [if_neg (by omega)]
 refine ⟨rfl, rfl, rfl, ?_, fun j hj _ => ?_⟩
 ·show w.heap.size ≤ (Array.modify _ _ _).size
  rw [Array.size_modify]
  show _ ≤ (w.heap.push _).size
  simp
 ·show (Array.modify _ _ _)[j]? = _
  rw [Array.getElem?_modify, if_neg (by show ¬ w.heap.size = j; omega)]
  show (w.heap.push _)[j]? = _
  rw [Array.getElem?_push, if_neg (by omega)]
theorem c180 (n : Int) (h1 : -1000000000 < n) (h2 : n < 1000000000) : CtV Tryz.prog 180 #[.string (itoaB n), .int .i64 10, .int .i64 64] [] (.tuple #[.int .i64 n, .nilIface]) :=
  pF fun180 fun w ok h => (Tryz.strconv_ParseInt_10_at64_ok (itoaB n) (by have := wV n (by omega) (by omega); omega) n (parse_itoa h1 h2) w).mono (by
    rintro e w' ⟨rfl, hw⟩
    refine ⟨rfl, ?_⟩
    rcases hw with rfl | ⟨t, rfl⟩
    · exact Chg.refl _ _
    · exact chg_bytes _ _ _)
theorem bs_ext {a b : ByteArray} (h : rl a = rl b) : a = b := by
  cases a with
  | mk a => cases b with
    | mk b => congr 1; exact Array.ext' h
theorem rl_frac6 {q : Nat} (h0 : 0 < q) (h4 : q < 4) : rl (frac6 q) = 46 :: frL q := by
 rcases (by omega : q = 1 ∨ q = 2 ∨ q = 3) with rfl | rfl | rfl <;> rfl
theorem frL_mod (N : Nat) : frL (N % 4) = frL N := by unfold frL; rw [Nat.mod_mod]
theorem quartF_row {n : Int} (h0 : n.tmod 4 ≠ 0) : bs (sgL (decide (n < 0)) ++ decDigits (n.natAbs / 4) ++ [46] ++ frL n.natAbs) = quartF n := by
 obtain ⟨a1, a2⟩ := tmod4 h0
 apply bs_ext
 unfold quartF
 rw [rl_app, rl_app, rl_itoa, rl_sign, rl_frac6 a1 a2, frL_mod, List.append_assoc _ [46] (frL n.natAbs)]
 rfl
theorem quartF_size {n : Int} (h0 : n.tmod 4 ≠ 0) (h1 : -1000000000 < n) (h2 : n < 1000000000) : (quartF n).size ≤ 20 := by
 rw [← quartF_row h0]
 show (sgL (decide (n < 0)) ++ decDigits (n.natAbs / 4) ++ [46] ++ frL n.natAbs).toArray.size ≤ 20
 have := dec_len9 (u := n.natAbs / 4) (by omega)
 have h6 : (frL n.natAbs).length = 6 := frL_len _
 have hs : (sgL (decide (n < 0))).length ≤ 1 := by unfold sgL; split <;> simp
 simp only [List.size_toArray, List.length_append, h6, List.length_cons, List.length_nil]
 omega

theorem c246 (fb : Addr) (n : Int) (h0 : n.tmod 4 ≠ 0) (h1 : -1000000000 < n) (h2 : n < 1000000000) : CtV Tryz.prog 246 #[.float .f64 (qw n), .int .u8 102, .int .i64 6, .int .i64 64] [.tab, ftD fb] (.string (quartF n)) := by
 refine Ct.of_run (args := [.float .f64 (qw n), .int .u8 102, .int .i64 6, .int .i64 64]) Tryz.func246 (by kernel_rfl) rfl Tryz.ntmps246 rfl (fun c => ?_)
 obtain ⟨a1, a2⟩ := tmod4 h0
 have hn0 : 0 < n.natAbs := by omega
 have hn9 : n.natAbs < 1000000000 := by omega
 refine rO 29 rfl (yP (s := 10) rfl rfl rfl rfl (by omega) (by omega) ?_)
 refine zA (op_max (s := ((24 : Nat) : Int)) rfl rfl rfl rfl ?_)
 refine zA ?_
 refine op_makeSliceC 24 sl142 rfl rfl rfl (by omega) (by omega) (fun b26 => ?_)
 refine oO 7 rfl (xF 0 rfl rfl rfl (c261 fb (qw n) n.natAbs n.natAbs.log2 (n.natAbs * 2 ^ fill n.natAbs) 24 _ (decide (n < 0)) (fmtN hn0 hn9) (qbits hn0 hn9) (tmod4 h0).1) rfl (sub2 0 1 rfl rfl) (fun u30 M30 D30 hv30 => ?_))
 obtain ⟨A9, m9, c9, rfl, rfl, rfl⟩ := hv30
 refine zA (op_convBS 0 Tryz.underlying142 Tryz.underlying5 Tryz.underlying9 rfl rfl rfl ?_)
 rw [quartF_row h0]
 refine oK 3 [8] rfl rfl ?_
 exact zC Tryz.results246 rfl ⟨rfl, rfl, rfl⟩ nS (fun _ h => by cases h)
theorem c224 (fb : Addr) (n : Int) (h0 : n.tmod 4 ≠ 0) (h1 : -1000000000 < n) (h2 : n < 1000000000) : CtV Tryz.prog 224 #[.float .f64 (qw n), .int .u8 102, .int .i64 6, .int .i64 64] [.tab, ftD fb] (.string (quartF n)) := by
 refine Ct.of_run (args := [.float .f64 (qw n), .int .u8 102, .int .i64 6, .int .i64 64]) Tryz.func224 (by kernel_rfl) rfl Tryz.ntmps224 rfl (fun c => ?_)
 refine rO 16 rfl (zJ rfl rfl rfl (c246 fb n h0 h1 h2) (sub2 0 1 rfl rfl) ?_)
 refine oK 3 [8] rfl rfl ?_
 exact zC Tryz.results224 rfl ⟨rfl, rfl, rfl⟩ nS (fun _ h => by cases h)
theorem c188 (fb : Addr) (n : Int) (h0 : n.tmod 4 ≠ 0) (h1 : -1000000000 < n) (h2 : n < 1000000000) : CtR Tryz.prog 188 #[.float .f64 (qw n)] [.tab, ftD fb] (RN (scal tFloat (quartF n))) := by
 refine Ct.of_run (args := [.float .f64 (qw n)]) Tryz.func188 (by kernel_rfl) rfl Tryz.ntmps188 rfl (fun c => ?_)
 refine rO 10 rfl (zJ rfl rfl rfl (c224 fb n h0 h1 h2) (sub2 0 1 rfl rfl) ?_)
 refine zA (yF rfl rfl (tV ..) ?_)
 refine zA (yJ rfl rfl rfl (fun b6 => ?_))
 refine oR 3 rfl (rV ?_)
 exact vC 0 0 rfl rfl (by intro b h; cases h) (by decide) (max_of (quartF_size h0 h1 h2) (by decide)) (zC Tryz.results188 rfl ⟨rfl, b6, rfl, rfl⟩ nS (sub1 0 rfl))
theorem c135F (fb : Addr) (sp : Value) (nb : Nat) (n : Int) (h0 : n.tmod 4 ≠ 0) (h1 : -1000000000 < n) (h2 : n < 1000000000) : CtR Tryz.prog 135 #[sp, ptr nb] [.node nb (scal tFloat (quartV n)), .tab, ftD fb] (RF (.numF (qw n))) := by
 refine Ct.of_run (args := [sp, ptr nb]) Tryz.func135 (by kernel_rfl) rfl Tryz.ntmps135 rfl (fun c => ?_)
 refine yZ 0 rfl (fun A0 cap0 ht0 hv0 hl0 hc0 => ?_)
 refine rO 8 rfl (yF rfl rfl (bu213 ..) ?_)
 refine zA (yJ rfl rfl rfl (fun b11 => ?_))
 refine oO 11 rfl (zB xO rfl rfl ?_)
 refine zA (zF 0 sc146 rfl rfl rfl rfl ?_)
 refine oK 9 [16, 5, 1] rfl rfl (rO 8 rfl ?_)
 refine zB tA rfl rfl (zA ?_)
 refine zF 0 sc9 rfl rfl rfl rfl (oO 17 rfl ?_)
 refine zB xR rfl rfl (zA ?_)
 refine zF 0 sc9 rfl rfl rfl rfl (zA ?_)
 refine zJ rfl rfl rfl (c179 fb (quartV n) n (qtxt_V h0 h1 h2)) (sub1 4 rfl) (oO 7 rfl ?_)
 refine zT ze214 rfl (fun b6 => ?_)
 change RunOps _ _ _ _ _ _ _ _ (HA.blk _ [_] _ :: _) _
 refine zA (zG 0 (M' := [HA.blk _ [_] _, _]) rfl rfl rfl rfl si214 rfl rfl rfl ?_)
 refine oK 3 [6, 5] rfl rfl (rO 7 rfl ?_)
 refine zB fo213_1 rfl rfl (zA ?_)
 refine zG 1 (M' := [_, HA.blk _ [_, _] _]) rfl rfl rfl rfl si211 rfl rfl rfl (oR 8 rfl ?_)
 refine yW 0 rfl (by intro b h; cases h) (yW 0 rfl (by intro b h; cases h) ?_)
 exact zY (.fv (ptr b11) (.numF (qw n))) (fun w ok h => ⟨_, _, rfl, dget h 0 rfl, vS (dget h 1 rfl) rfl⟩) (zC Tryz.results135 rfl ⟨rfl, _, rfl, rfl⟩ nS (sub1 0 rfl))
theorem c135I (sp : Value) (nb : Nat) (n : Int) (h1 : -1000000000 < n) (h2 : n < 1000000000) : CtR Tryz.prog 135 #[sp, ptr nb] [.node nb (scal tInt (itoaB n))] (RF (.numI n)) := by
 refine Ct.of_run (args := [sp, ptr nb]) Tryz.func135 (by kernel_rfl) rfl Tryz.ntmps135 rfl (fun c => ?_)
 refine yZ 0 rfl (fun A0 cap0 ht0 hv0 hl0 hc0 => ?_)
 refine rO 8 rfl (yF rfl rfl (bu213 ..) ?_)
 refine zA (yJ rfl rfl rfl (fun b11 => ?_))
 refine oO 11 rfl (zB xO rfl rfl ?_)
 refine zA (zF 0 sc146 rfl rfl rfl rfl ?_)
 refine oK 9 [16, 5, 1] rfl rfl (rO 8 rfl ?_)
 refine zB tA rfl rfl (zA ?_)
 refine zF 0 sc9 rfl rfl rfl rfl (oR 9 rfl ?_)
 refine yO rfl (decide_eq_false (by decide)) (rO 15 rfl ?_)
 refine zB xR rfl rfl (zA ?_)
 refine zF 0 sc9 rfl rfl rfl rfl (zA ?_)
 refine zJ rfl rfl rfl (c180 n h1 h2) sub0 (oO 7 rfl ?_)
 refine zT ze2 rfl (fun b8 => ?_)
 change RunOps _ _ _ _ _ _ _ _ (HA.blk _ [_] _ :: _) _
 refine zA (zG 0 (M' := [HA.blk _ [_] _, _]) rfl rfl rfl rfl si2 rfl rfl rfl ?_)
 refine oK 3 [8, 5] rfl rfl (rO 7 rfl ?_)
 refine zB fo213_0 rfl rfl (zA ?_)
 refine zG 1 (M' := [_, HA.blk _ [_, _] _]) rfl rfl rfl rfl si114 rfl rfl rfl (oR 8 rfl ?_)
 refine yW 0 rfl (by intro b h; cases h) (yW 0 rfl (by intro b h; cases h) ?_)
 exact zY (.fv (ptr b11) (.numI n)) (fun w ok h => ⟨_, _, rfl, dget h 0 rfl, vS (dget h 1 rfl) rfl⟩) (zC Tryz.results135 rfl ⟨rfl, _, rfl, rfl⟩ nS (sub1 0 rfl))
theorem c137I (sp : Value) (nb : Nat) (n : Int) (h1 : -1000000000 < n) (h2 : n < 1000000000) : CtR Tryz.prog 137 #[sp, ptr nb] [.node nb (scal tInt (itoaB n))] (RF (.int n)) := by
 refine Ct.of_run (args := [sp, ptr nb]) Tryz.func137 (by kernel_rfl) rfl Tryz.ntmps137 rfl (fun c => ?_)
 refine yZ 0 rfl (fun A0 cap0 ht0 hv0 hl0 hc0 => ?_)
 refine rO 13 rfl (zB xO rfl rfl ?_)
 refine zA (zF 0 sc146 rfl rfl rfl rfl ?_)
 refine oO 17 rfl (zB tA rfl rfl ?_)
 refine zA (zF 0 sc9 rfl rfl rfl rfl ?_)
 refine oK 1 [19, 1] rfl rfl (rR 8 rfl ?_)
 refine yO rfl (decide_eq_false (by decide)) (rO 15 rfl ?_)
 refine zB xR rfl rfl (zA ?_)
 refine zF 0 sc9 rfl rfl rfl rfl (zA ?_)
 refine zJ rfl rfl rfl (c180 n h1 h2) sub0 (oO 7 rfl ?_)
 refine zT ze2 rfl (fun b8 => ?_)
 change RunOps _ _ _ _ _ _ _ _ (HA.blk _ [_] _ :: _) _
 refine zA (zG 0 (M' := [HA.blk _ [_] _]) rfl rfl rfl rfl si2 rfl rfl rfl ?_)
 refine oK 3 [8] rfl rfl (rR 5 rfl ?_)
 refine yW 0 rfl (by intro b h; cases h) (zY (.fv (ptr b8) (.int n)) (fun w ok h => ⟨_, rfl, vS (dget h 0 rfl) rfl⟩) ?_)
 exact zC Tryz.results137 rfl ⟨rfl, _, rfl, rfl⟩ nS (sub1 0 rfl)
def DA.and (a b : DA) : DA := ⟨fun w ok => a.p w ok ∧ b.p w ok, fun h1 h2 h => ⟨a.mono h1 h2 h.1, b.mono h1 h2 h.2⟩⟩
theorem Ct.wide {P : Program} {f : FuncId} {args : Array Value} {M : List HA} {D D2 : List DA} {R : Value → List HA → List DA → Prop} (h : Ct P f args M D R) (hs : ∀ (w : World) (ok : Nat → Prop), (∀ d ∈ D2, d.p w ok) → ∀ d ∈ D, d.p w ok) : Ct P f args M D2 R :=
 ⟨h.1, fun w ok hok hM hn hD => h.2 w ok hok hM hn (hs w ok hD)⟩
def ftA (fb : Addr) : DA := .and .tab (ftD fb)
theorem numW (fb : Addr) : NumW (ftA fb) := fun n h1 h2 h0 => Ct.wide (c188 fb n h0 h1 h2) (fun w ok h d hd => by
 have := h (ftA fb) List.mem_cons_self
 simp only [List.mem_cons, List.not_mem_nil, or_false] at hd
 rcases hd with rfl | rfl
 ·exact this.1
 ·exact this.2)
theorem nodeV_int {back : Bool} {x : V} (h : x.kind = 2) : nodeV back x = scal tInt (itoaB x.num) := by rw [wZ]; simp [h]
theorem nodeV_quart {back : Bool} {x : V} (h : x.kind = 6) : nodeV back x = scal tFloat (quartV x.num) := by rw [wZ]; simp [h]
theorem numC (fb : Addr) : NumC (ftA fb) := by
  refine ⟨fun back x hx hk => ?_, fun back x hx hk => ?_⟩
  · obtain ⟨h1, h2⟩ := hk.num (by omega)
    rcases hx with hx | ⟨hx, h0⟩
    · exact vQ (nodeV_int hx) (fun sp nb => c135I sp nb _ h1 h2) ⟨rfl, hx, rfl⟩
    · refine bc_lift fun sb nb => ?_
      rw [nodeV_quart hx]
      have h3 : CtR Tryz.prog 135 #[ptr sb, ptr nb] [.node nb (scal tFloat (quartV x.num)), ftA fb] (RF (.numF (qw x.num))) := Ct.wide (c135F fb (ptr sb) nb x.num h0 h1 h2) (fun w ok h d hd => by
        have h4 := h (ftA fb) (by simp)
        simp only [List.mem_cons, List.not_mem_nil, or_false] at hd
        rcases hd with rfl | rfl | rfl
        · exact h _ List.mem_cons_self
        · exact h4.1
        · exact h4.2)
      exact h3.mono (by rintro u D' ⟨p, rfl, rfl⟩; exact ⟨p, _, rfl, rfl, rfl, hx, rfl⟩)
  · obtain ⟨h1, h2⟩ := hk.num (by omega)
    exact vQ (nodeV_int hx) (fun sp nb => c137I sp nb _ h1 h2) ⟨rfl, rfl⟩
end Go.Jw

