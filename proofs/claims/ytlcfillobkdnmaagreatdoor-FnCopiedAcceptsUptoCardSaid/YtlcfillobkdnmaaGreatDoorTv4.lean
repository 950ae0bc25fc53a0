/- Part 4 of the proof's texts, made small by a program. -/
import Derived.Test.YtlcfillobkdnmaaGreatDoorTv3
import Derived.Deep.QuietTactic
import Derived.Lib.RowBridge
import Derived.Lib.SortBridge
import Derived.Sort.LotA
import Derived.WalkKit
import Derived.Laws.FloatArith
import Derived.Scope
import Derived.Laws.Externs
import Derived.Laws.Small
import Derived.Laws.MakeOwn
import Derived.Lib.ParseIntBTie
import Derived.Lib.AtoiTie
import Derived.Lib.ItoaMem
set_option linter.unusedVariables false
set_option linter.unusedSimpArgs false
set_option maxHeartbeats 4000000
namespace Go.Jw
open Go Go.RowKit Go.Proofs
set_option maxRecDepth 8000
theorem NN(s:ByteArray)(hs:s.size≤maxLen)(hf:dS s): ∃T:ByteArray,(T=⟨#[104,116,116,112,58,47,47,106,115,111,110,45,115,99,104,101,109,97,46,111,114,103,47,100,114,97,102,116,45,48,52,47,115,99,104,101,109,97]⟩∨T=⟨#[35]⟩∨T=⟨#[]⟩)∧di Tryz.prog 152 #[.string s, .string ⟨#[35]⟩] [] (.string T):=by
 refine⟨_,?_,Ph s hs⟩
 rcases hf with rfl|rfl|rfl|rfl|rfl
 ·exact .inl aD
 ·exact .inl aD
 ·exact .inr (.inr aD)
 ·exact .inr (.inr aD)
 ·exact .inr (.inl aD)
section rules
variable {P:Program} {n:Nat} {F:List Nat} {c:Ctx F} {k:List KI} {Q:cu} {e:dF} {M:List HA} {D:List DA} {q:Nat}
theorem Bm(hq:Nm q)(j:Nat){mb:Nat}{cs:List Value}{f:Flds}(hj:D[j]? =some (.flds mb cs f))(next: ∀ p,cs[q]? =some (.pointer p)→p.isSome=(f q).isSome→Run P n c k Q e M D):Run P n c k Q e M D:=pM j q hj hq.nmok.1 hq.nmok.2.1 next
theorem rJ(hq:Nm q)(j:Nat){mb mb2:Nat}{cs:List Value}{f:Flds}{G:Gr}{v:V}{p:Option Addr}{ft:DA}(hj:D[j]? =some (.flds mb cs f))(hc:cs[q]? =some (.pointer p))(hp:p.isSome=(f q).isSome)(hb:p.isSome=true)(hU: ∀ i,1≤i→i≤36→FldRel (fun b x=>Unf G x b) v i (f i))
  (HF: ∀ key x,getV v key=some x→cR key≠0→Fld ft mb2 G (dD (cR key)) x)
  (next: ∀ fv x a,p=some a→getV v (kz q)=some x→cR (kz q)=q→FvRel (fun b x=>Unf G x b) (dD q) x fv→Fld ft mb2 G (dD q) x→Run P n c k Q e M (.fv (.pointer (some a)) fv::D)):Run P n c k Q e M D:=
 AC j q hj hq.nmok.2.2.1 hq.nmok.2.1 hc hp hb hU (fun fv x a hpa _ hgx hkw hr=>next fv x a hpa hgx hkw hr (by have:=HF _ _ hgx (by rw [hkw];exact hq.nmok.2.2.1);rwa [hkw]at this))
theorem Rw(hq:Nm q){v:V}{f:Flds}{l:List Nat}{n0 m0 ca0:Nat}{A0:Option Addr}{xs0:List Value}{L0:List (ByteArray×Y)}{M1:List HA}{D1:List DA}{x:Code}{e2:dF}(hW:WI v f l L0)(hm:m0≤n0)(he:oJ [3,0] e=some e2)
  (h1: ∀ K:Act→World→Prop,(∀ m A ca xs L,WI v f (q::l) L→m≤n0+2→ ∀ a w,Fits n c ((4, .slice A m ca)::e2) (HA.row A m ca 102 1 xs::M1) (.ptrs xs (L.flatMap eH)::D1) a w→K a w)→Run P n c (.code x:: .cont K::k) Q e (HA.row A0 m0 ca0 102 1 xs0::M1) (.ptrs xs0 (L0.flatMap eH)::D1))
  (h2: ∀ m A ca xs L,WI v f (q::l) L→m≤n0+2→Run P n c k Q ((4, .slice A m ca)::e2) (HA.row A m ca 102 1 xs::M1) (.ptrs xs (L.flatMap eH)::D1)):Run P n c (.code x::k) Q e (HA.row A0 m0 ca0 102 1 xs0::M1) (.ptrs xs0 (L0.flatMap eH)::D1):=
 ix (α:={y:Nat×Option Addr×Nat×List Value×List (ByteArray×Y)//WI v f (q::l) y.2.2.2.2∧y.1≤n0+2}) (fun y=>(4, .slice y.1.2.1 y.1.1 y.1.2.2.1)::e2) (fun y=>HA.row y.1.2.1 y.1.1 y.1.2.2.1 102 1 y.1.2.2.2.1::M1) (fun y=> .ptrs y.1.2.2.2.1 (y.1.2.2.2.2.flatMap eH)::D1)
  (fun K hK=>h1 K (fun m A ca xs L hW hm=>hK ⟨(m,A,ca,xs,L),hW,hm⟩)) (fun y=>h2 _ _ _ _ _ y.2.1 y.2.2)
theorem xz{x:Operand}{b:Bool}(hx:ev e x=some (.bool b))(h:Run P n c k Q e M D):Run P n c (.code (.cond x .skip .skip)::k) Q e M D:=yC hx (fun _=>uF h) (fun _=>uF h)
end rules
theorem iH{q:Nat}{X1 X2 A B C:Prop}(hF:cI Tryz.prog 124 q q)(sc:X1)(pn:X2)(y:C)(x:B)(hq:Nm q:=by exact rfl)(h:Nm q→cI Tryz.prog 124 q q→X1→X2→C→B→A:=by
  intro hq hF sc pn y k
  refine Bm hq 2 Z (fun p hc hp=>?_)
  refine rO 8 Z ?_
  refine zC hF Z Z ?_
  refine oO 1 Z ?_
  refine zJ 1 sc Z Z Z hc ?_
  refine oO 1 Z ?_
  refine xV pn Z Z ?_
  refine oR 1 Z ?_
  refine Rw hq hW hm Z (fun K hK=>?_) k
  refine yC Z (fun h=>?_) (fun h=>?_)
  · revert p hc hp K hK h
    exact y
  refine rR 1 Z ?_
  exact vJ (hK _ _ _ _ _ (hW.skip (none_of hp h)) (Nat.le_add_right_of_le hm)) (eC Z (eC Z (eC Z (eN _)))) (by repeat (first|exact uI _|exact zQ _|refine zB 0 Z ?_|refine zB 1 Z ?_|refine zB 2 Z ?_)) sQ):A:=h hq hF sc pn y x
theorem t1{q:Nat}{A:Prop}(hF:cI Tryz.prog 124 q q)(hq:Nm q:=by exact rfl)(h:Nm q→cI Tryz.prog 124 q q→A:=by
  intro hq hF p hc hp K hK h
  refine rJ hq 2 Z hc hp h hU HF (fun fv x a hpa hgx hkw hr hL=>?_)
  subst hpa
  change FvRel _ 1 x fv at hr
  obtain rfl:=lm hr
  refine ml 0 Z (fun p hp hs=>?_)
  cases hp
  refine rO 8 Z ?_
  refine zC hF Z Z ?_
  refine oO 1 Z ?_
  refine zJ 3 db Z Z Z hc ?_
  refine oO 3 Z ?_
  refine xU 0 dO Z Z Z ?_
  refine oO 1 Z ?_
  refine yE Z Z Z (Bi _ hs) cQ (fun u D hv=>?_)
  obtain⟨b1,rfl,rfl⟩:=hv
  refine oO 1 Z ?_
  refine yG 0 Z Z Z (n7 _ _ _ _ _ _ aE aC) Z cQ (fun u M D hv=>?_)
  obtain⟨A1,c1,b2,rfl,rfl,rfl⟩:=hv
  refine oR 3 Z ?_
  refine uE 4 0 1 Z Z Z ?_
  exact vJ (hK _ _ _ _ _ (hW.add Z hkw hq.nmok.2.2.1 hq.nmok.2.2.2 hgx (.inl ⟨rfl,rfl⟩)) bX) (eC Z (eC Z (eC Z (eN _)))) (by repeat (first|exact uI _|exact zQ _|refine zB 0 Z ?_|refine zB 1 Z ?_|refine zB 2 Z ?_)) (cd 0 Z sQ)):A:=h hq hF
theorem t2{q:Nat}{A:Prop}(hF:cI Tryz.prog 124 q q)(hq:Nm q:=by exact rfl)(h:Nm q→cI Tryz.prog 124 q q→A:=by
  intro hq hF p hc hp K hK h
  refine rJ hq 2 Z hc hp h hU HF (fun fv x a hpa hgx hkw hr hL=>?_)
  subst hpa
  change FvRel _ 2 x fv at hr
  obtain rfl:=Gh hr
  refine Dr 0 Z (fun p hp=>?_)
  cases hp
  refine rO 8 Z ?_
  refine zC hF Z Z ?_
  refine oO 1 Z ?_
  refine zJ 3 ey Z Z Z hc ?_
  refine oO 3 Z ?_
  refine xU 0 lX Z Z Z ?_
  refine oO 1 Z ?_
  refine yE Z Z Z (KB _) cQ (fun u D hv=>?_)
  obtain⟨b1,rfl,rfl⟩:=hv
  refine oO 1 Z ?_
  refine yG 0 Z Z Z (n7 _ _ _ _ _ _ aE aC) Z cQ (fun u M D hv=>?_)
  obtain⟨A1,c1,b2,rfl,rfl,rfl⟩:=hv
  refine oR 3 Z ?_
  refine uE 4 0 1 Z Z Z ?_
  exact vJ (hK _ _ _ _ _ (hW.add Z hkw hq.nmok.2.2.1 hq.nmok.2.2.2 hgx (.inr (.inl ⟨rfl,rfl⟩))) bX) (eC Z (eC Z (eC Z (eN _)))) (by repeat (first|exact uI _|exact zQ _|refine zB 0 Z ?_|refine zB 1 Z ?_|refine zB 2 Z ?_)) (cd 0 Z sQ)):A:=h hq hF
theorem t4{q:Nat}{A:Prop}(hF:cI Tryz.prog 124 q q)(hq:Nm q:=by exact rfl)(h:Nm q→cI Tryz.prog 124 q q→A:=by
  intro hq hF p hc hp K hK h
  refine rJ hq 2 Z hc hp h hU HF (fun fv x a hpa hgx hkw hr hL=>?_)
  subst hpa
  change FvRel _ 4 x fv at hr
  change Fld ft mb G 4 x at hL
  obtain rfl:=KO hr
  refine GV 0 Z (fun p hp=>?_)
  cases hp
  have hn:=Fld.int (.inl (by have:=hL.fit;simp [cN]at this;exact this.1)) hL.pl
  refine rO 8 Z ?_
  refine zC hF Z Z ?_
  refine oO 1 Z ?_
  refine zJ 3 eW Z Z Z hc ?_
  refine oO 3 Z ?_
  refine xU 0 dx Z Z Z ?_
  refine oO 1 Z ?_
  refine yE Z Z Z (M5 _ hn.1 hn.2) (cO 6 Z) (fun u D hv=>?_)
  obtain⟨b1,rfl,rfl⟩:=hv
  refine oO 1 Z ?_
  refine yG 0 Z Z Z (n7 _ _ _ _ _ _ aE aC) Z cQ (fun u M D hv=>?_)
  obtain⟨A1,c1,b2,rfl,rfl,rfl⟩:=hv
  refine oR 3 Z ?_
  refine uE 4 0 1 Z Z Z ?_
  exact vJ (hK _ _ _ _ _ (hW.add Z hkw hq.nmok.2.2.1 hq.nmok.2.2.2 hgx (.inr (.inr (.inr (.inr (.inl ⟨rfl,rfl⟩)))))) bX) (eC Z (eC Z (eC Z (eN _)))) (by repeat (first|exact uI _|exact zQ _|refine zB 0 Z ?_|refine zB 1 Z ?_|refine zB 2 Z ?_)) (cd 0 Z sQ)):A:=h hq hF
theorem Po{q:Nat}{A:Prop}(hF:cI Tryz.prog 124 q q)(hq:Nm q:=by exact rfl)(h:Nm q→cI Tryz.prog 124 q q→A:=by
  intro hq hF p hc hp K hK h
  refine rJ hq 2 Z hc hp h hU HF (fun fv x a hpa hgx hkw hr hL=>?_)
  subst hpa
  change FvRel _ 13 x fv at hr
  obtain⟨bs,rfl,hbs⟩:=Gi hr
  refine Ds 0 Z (fun p sl hp=>?_)
  cases hp
  refine rO 8 Z ?_
  refine zC hF Z Z ?_
  refine oO 1 Z ?_
  refine zJ 4 i4 Z Z Z hc ?_
  refine oO 3 Z ?_
  refine xU 0 zw Z Z Z ?_
  refine oO 1 Z ?_
  refine yE Z Z Z (Rv hL hbs) (cd 1 Z (cd 6 Z (dP 7 8 Z Z))) (fun u D hv=>?_)
  obtain⟨z,hz,b1,rfl,rfl⟩:=hv
  refine oO 1 Z ?_
  refine yG 0 Z Z Z (n7 _ _ _ _ _ _ aE aC) Z cQ (fun u M D hv=>?_)
  obtain⟨A1,c1,b2,rfl,rfl,rfl⟩:=hv
  refine oR 3 Z ?_
  refine uE 5 0 1 Z Z Z ?_
  exact vJ (hK _ _ _ _ _ (hW.add Z hkw hq.nmok.2.2.1 hq.nmok.2.2.2 hgx hz) bX) (eC Z (eC Z (eC Z (eN _)))) (by repeat (first|exact uI _|exact zQ _|refine zB 0 Z ?_|refine zB 1 Z ?_|refine zB 2 Z ?_)) (cd 0 Z sQ)):A:=h hq hF
theorem tG{q:Nat}{X1 X2 A:Prop}(hF:cI Tryz.prog 124 q q)(sc:X1)(w:X2)(hq:Nm q:=by exact rfl)(h:Nm q→cI Tryz.prog 124 q q→X1→X2→A:=by
  intro hq hF sc w p hc hp K hK h
  refine rJ hq 2 Z hc hp h hU HF (fun fv x a hpa hgx hkw hr hL=>?_)
  subst hpa
  refine rO 8 Z ?_
  refine zC hF Z Z ?_
  refine oO 1 Z ?_
  refine zJ 2 sc Z Z Z hc ?_
  refine oO 1 Z ?_
  refine yE Z Z Z (w hL hr) (cd 0 Z (cd 4 Z (dP 5 6 Z Z))) (fun u D hv=>?_)
  obtain⟨z,hz,b1,rfl,rfl⟩:=hv
  refine oO 1 Z ?_
  refine yG 0 Z Z Z (n7 _ _ _ _ _ _ aE aC) Z cQ (fun u M D hv=>?_)
  obtain⟨A1,c1,b2,rfl,rfl,rfl⟩:=hv
  refine oR 3 Z ?_
  refine uE 3 0 1 Z Z Z ?_
  exact vJ (hK _ _ _ _ _ (hW.add Z hkw hq.nmok.2.2.1 hq.nmok.2.2.2 hgx hz) bX) (eC Z (eC Z (eC Z (eN _)))) (by repeat (first|exact uI _|exact zQ _|refine zB 0 Z ?_|refine zB 1 Z ?_|refine zB 2 Z ?_)) (cd 0 Z sQ)):A:=h hq hF sc w
theorem t0{A:Prop}(h:A:=by
 refine rO 9 Z ?_
 refine zC gZ Z Z ?_
 refine oO 1 Z ?_
 refine zJ 5 db Z Z Z hc ?_
 refine oO 3 Z ?_
 refine xU 2 dO Z Z Z ?_
 refine oO 1 Z ?_
 refine yE Z Z Z (Bi _ hs) cQ (fun u D hv=>?_)
 obtain⟨b1,rfl,rfl⟩:=hv
 refine oO 1 Z ?_
 refine yG 0 Z Z Z (n7 _ _ _ _ _ _ aE aC) Z cQ (fun u M D hv=>?_)
 obtain⟨A1,c1,b2,rfl,rfl,rfl⟩:=hv
 refine oR 4 Z ?_
 refine uE 6 0 1 Z Z Z ?_
 exact vJ (hK _ _ _ _ _ (hW.add Z hkw aE aE hgx (.inl ⟨rfl,rfl⟩)) bX) (eC Z (eC Z (eC Z (eN _)))) (by repeat (first|exact uI _|exact zQ _|refine zB 0 Z ?_|refine zB 1 Z ?_|refine zB 2 Z ?_)) (cd 0 Z sQ)):A:=h
set_option maxHeartbeats 4000000 in
theorem NO(ft:DA)(mb:Nat)(G:Gr)(v:V)(HF: ∀ key x,getV v key=some x→cR key≠0→Fld ft mb G (dD (cR key)) x)(hid: ∀ x,getV v kId=some x→ ∃u,getV v dM=some u∧dS u.text):oA ft mb G v:=by
 intro b hb
 refine Ct.of_run (args:=[ptr b]) Tryz.func105 aF Z Tryz.ntmps105 Z (fun c=>?_)
 obtain⟨f,⟨cs,hg⟩,hU⟩:=(tO G v b).1 hb
 refine KE 0 Z hg (fun mb2 hcl=>?_)
 refine pM 1 1 Z aE aE (fun p1 hc1 hp1=>?_)
 refine pM 1 4 Z aE aE (fun p4 hc4 hp4=>?_)
 have hn4:p4.isSome=false:=by rw [hp4,AD hU 4 aE aE aE aE];rfl
 refine pM 1 5 Z aE aE (fun p5 hc5 hp5=>?_)
 have hn5:p5.isSome=false:=by rw [hp5,AD hU 5 aE aE aE aE];rfl
 refine yZ (.ptrs [] (([]:List (ByteArray×Y)).flatMap eH)) (fun w ok h=>rfl) (rO 8 Z ?_)
 refine yV Z Z (GD ..) (oO 1 Z ?_)
 refine yK Z Z Z (fun b6=>?_)
 refine oO 6 Z (xW cn Z Z Z (fun b7=>?_))
 refine oR 3 Z ?_
 have hW:=WI.nil v f
 have hm:=Nat.le_refl 0
 refine iH jX db d8 ?_ ?_
 ·exact t1 jX
 intro m A ca xs L hW hm
 refine iH gZ db d8 ?_ ?_
 ·intro p hc hp K hK h
  refine rJ (q:=2) Z 2 Z hc hp h hU HF (fun fv x a hpa hgx hkw hr hL=>?_)
  subst hpa
  change FvRel _ 1 x fv at hr
  obtain rfl:=lm hr
  refine ml 0 Z (fun p hp hs=>?_)
  cases hp
  obtain⟨u1,hu1,hfo⟩:=hid x hgx
  have hb1:p1.isSome=true:=by
   cases hq1:p1.isSome with
   |true=>rfl
   |false=>
    have:=hU 1 aE aE
    rw [none_of hp1 hq1]at this
    rw [show getV v dM=none from this dM aD]at hu1
    cases hu1
  refine AC 4 1 Z aE aE hc1 hp1 hb1 hU (fun fv1 x1 a1 hpa1 hfv1 hgx1 hkw1 hr1=>?_)
  subst hpa1
  change FvRel _ 1 x1 fv1 at hr1
  obtain rfl:=lm hr1
  refine ml 0 Z (fun p1 hq1 hs1=>?_)
  cases hq1
  rw [show getV v dM=some x1 from hgx1]at hu1
  cases hu1
  obtain⟨T,hT,hcT⟩:=NN _ hs1 hfo
  refine rO 7 Z (zC i5 Z Z ?_)
  refine oO 1 Z (zJ 5 db Z Z Z hc1 ?_)
  refine oO 3 Z (xU 0 dO Z Z Z ?_)
  refine oO 1 Z (zL Z Z Z hcT cQ ?_)
  refine oR 17 Z (zI Z (fun h34=>?_) (fun h34=>?_))
  ·exact rR 3 Z (t0)
  refine rR 9 Z (zI Z (fun h36=>?_) (fun h36=>?_))
  ·exact rR 2 Z (t0)
  refine rR 8 Z (zI Z (fun h38=>?_) (fun h38=>?_))
  ·exact rR 1 Z (t0)
  exact(hT.elim h34 (fun h=>h.elim h36 h38)).elim
 intro m A ca xs L hW hm
 refine iH i5 db d8 ?_ ?_
 ·exact t1 i5
 intro m A ca xs L hW hm
 refine rO 8 Z (zC F4 Z Z ?_)
 refine oO 1 Z (zJ 1 ey Z Z Z hc4 ?_)
 refine oO 1 Z (xV iI Z Z ?_)
 refine oS 2 Z (wL (s:=77) Z hn4 ?_)
 refine oK 11 [4,3,0] Z Z (rO 8 Z ?_)
 refine zC F5 Z Z (oO 1 Z ?_)
 refine zJ 1 ey Z Z Z hc5 (oO 1 Z ?_)
 refine xV iI Z Z (oS 2 Z ?_)
 refine wL (s:=99) Z hn5 (oK 11 [4,3,0] Z Z ?_)
 refine iH jQ DF Iv ?_ ?_
 ·exact tG jQ DF @Ru
 intro m A ca xs L hW hm
 refine iH jC C5 Is ?_ ?_
 ·exact tG jC C5 @w7
 intro m A ca xs L hW hm
 refine iH jY db d8 ?_ ?_
 ·exact t1 jY
 intro m A ca xs L hW hm
 refine iH jI mJ AA ?_ ?_
 ·intro p hc hp K hK h
  refine rJ (q:=21) Z 2 Z hc hp h hU HF (fun fv x a hpa hgx hkw hr hL=>?_)
  subst hpa
  change FvRel _ 8 x fv at hr
  obtain rfl:=D6 hr
  refine Bj 0 Z (fun p sl hp=>?_)
  cases hp
  refine rO 8 Z (zC jI Z Z ?_)
  refine oO 1 Z (zJ 4 mJ Z Z Z hc ?_)
  refine oO 3 Z (xU 0 dV Z Z Z ?_)
  refine oO 1 Z (yE Z Z Z (w8 hL Z) (cO 1 Z) (fun u D hv=>?_))
  obtain⟨z,hz,b1,rfl,rfl⟩:=hv
  have hq:Nm 21:=rfl
  refine oO 1 Z ?_
  refine yG 0 Z Z Z (n7 _ _ _ _ _ _ aE aC) Z cQ (fun u M D hv=>?_)
  obtain⟨A1,c1,b2,rfl,rfl,rfl⟩:=hv
  refine oR 3 Z (uE 5 0 1 Z Z Z ?_)
  exact kQ (hK _ _ _ _ _ (hW.add Z hkw hq.nmok.2.2.1 hq.nmok.2.2.2 hgx hz) bX) (eC Z (eC Z (eC Z (eN _)))) (hD:=(cd 0 Z sQ))
 intro m A ca xs L hW hm
 refine iH jJ oV z9 ?_ ?_
 ·exact tG jJ oV @w6
 intro m A ca xs L hW hm
 refine iH jM i0 oo ?_ ?_
 ·exact tG jM i0 @w9
 intro m A ca xs L hW hm
 refine iH jK i0 oo ?_ ?_
 ·exact tG jK i0 @w9
 intro m A ca xs L hW hm
 refine iH jN C9 It ?_ ?_
 ·exact tG jN C9 @Rs
 intro m A ca xs L hW hm
 refine iH lY db d8 ?_ ?_
 ·exact t1 lY
 intro m A ca xs L hW hm
 refine iH lZ iz om ?_ ?_
 ·exact tG lZ iz @w3
 intro m A ca xs L hW hm
 refine iH la iz om ?_ ?_
 ·exact tG la iz @w3
 intro m A ca xs L hW hm
 refine iH lc ey iI ?_ ?_
 ·exact t2 lc
 intro m A ca xs L hW hm
 refine iH ld iz om ?_ ?_
 ·exact tG ld iz @w3
 intro m A ca xs L hW hm
 refine iH i6 ey iI ?_ ?_
 ·exact t2 i6
 intro m A ca xs L hW hm
 refine iH i7 eW en ?_ ?_
 ·exact t4 i7
 intro m A ca xs L hW hm
 refine iH i8 eW en ?_ ?_
 ·exact t4 i8
 intro m A ca xs L hW hm
 refine iH jA db d8 ?_ ?_
 ·exact t1 jA
 intro m A ca xs L hW hm
 refine iH jB oV z9 ?_ ?_
 ·exact tG jB oV @w6
 intro m A ca xs L hW hm
 refine iH jD eW en ?_ ?_
 ·exact t4 jD
 intro m A ca xs L hW hm
 refine iH jE eW en ?_ ?_
 ·exact t4 jE
 intro m A ca xs L hW hm
 refine iH jF ey iI ?_ ?_
 ·exact t2 jF
 intro m A ca xs L hW hm
 refine iH jG eW en ?_ ?_
 ·exact t4 jG
 intro m A ca xs L hW hm
 refine iH jH eW en ?_ ?_
 ·exact t4 jH
 intro m A ca xs L hW hm
 refine iH jO DC Iu ?_ ?_
 ·exact tG jO DC @Rt
 intro m A ca xs L hW hm
 refine iH jR i4 mj ?_ ?_
 ·exact Po jR
 intro m A ca xs L hW hm
 refine iH jS i4 mj ?_ ?_
 ·exact Po jS
 intro m A ca xs L hW hm
 refine iH jT i4 mj ?_ ?_
 ·exact Po jT
 intro m A ca xs L hW hm
 refine iH jU lN n8 ?_ ?_
 ·intro p hc hp K hK h
  refine rJ (q:=31) Z 2 Z hc hp h hU HF (fun fv x a hpa hgx hkw hr hL=>?_)
  subst hpa
  change FvRel _ 5 x fv at hr
  obtain⟨q1,rfl,hbs⟩:=KP hr
  refine qD (p:=(.pointer (some a):Value)=ptr q1) (fun w ok h=>(dget h 0 Z:FvP w ok (.one q1) _)) (fun hq1=>?_)
  cases hq1
  refine rO 8 Z (zC jU Z Z ?_)
  refine oO 1 Z (zJ 2 lN Z Z Z hc ?_)
  refine oO 1 Z (yE Z Z Z (w5 hL hbs) (cd 4 Z (dP 5 6 Z Z)) (fun u D hv=>?_))
  obtain⟨z,hz,b1,rfl,rfl⟩:=hv
  have hq:Nm 31:=rfl
  refine oO 1 Z ?_
  refine yG 0 Z Z Z (n7 _ _ _ _ _ _ aE aC) Z cQ (fun u M D hv=>?_)
  obtain⟨A1,c1,b2,rfl,rfl,rfl⟩:=hv
  refine oR 3 Z (uE 3 0 1 Z Z Z ?_)
  exact kQ (hK _ _ _ _ _ (hW.add Z hkw hq.nmok.2.2.1 hq.nmok.2.2.2 hgx hz) bX) (eC Z (eC Z (eC Z (eN _)))) (hD:=(cd 0 Z sQ))
 intro m A ca xs L hW hm
 refine iH jV i0 oo ?_ ?_
 ·exact tG jV i0 @w9
 intro m A ca xs L hW hm
 refine pM 2 35 Z aE aE (fun p35 hc35 hp35=>?_)
 refine rO 8 Z (zC mK Z Z ?_)
 refine oO 1 Z (zJ 1 dQ Z Z Z hc35 ?_)
 refine oO 1 Z (xV ui Z Z ?_)
 refine oR 1 Z (xz Z ?_)
 refine iH jZ db d8 ?_ ?_
 ·exact t1 jZ
 intro m A ca xs L hW hm
 refine rO 9 Z (zC wE Z Z ?_)
 refine oO 1 Z (zG 1 (M':=[_,HA.blk _ [_,_,_,_,_,_,_,_,_,_,_,_] _]) Z Z Z Z zu Z Z Z ?_)
 refine oR 8 Z (tH 0 0 _ Z Z aG ?_)
 exact uD 0 0 Z Z aG aE aE (zD Tryz.results105 Z ⟨rfl,_,hW.out hU,b6,rfl,rfl⟩ nS (cO 0 Z))
end Go.Jw

namespace Go.Jw
open Go Go.RowKit Go.Proofs
theorem rL{v x:V}{key:ByteArray}(h:getV v key=some x): ∃j:Nat,v.keys[j]? =some key∧v.items[j]? =some x:=by
  unfold getV at h
  rcases sO v.keys key with hn|⟨j,hj,hlt⟩
  · rw [if_pos hn]at h;cases h
  · rw [hj,if_neg aC]at h
    simp only [Int.toNat_natCast]at h
    refine⟨j,?_,h⟩
    unfold dL at hj
    split at hj
    · rename_i hlt3
      have h4:=List.findIdx_getElem (w:=hlt3)
      have h5:v.keys.findIdx (fun x=>decide (x=key))=j:=by omega
      simp only [h5]at h4
      rw [List.getElem?_eq_getElem hlt]
      simpa using h4
    · omega
theorem EA{sh:Int}{x z:V}(h:z∈cK sh x):z=x∨z∈x.items:=by
 unfold cK at h
 split at h
 ·simp at h;exact .inl h
 split at h
 ·split at h<;>simp at h
  exact .inl h
 split at h
 ·split at h
  ·simp at h;exact .inl h
  ·exact .inr (List.mem_filter.1 h).1
 split at h
 ·exact .inr (List.mem_filter.1 h).1
 ·simp at h
theorem Pp(ft:DA)(mb:Nat)(G:Gr)(v:V):(Ga ft∨iG v)→Pl v→IsShape v→oA ft mb G v:=by
 refine V.indS (p:=fun v=>(Ga ft∨iG v)→Pl v→IsShape v→oA ft mb G v) (fun v IH hN hp hs=>?_) v
 have hfit:=((wA v).1 hs).2
 refine NO ft mb G v (fun key x hx h0=>?_) (fun x hx=>?_)
 ·obtain⟨j,hj1,hj2⟩:=rL hx
  have hsh:=ky h0
  obtain⟨hf,hk,_⟩:=hfit j _ _ hj1 hj2
  have hpl:=hp.item _ (List.mem_of_getElem? hj2)
  have hnn:Ga ft∨(cH key≠3∧ ∀ z∈cK (cH key) x,iG z):=hN.imp id fun h=>⟨((pL v).1 h j _ _ hj1 hj2).1,((pL v).1 h j _ _ hj1 hj2).2.2⟩
  rw [hsh]at hf hk hnn
  refine⟨hpl,hf,fun z hz=>?_,fun h3 h6=>?_⟩
  ·refine IH z (Nat.lt_of_le_of_lt (uW hz) (f7 hj2)) (hnn.imp id fun h=>h.2 z hz) ?_ (hk z hz)
   rcases EA hz with rfl|h
   ·exact hpl
   ·exact hpl.item _ h
  ·rcases hnn with h|h
   ·have:=hpl.num.num (.inr h6)
    exact h x.num this.1 this.2 (hpl.frac h6)
   ·exact absurd h3 h.1
 ·obtain⟨j,hj1,hj2⟩:=rL hx
  exact(hfit j _ _ hj1 hj2).2.2 Z
def rl(s:ByteArray):List UInt8:=s.data.toList
theorem rX(s:ByteArray):s.toList=rl s:=ByteArray.toList_eq s
theorem EB{a b:ByteArray}(h:rl a=rl b):a=b:=by
 cases a;cases b
 simp only [rl]at h
 rw [Array.toList_inj.1 h]
theorem kN(a b:ByteArray):rl (a++b)=rl a++rl b:=by simp [rl]
def hY{α:Type}(l:List (ByteArray×α)):List (ByteArray×α):=l.mergeSort (fun a b=>decide (rl a.1≤rl b.1))
theorem pN{α:Type}(l:List (ByteArray×α)):(hY l).Perm l:=List.mergeSort_perm _ _
theorem uo{α:Type}(l:List (ByteArray×α)):(hY l).Pairwise (fun a b=>rl a.1≤rl b.1):=by
 have:=List.pairwise_mergeSort (le:=fun(a b:ByteArray×α)=>decide (rl a.1≤rl b.1)) (fun a b c h1 h2=>decide_eq_true (List.le_trans (of_decide_eq_true h1) (of_decide_eq_true h2))) (fun a b=>by
  rcases List.le_total (rl a.1) (rl b.1)with h|h<;>simp [h]) l
 exact this.imp fun h=>of_decide_eq_true h
theorem Gj{α:Type}{l:List (ByteArray×α)}(hn:(l.map Prod.fst).Nodup){a b:ByteArray×α}(ha:a∈l)(hb:b∈l)(h:a.1=b.1):a=b:=by
  induction l with
  |nil=>cases ha
  |cons x l ih=>
    rw [List.map_cons,List.nodup_cons]at hn
    rcases List.mem_cons.1 ha with h1|h1<;>rcases List.mem_cons.1 hb with h2|h2
    · rw [h1,h2]
    · exact absurd (List.mem_map.2 ⟨b,h2,by rw [←h,h1]⟩) hn.1
    · exact absurd (List.mem_map.2 ⟨a,h1,by rw [h,h2]⟩) hn.1
    · exact ih hn.2 h1 h2
theorem ln{α:Type}{l l':List (ByteArray×α)}(hp:l'.Perm l)(hs:l'.Pairwise (fun a b=>rl a.1≤rl b.1))(hn:(l.map Prod.fst).Nodup):hY l=l':=
 List.Perm.eq_of_pairwise (le:=fun(a b:ByteArray×α)=>rl a.1≤rl b.1) (fun a b ha hb h1 h2=>Gj hn ((pN l).mem_iff.1 ha) (hp.mem_iff.1 hb) (EB (List.le_antisymm h1 h2))) (uo l) hs ((pN l).trans hp.symm)
theorem Bn{ks:List ByteArray}(h:dy ks):ks.Pairwise (fun a b=>rl a<rl b):=by
  have step: ∀ j (hj:j+1<ks.length),rl ks[j]<rl ks[j+1]:=by
    intro j hj
    have hs:=(h (j+1) hj).2 aC
    have h4: ¬ (rl ks[j+1]<rl ks[j]):=by
      have:=hs.1
      rw [fK,rX,rX]at this
      simpa using this
    refine Classical.byContradiction fun hc=>hs.2 (EB (List.le_antisymm (List.not_lt.1 hc) (List.not_lt.1 h4)))
  rw [List.pairwise_iff_getElem]
  intro i j hi hj hij
  induction j with
  |zero=>omega
  |succ j ih=>
    rcases Nat.lt_or_eq_of_le (Nat.le_of_lt_succ hij)with h6|h6
    · exact List.lt_trans (ih aC h6) (step j hj)
    · subst h6;exact step i hj
theorem uq{ks:List ByteArray}(h:ks.Pairwise (fun a b=>rl a<rl b)):ks.Nodup:=h.imp fun hlt he=>by subst he;exact List.lt_irrefl _ hlt
theorem iX{α:Type}{ks:List ByteArray}{ts:List α}(h:ks.Pairwise (fun a b=>rl a<rl b)):(ks.zip ts).Pairwise (fun a b=>rl a.1<rl b.1):=by
  induction ks generalizing ts with
  |nil=>simp
  |cons k ks ih=>
    cases ts with
    |nil=>simp
    |cons t ts=>
      rw [List.pairwise_cons]at h
      rw [List.zip_cons_cons,List.pairwise_cons]
      exact⟨fun p hp=>h.1 _ (List.of_mem_zip hp).1,ih h.2⟩
theorem x3{α:Type}{l:List (ByteArray×α)}(h:l.Pairwise (fun a b=>rl a.1<rl b.1)):(l.map Prod.fst).Nodup:=by
 rw [List.nodup_iff_pairwise_ne,List.pairwise_map]
 exact h.imp fun hlt he=>by rw [he]at hlt;exact List.lt_irrefl _ hlt
theorem EC{α:Type}{l:List (ByteArray×α)}(h:l.Pairwise (fun a b=>rl a.1<rl b.1)):l.Pairwise (fun a b=>rl a.1≤rl b.1):=h.imp fun hlt=>List.le_of_lt hlt
noncomputable def cp:V→V:=V.fix (α:=V) (fun t f=>if t.kind=5 then .mk 5 t.num t.text ((hY (t.keys.zip (t.items.map f))).map Prod.fst) ((hY (t.keys.zip (t.items.map f))).map Prod.snd)else .mk t.kind t.num t.text t.keys (t.items.map f))
theorem jm(t:V):cp t=if t.kind=5 then .mk 5 t.num t.text ((hY (t.keys.zip (t.items.map cp))).map Prod.fst) ((hY (t.keys.zip (t.items.map cp))).map Prod.snd)else .mk t.kind t.num t.text t.keys (t.items.map cp):=
 V.fix_eq (α:=V) (G:=fun t f=>if t.kind=5 then .mk 5 t.num t.text ((hY (t.keys.zip (t.items.map f))).map Prod.fst) ((hY (t.keys.zip (t.items.map f))).map Prod.snd)else .mk t.kind t.num t.text t.keys (t.items.map f)) (fun t g g' h=>by
  have:t.items.map g=t.items.map g':=List.map_congr_left fun x hx=>h x (yU hx)
  simp only [this]) t
theorem jn{n:Int}{s:ByteArray}{ks:List ByteArray}{ts:List V}{l:List (ByteArray×V)}(h:hY (ks.zip (ts.map cp))=l):cp (.mk 5 n s ks ts)= .mk 5 n s (l.map Prod.fst) (l.map Prod.snd):=by
 rw [jm]
 simp only [V.kind,V.num,V.text,V.keys,V.items,if_true,h]
theorem lq{q n:Int}{s:ByteArray}{ks:List ByteArray}{ts:List V}(h:q≠5):cp (.mk q n s ks ts)= .mk q n s ks (ts.map cp):=by
 rw [jm]
 simp only [V.kind,V.num,V.text,V.keys,V.items]
 exact if_neg h
noncomputable def dU:V→Y:=V.fix (α:=Y) (fun t f=>if t.kind=1 then cU eE (ua (decide (t.num=1)))else if t.kind=2 then cU iS (dm t.num)else if t.kind=6 then cU dz (dn t.num)else if t.kind=3 then cU dT t.text
  else if t.kind=4 then dA 2 (t.items.map f)else if t.kind=5 then dA 4 ((t.keys.zip (t.items.map f)).flatMap eH)else cU mQ mR)
theorem rT(t:V):dU t=if t.kind=1 then cU eE (ua (decide (t.num=1)))else if t.kind=2 then cU iS (dm t.num)else if t.kind=6 then cU dz (dn t.num)else if t.kind=3 then cU dT t.text
  else if t.kind=4 then dA 2 (t.items.map dU)else if t.kind=5 then dA 4 ((t.keys.zip (t.items.map dU)).flatMap eH)else cU mQ mR:=
 V.fix_eq (G:=fun t f=>if t.kind=1 then cU eE (ua (decide (t.num=1)))else if t.kind=2 then cU iS (dm t.num)else if t.kind=6 then cU dz (dn t.num)else if t.kind=3 then cU dT t.text
  else if t.kind=4 then dA 2 (t.items.map f)else if t.kind=5 then dA 4 ((t.keys.zip (t.items.map f)).flatMap eH)else cU mQ mR) (fun t g g' h=>by
  have:t.items.map g=t.items.map g':=List.map_congr_left fun x hx=>h x (yU hx)
  simp only [this]) t
def da(key:ByteArray):Bool:=eb key && !qt key
noncomputable def wr:V→V:=V.fix (α:=V) (fun t g=>dG 5 0 ⟨#[]⟩ da (fun k v=>cJ (cH k) g v) t)
theorem mn(t:V):wr t=dG 5 0 ⟨#[]⟩ da (fun k v=>cJ (cH k) wr v) t:=
 V.fix_eq (G:=fun t g=>dG 5 0 ⟨#[]⟩ da (fun k v=>cJ (cH k) g v) t) (fun t g g' h=>qZ fun k v hv=>qR fun x hx=>h x (Nat.lt_of_le_of_lt hx (yU hv))) t
theorem jo(t:V):(wr t).kind=5:=by rw [mn];rfl
theorem sL(t:V):(normalV t).kind=5:=by rw [sZ];rfl
theorem mo{k m k' m':Int}{s s':ByteArray}{q q':ByteArray→Bool}{f f':ByteArray→V→V}{t:V}:dG k m s q f (dG k' m' s' q' f' t)=dG k m s (fun x=>q' x && q x) (fun x v=>f x (f' x v)) t:=by
  obtain⟨tk,tn,ts,ks,its⟩:=t
  unfold dG
  simp only [V.keys,V.items]
  have hz:(((ks.zip its).filter (fun p=>q' p.1)).map (·.1)).zip (((ks.zip its).filter (fun p=>q' p.1)).map (fun p=>f' p.1 p.2))=((ks.zip its).filter (fun p=>q' p.1)).map (fun p=>(p.1,f' p.1 p.2)):=by
    rw [List.zip_map,]
    generalize (ks.zip its).filter (fun p=>q' p.1)=l
    induction l with
    |nil=>rfl
    |cons a l ih=>simp [ih]
  rw [hz]
  have hf:(((ks.zip its).filter (fun p=>q' p.1)).map (fun p=>(p.1,f' p.1 p.2))).filter (fun p=>q p.1)=((ks.zip its).filter (fun p=>q' p.1 && q p.1)).map (fun p=>(p.1,f' p.1 p.2)):=by
    rw [List.filter_map,List.filter_filter]
    congr 1
    apply List.filter_congr
    intro p hp
    simp [Function.comp,Bool.and_comm]
  rw [hf,List.map_map,List.map_map]
  rfl
theorem ox{sh:Int}{b g:V→V}{x:V}(hk: ∀ y,(g y).kind=5):cJ sh b (cJ sh g x)=cJ sh (fun y=>if y.kind=5 then b (g y)else if sh=5 then b (g y)else b y) x:=by
 have hm: ∀ y,c8 b (c8 g y)=c8 (fun y=>if y.kind=5 then b (g y)else if sh=5 then b (g y)else b y) y:=by
  intro y
  by_cases h:y.kind=5
  ·rw [vF h,vF (hk y),vF h,if_pos h]
  ·rw [qQ h,qQ h,qQ h]
 have ha:cY b (cY g x)=cY (fun y=>if y.kind=5 then b (g y)else if sh=5 then b (g y)else b y) x:=by
  unfold cY
  simp only [V.kind,V.keys,V.items,List.map_map]
  congr 1
  exact List.map_congr_left fun y _=>hm y
 unfold cJ
 by_cases h5:sh=5
 ·simp [h5]
 by_cases h6:sh=6
 ·by_cases hx:x.kind=5<;>simp [h6,hx,hk]
 by_cases h7:sh=7
 ·by_cases hx:x.kind=5
  ·simp [h7,hx,hk]
  ·have hkk: ¬ (cY g x).kind=5:=hx
   subst h7
   simp only [hx,if_false,if_neg hkk,show ¬ ((7:Int)=5)from by decide,show ¬ ((7:Int)=6)from by decide,if_true]at ha⊢
   exact ha
 by_cases h9:sh=9∨sh=13
 ·simp only [if_neg h5,if_neg h6,if_neg h7,if_pos h9]at ha⊢
  exact ha
 ·simp only [if_neg h5,if_neg h6,if_neg h7,if_neg h9]
theorem fN{x:V}(hp:Pl x)(h4:x.kind≠4)(h5:x.kind≠5):dJ x.kind x.num x.text x.keys x.items:=by
 obtain⟨d,h⟩:=hp
 obtain⟨q,m,s,ks,ts⟩:=x
 exact(xG h4 h5).1 h
theorem AE{x:V}(hp:Pl x)(h:x.kind=4∨x.kind=5):eG x.kind x.num x.text x.keys x.items:=by
  obtain⟨d,hd⟩:=hp
  obtain⟨q,m,s,ks,ts⟩:=x
  cases d with
  |zero=>exact absurd hd (sH h)
  |succ d=>exact((wV h).1 hd).1
theorem pO{x:V}(hp:Pl x)(h:x.kind=3):x= .mk 3 0 x.text [] []:=by
 have:=fN hp aC aC
 obtain⟨q,m,s,ks,ts⟩:=x
 simp only [V.kind]at h
 subst h
 simp [dJ,V.kind,V.num,V.text,V.keys,V.items]at this
 obtain⟨h1,h2,h3,_⟩:=this
 subst h1;subst h2;subst h3;rfl
theorem gh{x:V}(hp:Pl x)(h:x.kind=1):x= .mk 1 x.num ⟨#[]⟩ [] []∧(x.num=0∨x.num=1):=by
 have:=fN hp aC aC
 obtain⟨q,m,s,ks,ts⟩:=x
 simp only [V.kind]at h
 subst h
 simp [dJ,V.kind,V.num,V.text,V.keys,V.items]at this
 obtain⟨h1,h2,h3,h4⟩:=this
 subst h1;subst h2;subst h4;exact⟨rfl,h3⟩
theorem mp{x:V}(hp:Pl x)(h:x.kind=2):x= .mk 2 x.num ⟨#[]⟩ [] []:=by
 have:=fN hp aC aC
 obtain⟨q,m,s,ks,ts⟩:=x
 simp only [V.kind]at h
 subst h
 simp [dJ,V.kind,V.num,V.text,V.keys,V.items]at this
 obtain⟨h1,h2,h3,h4,h5⟩:=this
 subst h1;subst h2;subst h5;rfl
theorem ED{x:V}(hp:Pl x)(h:x.kind=6):x= .mk 6 x.num ⟨#[]⟩ [] []:=by
 have:=fN hp aC aC
 obtain⟨q,m,s,ks,ts⟩:=x
 simp only [V.kind]at h
 subst h
 simp [dJ,V.kind,V.num,V.text,V.keys,V.items]at this
 obtain⟨h1,h2,h3,h4,h5,h6⟩:=this
 subst h1;subst h2;subst h6;rfl
theorem rm{x:V}(hp:Pl x)(h:x.kind=4):x= .mk 4 0 ⟨#[]⟩ [] x.items:=by
 have:=AE hp (.inl h)
 obtain⟨q,m,s,ks,ts⟩:=x
 simp only [V.kind]at h
 subst h
 simp [eG,V.kind,V.num,V.text,V.keys,V.items]at this
 obtain⟨h1,h2,h3⟩:=this
 subst h1;subst h2;subst h3;rfl
theorem qT{x:V}(hp:Pl x)(h:x.kind=5):x= .mk 5 0 ⟨#[]⟩ x.keys x.items∧x.keys.length=x.items.length∧x.keys.Pairwise (fun a b=>rl a<rl b):=by
 have:=AE hp (.inr h)
 obtain⟨q,m,s,ks,ts⟩:=x
 simp only [V.kind]at h
 subst h
 simp [eG,V.kind,V.num,V.text,V.keys,V.items]at this
 obtain⟨h1,h2,h3,h4⟩:=this
 subst h1;subst h2;exact⟨rfl,h3,Bn h4⟩
inductive Eql:V→Prop where
  |mk {q m:Int} {s:ByteArray} {ks:List ByteArray} {ts:List V}:(q=5→ks.length=ts.length)→(∀ x∈ts,Eql x)→Eql (.mk q m s ks ts)
theorem Eql.of_wf(x:V):Wf x→Eql x:=by
 refine V.indS (p:=fun x=>Wf x→Eql x) (fun x IH h=>?_) x
 obtain⟨q,m,s,ks,ts⟩:=x
 exact .mk (fun hq=>h.eq hq) fun y hy=>IH y (yU hy) (h.item y hy)
theorem Eql.item{x:V}(h:Eql x): ∀ y∈x.items,Eql y:=by cases h;assumption
theorem Eql.len{x:V}(h:Eql x):x.kind=5→x.keys.length=x.items.length:=by cases h;assumption
theorem x4{ks:List ByteArray}{α:Type}{ts:List α}(h:ks.Pairwise (fun a b=>rl a<rl b)):hY (ks.zip ts)=ks.zip ts:=ln (.refl _) (EC (iX h)) (x3 (iX h))
theorem uO{α β:Type}{l:List α}{l':List β}(h:l.length≤l'.length):(l.zip l').map Prod.fst=l:=List.map_fst_zip h
theorem rM{α β:Type}{l:List α}{l':List β}(h:l'.length≤l.length):(l.zip l').map Prod.snd=l':=List.map_snd_zip h
theorem kO(x:V):Pl x→cp x=x:=by
 refine V.indS (p:=fun x=>Pl x→cp x=x) (fun x IH hp=>?_) x
 have hit:x.items.map cp=x.items:=by
  conv=>rhs;rw [←List.map_id x.items]
  exact List.map_congr_left fun y hy=>IH y (yU hy) (hp.item y hy)
 rw [jm,hit]
 by_cases h:x.kind=5
 ·obtain⟨he,hl,hs⟩:=qT hp h
  rw [if_pos h,x4 hs,uO aC,rM aC]
  refine V.ext (by simp only [V.kind];exact h.symm) Z Z Z Z
 ·rw [if_neg h]
  exact V.ext Z Z Z Z Z
theorem qU{α β:Type}{R:α→β→Prop}: ∀ {l:List α},(∀ a∈l,∃b,R a b)→ ∃l',All2 R l l'
  |[],_=>⟨[],All2.nil R⟩
  |a::l,h=>by
    obtain⟨b,hb⟩:=h a List.mem_cons_self
    obtain⟨l',hl'⟩:=qU (l:=l) fun a ha=>h a (List.mem_cons_of_mem _ ha)
    refine⟨b::l',by simp [hl'.1],fun i x y hx hy=>?_⟩
    cases i with
    |zero=>simp at hx hy;subst hx;subst hy;exact hb
    |succ i=>exact hl'.2 i x y (by simpa using hx) (by simpa using hy)
theorem All2.map_eq{α β γ:Type}{R:α→β→Prop}{f:α→γ}{g:β→γ}{l:List α}{l':List β}(h:All2 R l l')(he: ∀ a b,a∈l→b∈l'→R a b→f a=g b):l.map f=l'.map g:=by
  apply List.ext_getElem?
  intro i
  rw [List.getElem?_map,List.getElem?_map]
  cases ha:l[i]? with
  |none=>
    have:l'[i]? =none:=by rw [List.getElem?_eq_none_iff]at ha⊢;rw [←h.1];exact ha
    rw [this];rfl
  |some a=>
    have hlt:=(List.getElem?_eq_some_iff.1 ha).1
    have hb:l'[i]? =some (l'[i]'(by rw [←h.1];exact hlt)):=List.getElem?_eq_getElem _
    rw [hb]
    simp only [Option.map_some]
    rw [he a _ (List.mem_of_getElem? ha) (List.mem_of_getElem? hb) (h.2 i _ _ ha hb)]
theorem iY{α β:Type}{R:α→β→Prop}{p:β→Prop}{l:List α}{l':List β}(h:All2 R l l')(hp: ∀ a b,R a b→p b): ∀ b∈l',p b:=by
 intro b hb
 obtain⟨i,hi,rfl⟩:=List.getElem_of_mem hb
 exact hp _ _ (h.2 i _ _ (List.getElem?_eq_getElem bf) (List.getElem?_eq_getElem hi))
theorem mq{α β γ:Type}(l:List α)(f:α→β)(g:α→γ):(l.map f).zip (l.map g)=l.map fun a=>(f a,g a):=by
  induction l with
  |nil=>rfl
  |cons a l ih=>simp [ih]
theorem pP(s:ByteArray):dU (.mk 3 0 s [] [])=cU dT s:=by rw [rT];simp [V.kind,V.text]
theorem gi(n:Int):dU (.mk 1 n ⟨#[]⟩ [] [])=cU eE (ua (decide (n=1))):=by rw [rT];exact if_pos rfl
theorem mr(n:Int):dU (.mk 2 n ⟨#[]⟩ [] [])=cU iS (dm n):=by rw [rT];simp [V.kind,V.num]
theorem EE(n:Int):dU (.mk 6 n ⟨#[]⟩ [] [])=cU dz (dn n):=by rw [rT];simp [V.kind,V.num]
theorem x5(ts:List V):dU (.mk 4 0 ⟨#[]⟩ [] ts)=dA 2 (ts.map dU):=by rw [rT];simp [V.kind,V.items]
theorem rn(ks:List ByteArray)(ts:List V):dU (.mk 5 0 ⟨#[]⟩ ks ts)=dA 4 ((ks.zip (ts.map dU)).flatMap eH):=by rw [rT];simp [V.kind,V.keys,V.items]
theorem oy{x:V}(h:x.kind=4):dU x=dA 2 (x.items.map dU):=by rw [rT];simp [h]
theorem mv{ts:List V}(hp: ∀ x∈ts,Pl x)(h3: ∀ x∈ts,x.kind=3):ts.map dU=(ts.map V.text).map (cU dT):=by
 rw [List.map_map]
 refine List.map_congr_left fun x hx=>?_
 rw [pO (hp x hx) (h3 x hx),pP]
 rfl
theorem jp{ps:List (ByteArray×V)}{ws:List V}{x:V}{g:V→V}(hx:x.keys.Pairwise (fun a b=>rl a<rl b))(hl:x.keys.length=x.items.length)(hp:ps.Perm (x.keys.zip x.items))(h:All2 (fun w p=>cp w=g p.2) ws ps):cp (.mk 5 0 ⟨#[]⟩ (ps.map Prod.fst) ws)= .mk 5 0 ⟨#[]⟩ x.keys (x.items.map g):=by
 have e1:ws.map cp=ps.map (fun p=>g p.2):=h.map_eq fun w p _ _ hr=>hr
 have e2:(ps.map Prod.fst).zip (ws.map cp)=ps.map fun p=>(p.1,g p.2):=by rw [e1,mq]
 have e3:x.keys.zip (x.items.map g)=(x.keys.zip x.items).map fun p=>(p.1,g p.2):=by
  rw [List.zip_map_right];rfl
 have hs:hY ((ps.map Prod.fst).zip (ws.map cp))=x.keys.zip (x.items.map g):=by
  refine ln ?_ (EC (iX hx)) ?_
  ·rw [e2,e3];exact(hp.map _).symm
  ·rw [e2,List.map_map]
   have:(ps.map (Prod.fst∘fun p:ByteArray×V=>(p.1,g p.2)))=ps.map Prod.fst:=List.map_congr_left fun _ _=>rfl
   rw [this]
   have hn:((x.keys.zip x.items).map Prod.fst).Nodup:=x3 (iX hx)
   exact(hp.map Prod.fst).nodup_iff.2 hn
 rw [jn hs,uO cD,rM cD]
theorem lB{g:V→V}{ts:List V}(h5: ∀ x∈ts,x.kind=5):ts.map (c8 g)=ts.map g:=List.map_congr_left fun x hx=>vF (h5 x hx)
theorem wF{sh:Int}{g:V→V}{x:V}(h:sh≠5∧sh≠6∧sh≠7∧sh≠9∧sh≠13):cJ sh g x=x:=by
 unfold cJ
 simp [h.1,h.2.1,h.2.2.1,h.2.2.2.1,h.2.2.2.2]
theorem Gk{sh:Int}{x:V}{z:Y}(hp:Pl x)(hf:cN sh x)(IH: ∀ y,y=x∨y∈x.items→y∈cK sh x→ ∀ z,eA y z→ ∃w,z=dU w∧cp w=wr y∧Eql w)(hi:ItemR eA sh x z): ∃w,z=dU w∧cp w=cJ sh wr x∧Eql w:=by
  have self: ∀ (h:sh≠5∧sh≠6∧sh≠7∧sh≠9∧sh≠13) (z:Y),z=dU x→ ∃w,z=dU w∧cp w=cJ sh wr x∧Eql w:=fun h z hz=>⟨x,hz,by rw [wF h,kO x hp], .of_wf x hp.wf⟩
  have texts:x.kind=4→(∀ y∈x.items,y.kind=3)→dU x=dA 2 ((x.items.map V.text).map (cU dT)):=fun h4 h3=>by
    rw [oy h4,mv hp.item h3]
  have lst: ∀ (zs:List Y),(∀ y∈x.items,y.kind=5∧y∈cK sh x)→x.kind=4→All2 (fun z x=>eA x z) zs x.items→ ∃w,dA 2 zs=dU w∧cp w=cY wr x∧Eql w:=by
    intro zs hk h4 hz
    have h2: ∀ p∈zs.zip x.items,∃w,p.1=dU w∧cp w=wr p.2∧Eql w:=fun p hpm=>by
      obtain⟨i,hi,rfl⟩:=List.getElem_of_mem hpm
      simp only [List.length_zip]at hi
      have hlt:i<x.items.length:=by omega
      rw [List.getElem_zip]
      exact IH x.items[i] (.inr (List.getElem_mem hlt)) (hk _ (List.getElem_mem hlt)).2 _ (hz.2 i _ _ (List.getElem?_eq_getElem aC) (List.getElem?_eq_getElem hlt))
    obtain⟨ws,hws⟩:=qU h2
    refine⟨.mk 4 0 ⟨#[]⟩ [] ws,?_,?_, .mk (fun h=>absurd h aE) (iY hws fun p w h=>h.2.2)⟩
    · rw [x5]
      congr 1
      have:=hws.map_eq (f:=Prod.fst) (g:=dU) fun p w _ _ h=>h.1
      rw [uO (by rw [hz.1];exact Nat.le_refl _)]at this
      exact this
    · rw [lq aE]
      have:=hws.map_eq (f:=fun p=>wr p.2) (g:=cp) fun p w _ _ h=>h.2.1.symm
      have e:(zs.zip x.items).map (fun p=>wr p.2)=x.items.map wr:=by
        have:=congrArg (List.map wr) (rM (l:=zs) (l':=x.items) (by rw [hz.1];exact Nat.le_refl _))
        rw [List.map_map]at this
        exact this
      unfold cY
      rw [←this,e,lB fun y hy=>(hk y hy).1,rm hp h4]
      rfl
  unfold ItemR at hi
  rcases hi with ⟨rfl,rfl⟩|⟨rfl,rfl⟩|⟨rfl,hk,rfl⟩|⟨rfl,hk,rfl⟩|⟨rfl,rfl⟩|⟨rfl,hr⟩|⟨rfl,hk,rfl⟩|⟨rfl,hk,hr⟩|⟨rfl,hk,hr⟩|⟨rfl,hk,zs,rfl,hz⟩|⟨rfl,rfl⟩|⟨rfl,ps,L,rfl,hpm,hz⟩|⟨rfl,ps,hpm,rfl⟩|⟨rfl,rfl⟩|⟨rfl,hk,rfl⟩|⟨rfl,hk,rfl⟩|⟨rfl,zs,rfl,hz⟩
  · have hk:x.kind=3:=by simpa [cN]using hf
    refine self aE _ ?_
    conv=>rhs;rw [pO hp hk,pP]
  · have hk:x.kind=1:=by simpa [cN]using hf
    refine self aE _ ?_
    conv=>rhs;rw [(gh hp hk).1,gi]
  · refine self aE _ ?_
    conv=>rhs;rw [mp hp hk,mr]
  · refine self aE _ ?_
    conv=>rhs;rw [ED hp hk,EE]
  · have hk:x.kind=2:=by
                               have:x.kind=2∧0≤x.num:=by simpa [cN]using hf
                               exact this.1
    refine self aE _ ?_
    conv=>rhs;rw [mp hp hk,mr]
  · obtain⟨w,h1,h2,h3⟩:=IH x (.inl rfl) cB z hr
    exact⟨w,h1,by rw [h2];simp [cJ],h3⟩
  · refine⟨x,?_,?_, .of_wf x hp.wf⟩
    · conv=>rhs;rw [(gh hp hk).1,gi]
    · rw [kO x hp];simp [cJ,hk]
  · obtain⟨w,h1,h2,h3⟩:=IH x (.inl rfl) bc z hr
    exact⟨w,h1,by rw [h2];simp [cJ,hk],h3⟩
  · obtain⟨w,h1,h2,h3⟩:=IH x (.inl rfl) be z hr
    exact⟨w,h1,by rw [h2];simp [cJ,hk],h3⟩
  · have h5: ∀ y∈x.items,y.kind=5:=by
      simp [cN,hk]at hf
      exact hf
    obtain⟨w,h1,h2,h3⟩:=lst zs (fun y hy=>⟨h5 y hy,by rw [iV hk h5];exact hy⟩) hk hz
    exact⟨w,h1,by rw [h2];simp [cJ,hk],h3⟩
  · have h:x.kind=4∧ ∀ y∈x.items,y.kind=3:=by simpa [cN]using hf
    exact self aE _ (texts h.1 h.2).symm
  · have h:x.kind=5∧ ∀ y∈x.items,y.kind=5:=by simpa [cN]using hf
    obtain⟨he,hl,hs⟩:=qT hp h.1
    have h2: ∀ q∈L.zip ps,∃w,q.1.2=dU w∧cp w=wr q.2.2∧Eql w:=fun q hq=>by
      obtain⟨i,hi,rfl⟩:=List.getElem_of_mem hq
      simp only [List.length_zip]at hi
      have hlt:i<ps.length:=by omega
      rw [List.getElem_zip]
      have hm:=(List.of_mem_zip (hpm.mem_iff.1 (List.getElem_mem hlt))).2
      exact IH ps[i].2 (.inr hm) (by rw [mh h.2];exact hm) _ (hz.2 i _ _ (List.getElem?_eq_getElem aC) (List.getElem?_eq_getElem hlt)).2
    obtain⟨ws,hws⟩:=qU h2
    have hll:L.length=ps.length:=hz.1
    have e1:L.map Prod.fst=ps.map Prod.fst:=hz.map_eq fun a b _ _ h=>h.1
    have e2:L.map Prod.snd=ws.map dU:=by
      have:=hws.map_eq (f:=fun q=>q.1.2) (g:=dU) fun p w _ _ h=>h.1
      rw [←this]
      have:=congrArg (List.map Prod.snd) (uO (l:=L) (l':=ps) aC)
      rw [List.map_map]at this
      exact this.symm
    have e3:All2 (fun w p=>cp w=wr p.2) ws ps:=by
      refine⟨by have:=hws.1;rw [List.length_zip]at this;omega,fun i w p hw hpp=>?_⟩
      have hlt:=(List.getElem?_eq_some_iff.1 hpp).1
      have hq:(L.zip ps)[i]? =some (L[i]'aC,p):=by
        rw [List.getElem?_eq_getElem cD,List.getElem_zip]
        rw [List.getElem?_eq_getElem hlt]at hpp
        cases hpp
        rfl
      exact(hws.2 i _ w hq hw).2.1
    refine⟨.mk 5 0 ⟨#[]⟩ (ps.map Prod.fst) ws,?_,?_, .mk (fun _=>by rw [List.length_map];exact e3.1.symm) (iY hws fun p w h=>h.2.2)⟩
    · rw [rn,←e1,←e2]
      congr 2
      exact List.zip_of_prod Z Z
    · rw [jp hs hl hpm e3]
      simp only [cJ,cY,show ¬ ((9:Int)=5)from by decide,show ¬ ((9:Int)=6)from by decide,show ¬ ((9:Int)=7)from by decide,if_false,true_or,if_true]
      rw [lB h.2,h.1]
  · have h:x.kind=5∧ ∀ y∈x.items,y.kind=4∧ ∀ z∈y.items,z.kind=3:=by simpa [cN]using hf
    obtain⟨he,hl,hs⟩:=qT hp h.1
    refine⟨.mk 5 0 ⟨#[]⟩ (ps.map Prod.fst) (ps.map Prod.snd),?_,?_, .mk (fun _=>by simp) (fun y hy=>by
      obtain⟨p,hpp,rfl⟩:=List.mem_map.1 hy
      exact .of_wf _ (hp.item _ (List.of_mem_zip (hpm.mem_iff.1 hpp)).2).wf)⟩
    · rw [rn,List.map_map]
      congr 2
      rw [mq]
      refine List.map_congr_left fun p hpp=>?_
      have hm:=(List.of_mem_zip (hpm.mem_iff.1 hpp)).2
      have hpl:=hp.item p.2 hm
      simp only [Function.comp]
      rw [rm hpl (h.2 p.2 hm).1,x5,mv hpl.item (h.2 p.2 hm).2]
      rfl
    · rw [wF aE,jp (g:=id) hs hl hpm,List.map_id]
      · exact he.symm
      · refine⟨by simp,fun i w p hw hpp=>?_⟩
        rw [List.getElem?_map,hpp]at hw
        cases hw
        exact kO _ (hp.item _ (List.of_mem_zip (hpm.mem_iff.1 (List.mem_of_getElem? hpp))).2)
  · have h:x.kind=4∧ ∀ y∈x.items,y.kind=3∨y.kind=1:=by simpa [cN]using hf
    refine self aE _ ?_
    rw [oy h.1]
    congr 1
    rw [List.map_map]
    refine List.map_congr_left fun y hy=>?_
    simp only [Function.comp]
    unfold Dh
    rcases h.2 y hy with h1|h1
    · rw [if_pos h1,pO (hp.item y hy) h1,pP];rfl
    · rw [if_neg aC,(gh (hp.item y hy) h1).1,gi];rfl
  · refine self aE _ ?_
    conv=>rhs;rw [pO hp hk,pP]
  · have h:x.kind=3∨(x.kind=4∧ ∀ y∈x.items,y.kind=3):=by simpa [cN]using hf
    rcases h with h|h
    · omega
    · exact self aE _ (texts h.1 h.2).symm
  · have h:x.kind=4∧ ∀ y∈x.items,y.kind=5:=by simpa [cN]using hf
    obtain⟨w,h1,h2,h3⟩:=lst zs (fun y hy=>⟨h.2 y hy,by rw [kK h.2];exact hy⟩) h.1 hz
    exact⟨w,h1,by rw [h2];simp [cJ],h3⟩
def cl:List ByteArray:=[⟨#[36,115,99,104,101,109,97]⟩,⟨#[105,100]⟩,⟨#[36,114,101,102]⟩,⟨#[112,97,116,116,101,114,110]⟩,⟨#[116,105,116,108,101]⟩,⟨#[100,101,115,99,114,105,112,116,105,111,110]⟩,⟨#[102,111,114,109,97,116]⟩,⟨#[114,101,97,100,79,110,108,121]⟩,⟨#[119,114,105,116,101,79,110,108,121]⟩,⟨#[101,120,99,108,117,115,105,118,101,77,97,120,105,109,117,109]⟩,⟨#[101,120,99,108,117,115,105,118,101,77,105,110,105,109,117,109]⟩,⟨#[117,110,105,113,117,101,73,116,101,109,115]⟩,⟨#[109,117,108,116,105,112,108,101,79,102]⟩,⟨#[109,97,120,105,109,117,109]⟩,⟨#[109,105,110,105,109,117,109]⟩,⟨#[109,97,120,76,101,110,103,116,104]⟩,⟨#[109,105,110,76,101,110,103,116,104]⟩,⟨#[109,97,120,73,116,101,109,115]⟩,⟨#[109,105,110,73,116,101,109,115]⟩,⟨#[109,97,120,80,114,111,112,101,114,116,105,101,115]⟩,⟨#[109,105,110,80,114,111,112,101,114,116,105,101,115]⟩,⟨#[110,111,116]⟩,⟨#[97,100,100,105,116,105,111,110,97,108,73,116,101,109,115]⟩,⟨#[97,100,100,105,116,105,111,110,97,108,80,114,111,112,101,114,116,105,101,115]⟩,⟨#[105,116,101,109,115]⟩,⟨#[114,101,113,117,105,114,101,100]⟩,⟨#[112,114,111,112,101,114,116,105,101,115]⟩,⟨#[112,97,116,116,101,114,110,80,114,111,112,101,114,116,105,101,115]⟩,⟨#[100,101,102,105,110,105,116,105,111,110,115]⟩,⟨#[100,101,112,101,110,100,101,110,99,105,101,115]⟩,⟨#[101,110,117,109]⟩,⟨#[116,121,112,101]⟩,⟨#[97,108,108,79,102]⟩,⟨#[97,110,121,79,102]⟩,⟨#[111,110,101,79,102]⟩,⟨#[100,101,102,97,117,108,116]⟩]
theorem Gl{key:ByteArray}(h:cH key≠0):key∈cl:=by
 unfold cH at h
 by_cases e0:key=⟨#[36,115,99,104,101,109,97]⟩
 ·exact List.mem_of_getElem? (l:=cl) (i:=0) (by rw [e0];rfl)
 rw [if_neg e0]at h
 by_cases e1:key=⟨#[105,100]⟩
 ·exact List.mem_of_getElem? (l:=cl) (i:=1) (by rw [e1];rfl)
 rw [if_neg e1]at h
 by_cases e2:key=⟨#[36,114,101,102]⟩
 ·exact List.mem_of_getElem? (l:=cl) (i:=2) (by rw [e2];rfl)
 rw [if_neg e2]at h
 by_cases e3:key=⟨#[112,97,116,116,101,114,110]⟩
 ·exact List.mem_of_getElem? (l:=cl) (i:=3) (by rw [e3];rfl)
 rw [if_neg e3]at h
 by_cases e4:key=⟨#[116,105,116,108,101]⟩
 ·exact List.mem_of_getElem? (l:=cl) (i:=4) (by rw [e4];rfl)
 rw [if_neg e4]at h
 by_cases e5:key=⟨#[100,101,115,99,114,105,112,116,105,111,110]⟩
 ·exact List.mem_of_getElem? (l:=cl) (i:=5) (by rw [e5];rfl)
 rw [if_neg e5]at h
 by_cases e6:key=⟨#[102,111,114,109,97,116]⟩
 ·exact List.mem_of_getElem? (l:=cl) (i:=6) (by rw [e6];rfl)
 rw [if_neg e6]at h
 by_cases e7:key=⟨#[114,101,97,100,79,110,108,121]⟩
 ·exact List.mem_of_getElem? (l:=cl) (i:=7) (by rw [e7];rfl)
 rw [if_neg e7]at h
 by_cases e8:key=⟨#[119,114,105,116,101,79,110,108,121]⟩
 ·exact List.mem_of_getElem? (l:=cl) (i:=8) (by rw [e8];rfl)
 rw [if_neg e8]at h
 by_cases e9:key=⟨#[101,120,99,108,117,115,105,118,101,77,97,120,105,109,117,109]⟩
 ·exact List.mem_of_getElem? (l:=cl) (i:=9) (by rw [e9];rfl)
 rw [if_neg e9]at h
 by_cases e10:key=⟨#[101,120,99,108,117,115,105,118,101,77,105,110,105,109,117,109]⟩
 ·exact List.mem_of_getElem? (l:=cl) (i:=10) (by rw [e10];rfl)
 rw [if_neg e10]at h
 by_cases e11:key=⟨#[117,110,105,113,117,101,73,116,101,109,115]⟩
 ·exact List.mem_of_getElem? (l:=cl) (i:=11) (by rw [e11];rfl)
 rw [if_neg e11]at h
 by_cases e12:key=⟨#[109,117,108,116,105,112,108,101,79,102]⟩
 ·exact List.mem_of_getElem? (l:=cl) (i:=12) (by rw [e12];rfl)
 rw [if_neg e12]at h
 by_cases e13:key=⟨#[109,97,120,105,109,117,109]⟩
 ·exact List.mem_of_getElem? (l:=cl) (i:=13) (by rw [e13];rfl)
 rw [if_neg e13]at h
 by_cases e14:key=⟨#[109,105,110,105,109,117,109]⟩
 ·exact List.mem_of_getElem? (l:=cl) (i:=14) (by rw [e14];rfl)
 rw [if_neg e14]at h
 by_cases e15:key=⟨#[109,97,120,76,101,110,103,116,104]⟩
 ·exact List.mem_of_getElem? (l:=cl) (i:=15) (by rw [e15];rfl)
 rw [if_neg e15]at h
 by_cases e16:key=⟨#[109,105,110,76,101,110,103,116,104]⟩
 ·exact List.mem_of_getElem? (l:=cl) (i:=16) (by rw [e16];rfl)
 rw [if_neg e16]at h
 by_cases e17:key=⟨#[109,97,120,73,116,101,109,115]⟩
 ·exact List.mem_of_getElem? (l:=cl) (i:=17) (by rw [e17];rfl)
 rw [if_neg e17]at h
 by_cases e18:key=⟨#[109,105,110,73,116,101,109,115]⟩
 ·exact List.mem_of_getElem? (l:=cl) (i:=18) (by rw [e18];rfl)
 rw [if_neg e18]at h
 by_cases e19:key=⟨#[109,97,120,80,114,111,112,101,114,116,105,101,115]⟩
 ·exact List.mem_of_getElem? (l:=cl) (i:=19) (by rw [e19];rfl)
 rw [if_neg e19]at h
 by_cases e20:key=⟨#[109,105,110,80,114,111,112,101,114,116,105,101,115]⟩
 ·exact List.mem_of_getElem? (l:=cl) (i:=20) (by rw [e20];rfl)
 rw [if_neg e20]at h
 by_cases e21:key=⟨#[110,111,116]⟩
 ·exact List.mem_of_getElem? (l:=cl) (i:=21) (by rw [e21];rfl)
 rw [if_neg e21]at h
 by_cases e22:key=⟨#[97,100,100,105,116,105,111,110,97,108,73,116,101,109,115]⟩
 ·exact List.mem_of_getElem? (l:=cl) (i:=22) (by rw [e22];rfl)
 rw [if_neg e22]at h
 by_cases e23:key=⟨#[97,100,100,105,116,105,111,110,97,108,80,114,111,112,101,114,116,105,101,115]⟩
 ·exact List.mem_of_getElem? (l:=cl) (i:=23) (by rw [e23];rfl)
 rw [if_neg e23]at h
 by_cases e24:key=⟨#[105,116,101,109,115]⟩
 ·exact List.mem_of_getElem? (l:=cl) (i:=24) (by rw [e24];rfl)
 rw [if_neg e24]at h
 by_cases e25:key=⟨#[114,101,113,117,105,114,101,100]⟩
 ·exact List.mem_of_getElem? (l:=cl) (i:=25) (by rw [e25];rfl)
 rw [if_neg e25]at h
 by_cases e26:key=⟨#[112,114,111,112,101,114,116,105,101,115]⟩
 ·exact List.mem_of_getElem? (l:=cl) (i:=26) (by rw [e26];rfl)
 rw [if_neg e26]at h
 by_cases e27:key=⟨#[112,97,116,116,101,114,110,80,114,111,112,101,114,116,105,101,115]⟩
 ·exact List.mem_of_getElem? (l:=cl) (i:=27) (by rw [e27];rfl)
 rw [if_neg e27]at h
 by_cases e28:key=⟨#[100,101,102,105,110,105,116,105,111,110,115]⟩
 ·exact List.mem_of_getElem? (l:=cl) (i:=28) (by rw [e28];rfl)
 rw [if_neg e28]at h
 by_cases e29:key=⟨#[100,101,112,101,110,100,101,110,99,105,101,115]⟩
 ·exact List.mem_of_getElem? (l:=cl) (i:=29) (by rw [e29];rfl)
 rw [if_neg e29]at h
 by_cases e30:key=⟨#[101,110,117,109]⟩
 ·exact List.mem_of_getElem? (l:=cl) (i:=30) (by rw [e30];rfl)
 rw [if_neg e30]at h
 by_cases e31:key=⟨#[116,121,112,101]⟩
 ·exact List.mem_of_getElem? (l:=cl) (i:=31) (by rw [e31];rfl)
 rw [if_neg e31]at h
 by_cases e32:key=⟨#[97,108,108,79,102]⟩
 ·exact List.mem_of_getElem? (l:=cl) (i:=32) (by rw [e32];rfl)
 rw [if_neg e32]at h
 by_cases e33:key=⟨#[97,110,121,79,102]⟩
 ·exact List.mem_of_getElem? (l:=cl) (i:=33) (by rw [e33];rfl)
 rw [if_neg e33]at h
 by_cases e34:key=⟨#[111,110,101,79,102]⟩
 ·exact List.mem_of_getElem? (l:=cl) (i:=34) (by rw [e34];rfl)
 rw [if_neg e34]at h
 by_cases e35:key=⟨#[100,101,102,97,117,108,116]⟩
 ·exact List.mem_of_getElem? (l:=cl) (i:=35) (by rw [e35];rfl)
 rw [if_neg e35]at h
 exact absurd Z h
theorem NP{key:ByteArray}(h0:cR key=0):cH key=0∨qt key=true:=by
  by_cases h:cH key=0
  · exact .inl h
  · have: ∀ k∈cl,cR k=0→qt k=true:=by decide+kernel
    exact .inr (this key (Gl h) h0)
theorem isWr_kw{key:ByteArray}:da key=true↔cR key≠0∧cR key≠35:=by
 by_cases h0:cR key=0
 ·have hk:da key=false:=by
   unfold da eb
   rcases NP h0 with h|h<;>simp [h]
  rw [hk];simp [h0]
 ·have hk:=kG (key:=key) rfl h0
  have hm:=tx h0
  generalize hq:cR key=q at*
  subst hk
  have: ∀ q∈List.range 37,cR (kz q)=q→q≠0→(da (kz q)=true↔q≠0∧q≠35):=by decide+kernel
  exact this q (List.mem_range.2 aC) hq h0
theorem sR{α β:Type}{f:α→β}{l:List α}(h:(l.map f).Nodup):l.Nodup:=by
 rw [List.nodup_iff_pairwise_ne,List.pairwise_map]at h
 rw [List.nodup_iff_pairwise_ne]
 exact h.imp fun h e=>h (congrArg f e)
theorem xI{v x:V}{key:ByteArray}(hp:Pl v)(hk:v.kind=5):(key,x)∈v.keys.zip v.items↔getV v key=some x:=by
 constructor
 ·intro h
  exact rh (back:=false) hp.wf hk (hp.keys hk) (p:=(key,x)) h
 ·intro h
  exact z7 (back:=false) hp.wf hk h
theorem KQ(v:V):Pl v→IsShape v→ ∀ y,eA v y→ ∃u,y=dU u∧cp u=wr v∧Eql u:=by
  refine V.indS (p:=fun v=>Pl v→IsShape v→ ∀ y,eA v y→ ∃u,y=dU u∧cp u=wr v∧Eql u) (fun v IH hp hs y ho=>?_) v
  obtain⟨L,rfl,hnd,hmem,hall⟩:=(uj v y).1 ho
  have hk5:=hs.kind
  have hfit:=((wA v).1 hs).2
  obtain⟨he,hl,hsort⟩:=qT hp hk5
  have hit: ∀ p∈L,∃w,∃x,getV v p.1=some x∧p.2=dU w∧cp w=cJ (cH p.1) wr x∧Eql w:=by
    intro p hpm
    obtain⟨h0,h35,x,hx,hi⟩:=hmem p hpm
    obtain⟨j,hj1,hj2⟩:=rL hx
    obtain⟨hf,hkid,_⟩:=hfit j _ _ hj1 hj2
    have hxm:x∈v.items:=List.mem_of_getElem? hj2
    have hpl:=hp.item x hxm
    rw [←ky h0]at hi
    obtain⟨w,h1,h2,h3⟩:=Gk hpl hf (fun y hy hyk z hz=>by
      refine IH y ?_ ?_ (hkid y hyk) z hz
      · exact Nat.lt_of_le_of_lt (uW hyk) (yU hxm)
      · rcases hy with rfl|hy
        · exact hpl
        · exact hpl.item y hy) hi
    exact⟨w,x,hx,h1,h2,h3⟩
  obtain⟨ws,hws⟩:=qU hit
  have hkeys:(L.map Prod.fst).Nodup:=by
    have:(L.map fun p=>cR p.1)=(L.map Prod.fst).map cR:=by rw [List.map_map];rfl
    rw [this]at hnd
    exact sR hnd
  refine⟨.mk 5 0 ⟨#[]⟩ (L.map Prod.fst) ws,?_,?_, .mk (fun _=>by rw [List.length_map];exact hws.1) (iY hws fun p w ⟨_,_,_,_,h⟩=>h)⟩
  · rw [rn]
    have:L.map Prod.snd=ws.map dU:=hws.map_eq fun p w _ _ ⟨x,_,h,_,_⟩=>h
    rw [←this]
    congr 2
    exact List.zip_of_prod Z Z
  · have hsrt:hY ((L.map Prod.fst).zip (ws.map cp))=((v.keys.zip v.items).filter (fun p=>da p.1)).map (fun p=>(p.1,cJ (cH p.1) wr p.2)):=by
      have hzl:L.length=ws.length:=hws.1
      have hpw:(((v.keys.zip v.items).filter (fun p=>da p.1)).map (fun p=>(p.1,cJ (cH p.1) wr p.2))).Pairwise (fun a b=>rl a.1<rl b.1):=by
        rw [List.pairwise_map]
        exact(iX hsort).sublist List.filter_sublist
      have hn1:(((L.map Prod.fst).zip (ws.map cp)).map Prod.fst).Nodup:=by
        rw [uO cD];exact hkeys
      refine ln ?_ (EC hpw) hn1
      refine(List.perm_ext_iff_of_nodup (sR (x3 hpw)) (sR hn1)).2 fun q=>?_
      constructor
      · intro hq
        obtain⟨p,hpm,rfl⟩:=List.mem_map.1 hq
        obtain⟨hz,hw⟩:=List.mem_filter.1 hpm
        have hx:=(xI hp hk5).1 (show(p.1,p.2)∈_ from hz)
        obtain⟨h0,h35⟩:=isWr_kw.1 hw
        obtain⟨r,hr,hre⟩:=hall p.1 p.2 hx h0 h35
        obtain⟨i,hi,rfl⟩:=List.getElem_of_mem hr
        obtain⟨x,hx',_,h2,_⟩:=hws.2 i _ _ (List.getElem?_eq_getElem hi) (List.getElem?_eq_getElem aC)
        rw [hre]at hx' h2
        rw [hx]at hx'
        cases hx'
        have:((L.map Prod.fst).zip (ws.map cp))[i]'cD=(p.1,cJ (cH p.1) wr p.2):=by
          rw [List.getElem_zip,List.getElem_map,List.getElem_map,hre,h2]
        rw [←this]
        exact List.getElem_mem _
      · intro hq
        obtain⟨i,hi,rfl⟩:=List.getElem_of_mem hq
        simp only [List.length_zip,List.length_map]at hi
        rw [List.getElem_zip,List.getElem_map,List.getElem_map]
        obtain⟨x,hx',_,h2,_⟩:=hws.2 i _ _ (List.getElem?_eq_getElem aC) (List.getElem?_eq_getElem aC)
        rw [h2]
        obtain⟨h0,h35,_⟩:=hmem L[i] (List.getElem_mem _)
        exact List.mem_map.2 ⟨(L[i].1,x),List.mem_filter.2 ⟨(xI hp hk5).2 hx',isWr_kw.2 ⟨h0,h35⟩⟩,rfl⟩
    rw [jn hsrt,mn]
    unfold dG
    rw [List.map_map,List.map_map]
    rfl
end Go.Jw

namespace Go.Jw
open Go Go.RowKit Go.Proofs
set_option maxRecDepth 8000
def bs(l:List UInt8):ByteArray:=⟨l.toArray⟩
theorem I1(s:ByteArray):s.size=(rl s).length:=rfl
instance:Inhabited (List UInt8→List UInt8):=⟨fun _=>[]⟩
def CX:V:= .mk 0 0 ⟨#[]⟩ [] []
theorem pQ(u:V):(cp u).kind=u.kind:=by
 rw [jm]
 split
 ·rename_i h;exact h.symm
 ·rfl
theorem ur{u x:V}(he:Eql u)(h:x∈u.items):cp x∈(cp u).items:=by
 rw [jm]
 split
 ·rename_i h5
  have hl:=he.len h5
  simp only [V.items]
  rw [((pN _).map Prod.snd).mem_iff,rM (by rw [List.length_map];exact Nat.le_of_eq hl.symm)]
  exact List.mem_map.2 ⟨x,h,rfl⟩
 ·exact List.mem_map.2 ⟨x,h,rfl⟩
theorem Gm{u:V}(hp:Pl (cp u))(h4:u.kind≠4)(h5:u.kind≠5):Pl u∧cp u=u:=by
 have hs:=fN hp (by rw [pQ];exact h4) (by rw [pQ];exact h5)
 obtain⟨q,m,s,ks,ts⟩:=u
 simp only [V.kind]at h4 h5
 rw [lq h5]at hs hp⊢
 simp only [dJ,V.kind,V.num,V.text,V.keys,V.items]at hs
 have:ts=[]:=by simpa using hs.2.1
 subst this
 exact⟨hp,rfl⟩
theorem Pq{u:V}(hp:Pl (cp u))(he:Eql u)(h:u.kind=4):u= .mk 4 0 ⟨#[]⟩ [] u.items∧u.items.length≤60∧ ∀ x∈u.items,Pl (cp x)∧Eql x:=by
 have h1:=rm hp (by rw [pQ];exact h)
 have h2:=hp.len
 have hit: ∀ x∈u.items,Pl (cp x)∧Eql x:=fun x hx=>⟨hp.item _ (ur he hx),he.item x hx⟩
 obtain⟨q,m,s,ks,ts⟩:=u
 simp only [V.kind]at h
 subst h
 rw [lq aE]at h1 h2
 simp only [V.items,List.length_map]at h1 h2
 injection h1 with _ a b c _
 subst a;subst b;subst c
 exact⟨rfl,h2,hit⟩
theorem Pr{u:V}(hp:Pl (cp u))(he:Eql u)(h:u.kind=5):u= .mk 5 0 ⟨#[]⟩ u.keys u.items∧u.keys.length=u.items.length∧u.items.length≤60∧u.keys.Nodup∧(∀ k∈u.keys,eT k∧k∈(cp u).keys)∧ ∀ x∈u.items,Pl (cp x)∧Eql x:=by
 have h0:=hp.keys (by rw [pQ];exact h)
 obtain⟨h1,hl,hs⟩:=qT hp (by rw [pQ];exact h)
 have h2:=hp.len
 have hle:=he.len h
 have hit: ∀ x∈u.items,Pl (cp x)∧Eql x:=fun x hx=>⟨hp.item _ (ur he hx),he.item x hx⟩
 obtain⟨q,m,s,ks,ts⟩:=u
 simp only [V.kind]at h
 subst h
 simp only [V.keys,V.items]at hle hit⊢
 have hpk:((hY (ks.zip (ts.map cp))).map Prod.fst).Perm ks:=by
  have:=(pN (ks.zip (ts.map cp))).map Prod.fst
  rw [uO cD]at this
  exact this
 have hpi:((hY (ks.zip (ts.map cp))).map Prod.snd).length=ts.length:=by
  rw [List.length_map,(pN _).length_eq,List.length_zip,List.length_map];omega
 rw [jn rfl]at h0 h1 h2 hs⊢
 simp only [V.keys,V.items]at h0 h1 h2 hs⊢
 injection h1 with _ a b _ _
 subst a;subst b
 refine⟨rfl,hle,aC,hpk.nodup_iff.1 (uq hs),fun k hk=>?_,hit⟩
 have hk':=hpk.mem_iff.2 hk
 obtain⟨i,hi,rfl⟩:=List.getElem_of_mem hk'
 exact⟨(h0 i hi).1,hk'⟩
noncomputable def nodes:V→Nat:=V.fix (α:=Nat) (fun t f=>1+(t.items.map f).sum)
theorem tK(t:V):nodes t=1+(t.items.map nodes).sum:=V.fix_eq (α:=Nat) (G:=fun t f=>1+(t.items.map f).sum) (fun t g g' h=>by
 have:t.items.map g=t.items.map g':=List.map_congr_left fun x hx=>h x (yU hx)
 simp only [this]) t
theorem MH{q m:Int}{s:ByteArray}{ks:List ByteArray}{ts:List V}:(V.mk q m s ks ts).items=ts:=rfl
theorem Rx{q m:Int}{s:ByteArray}{ks:List ByteArray}{ts:List V}:(V.mk q m s ks ts).kind=q:=rfl
theorem Ry{q m:Int}{s:ByteArray}{ks:List ByteArray}{ts:List V}:(V.mk q m s ks ts).keys=ks:=rfl
theorem Gn{u:V}(hp:Pl (cp u)):0≤u.kind∧u.kind≤6:=by
  rw [←pQ u]
  by_cases h:(cp u).kind=4∨(cp u).kind=5
  · omega
  · have:=fN hp aC aC
    simp only [dJ]at this
    omega
theorem iK{α:Type}(q:α→Bool)(f:α→Nat)(l:List α):((l.filter q).map f).sum≤(l.map f).sum:=by
  induction l with
  |nil=>simp
  |cons a l ih=>
    rw [List.filter_cons]
    split
    · simp only [List.map_cons,List.sum_cons];omega
    · simp only [List.map_cons,List.sum_cons];omega
theorem iZ{α:Type}{f g:α→Nat}{l:List α}(h: ∀ a∈l,f a≤g a):(l.map f).sum≤(l.map g).sum:=by
  induction l with
  |nil=>simp
  |cons a l ih=>
    simp only [List.map_cons,List.sum_cons]
    have:=h a List.mem_cons_self
    have:=ih fun b hb=>h b (List.mem_cons_of_mem _ hb)
    omega
theorem mw{sh:Int}{g:V→V}{x:V}(h: ∀ y,SizeOf.sizeOf y≤SizeOf.sizeOf x→nodes (g y)≤nodes y):nodes (cJ sh g x)≤nodes x:=by
 have ha:nodes (cY g x)≤nodes x:=by
  rw [tK,tK x]
  unfold cY
  simp only [MH]
  rw [List.map_map]
  have:=iZ (f:=nodes∘c8 g) (g:=nodes) (l:=x.items) fun y hy=>by
   simp only [Function.comp]
   unfold c8
   split
   ·exact h y (Nat.le_of_lt (yU hy))
   ·exact Nat.le_refl _
  omega
 unfold cJ
 split
 ·exact h x (Nat.le_refl _)
 split
 ·split
  ·exact h x (Nat.le_refl _)
  ·exact Nat.le_refl _
 split
 ·split
  ·exact h x (Nat.le_refl _)
  ·exact ha
 split
 ·exact ha
 ·exact Nat.le_refl _
theorem qV{α β:Type}(f:β→Nat): ∀ (l:List α) (l':List β),((l.zip l').map fun p=>f p.2).sum≤(l'.map f).sum
  |[],l'=>by simp
  |a::l,[]=>by simp
  |a::l,b::l'=>by
    have:=qV f l l'
    simp only [List.zip_cons_cons,List.map_cons,List.sum_cons]
    omega
theorem EF(v:V):nodes (wr v)≤nodes v:=by
 refine V.indS (p:=fun v=>nodes (wr v)≤nodes v) (fun v IH=>?_) v
 rw [tK,tK v,mn]
 unfold dG
 simp only [MH]
 rw [List.map_map]
 have h1:=iZ (f:=nodes∘fun p:ByteArray×V=>cJ (cH p.1) wr p.2) (g:=fun p=>nodes p.2) (l:=(v.keys.zip v.items).filter (fun p=>da p.1)) fun p hp=>by
  have hm:=(List.of_mem_zip (List.mem_filter.1 hp).1).2
  exact mw fun y hy=>IH y (Nat.lt_of_le_of_lt hy (yU hm))
 have h2:=iK (fun p:ByteArray×V=>da p.1) (fun p=>nodes p.2) (v.keys.zip v.items)
 have h3:=qV nodes v.keys v.items
 omega
theorem Bo{u:V}(h0:0≤u.kind)(h6:u.kind≤6):(dU u).kind=if u.kind=4 then 2 else if u.kind=5 then 4 else 8:=by
 rw [rT]
 split
 ·rename_i h;first|rfl|(rw [h];rfl)
 split
 ·rename_i h;first|rfl|(rw [h];rfl)
 split
 ·rename_i h;first|rfl|(rw [h];rfl)
 split
 ·rename_i h;first|rfl|(rw [h];rfl)
 split
 ·rename_i h;first|rfl|(rw [h];rfl)
 split
 ·rename_i h;first|rfl|(rw [h];rfl)
 ·rfl
theorem tC{α:Type}{l:List α}{i:Nat}{d:α}(h:i<l.length):l.getD i d=l[i]:=by rw [List.getD_eq_getElem?_getD,List.getElem?_eq_getElem h,Option.getD_some]
theorem oz{ks:List ByteArray}(hw: ∀ k∈ks,eT k)(h:ks.Pairwise (fun a b=>rl a<rl b)):dy ks:=by
 intro i hi
 refine⟨hw _ (List.getElem_mem hi),fun h0=>?_⟩
 have hlt:=(List.pairwise_iff_getElem.1 h) (i - 1) i aC hi aC
 refine⟨?_,fun e=>?_⟩
 ·rw [fK,rX,rX]
  exact decide_eq_false fun h2=>List.lt_irrefl _ (List.lt_trans hlt h2)
 ·rw [e]at hlt
  exact List.lt_irrefl _ hlt
theorem lC{ks:List ByteArray}(h:dy ks): ∀ k∈ks,eT k:=by
 intro k hk
 obtain⟨i,hi,rfl⟩:=List.getElem_of_mem hk
 exact(h i hi).1
theorem kP{d:Nat}{g:V→V}{x:V}(h: ∀ y∈x.items,y.kind=5→ ∀ d,IsPlain d y→IsPlain d (g y))(hx:IsPlain d x)(hk:x.kind=4∨x.kind=5):IsPlain d (cY g x):=by
  obtain⟨q,m,s,ks,ts⟩:=x
  cases d with
  |zero=>exact absurd hx (sH hk)
  |succ d=>
    obtain⟨⟨h1,h2,h3⟩,h4,h5⟩:=(wV hk).1 hx
    unfold cY
    simp only [Rx,Ry,MH]at h hk⊢
    refine(wV hk).2 ⟨⟨rfl,rfl,?_⟩,by simpa using h4,fun y hy=>?_⟩
    · rw [List.length_map];exact h3
    · obtain⟨z,hz,rfl⟩:=List.mem_map.1 hy
      unfold c8
      split
      · rename_i hk5
        exact h z hz hk5 d (h5 z hz)
      · exact h5 z hz
theorem mx{d:Nat}{sh:Int}{g:V→V}{x:V}(hf:cN sh x)(h: ∀ y∈cK sh x,∀ d,IsPlain d y→IsPlain d (g y))(hx:IsPlain d x):IsPlain d (cJ sh g x):=by
 unfold cJ
 split
 ·rename_i h5
  exact h x (by simp [cK,h5]) d hx
 split
 ·rename_i h6
  split
  ·rename_i hk
   exact h x (by rw [h6,z6 hk];simp) d hx
  ·exact hx
 split
 ·rename_i h7
  subst h7
  split
  ·rename_i hk
   exact h x be d hx
  ·rename_i hk
   have hf':x.kind=5∨(x.kind=4∧ ∀ x'∈x.items,x'.kind=5):=by simpa [cN]using hf
   have h4:x.kind=4∧ ∀ x'∈x.items,x'.kind=5:=hf'.elim (fun e=>absurd e hk) id
   exact kP (fun y hy _=>h y bG) hx (.inl h4.1)
 split
 ·rename_i h9
  rcases h9 with h9|h9
  ·subst h9
   have hf':x.kind=5∧ ∀ x'∈x.items,x'.kind=5:=by simpa [cN]using hf
   exact kP (fun y hy _=>h y bM) hx (.inr hf'.1)
  ·subst h9
   have hf':x.kind=4∧ ∀ x'∈x.items,x'.kind=5:=by simpa [cN]using hf
   exact kP (fun y hy _=>h y bL) hx (.inl hf'.1)
 ·exact hx
theorem ut(v:V):IsShape v→ ∀ d,IsPlain d v→IsPlain d (wr v):=by
  refine V.indS (p:=fun v=>IsShape v→ ∀ d,IsPlain d v→IsPlain d (wr v)) (fun v IH hs d hp=>?_) v
  have hk5:=hs.kind
  have hfit:=((wA v).1 hs).2
  have hPl:Pl v:=⟨d,hp⟩
  have hko:=hPl.keys hk5
  obtain⟨he,hl,hsort⟩:=qT hPl hk5
  rw [mn]
  unfold dG
  cases d with
  |zero=>
    obtain⟨q,m,s,ks,ts⟩:=v
    exact absurd hp (sH (.inr hk5))
  |succ d=>
    have hpi:v.items.length≤60∧ ∀ x∈v.items,IsPlain d x:=by
      obtain⟨q,m,s,ks,ts⟩:=v
      exact((wV (.inr hk5)).1 hp).2
    have hfl:((v.keys.zip v.items).filter (fun p=>da p.1)).length≤v.items.length:=by
      have:=List.length_filter_le (fun p:ByteArray×V=>da p.1) (v.keys.zip v.items)
      rw [List.length_zip]at this
      omega
    refine(wV (.inr Z)).2 ⟨⟨rfl,rfl, .inr ⟨rfl,by simp,?_⟩⟩,by rw [List.length_map];omega,fun x hx=>?_⟩
    · refine oz (fun k hk=>?_) ?_
      · obtain⟨p,hpm,rfl⟩:=List.mem_map.1 hk
        exact lC hko _ (List.of_mem_zip (List.mem_filter.1 hpm).1).1
      · rw [List.pairwise_map]
        exact(iX hsort).sublist List.filter_sublist
    · obtain⟨p,hpm,rfl⟩:=List.mem_map.1 hx
      have hz:=(List.mem_filter.1 hpm).1
      obtain⟨j,hj1,hj2⟩:=rL ((xI hPl hk5).1 (show(p.1,p.2)∈_ from hz))
      obtain⟨hf,hkid,_⟩:=hfit j _ _ hj1 hj2
      have hm:=List.mem_of_getElem? hj2
      exact mx hf (fun y hy d hd=>IH y (Nat.lt_of_le_of_lt (uW hy) (yU hm)) (hkid y hy) d hd) (hpi.2 _ hm)
theorem AF{v:V}(hs:IsShape v)(hp:Pl v):Pl (wr v):=hp.elim fun d h=>⟨d,ut v hs d h⟩
end Go.Jw

namespace Go.Jw
open Go Go.RowKit Go.Proofs Go.Sort
set_option maxRecDepth 20000
abbrev encN(p:Nat):Value:= .int .i64 (p:Int)
theorem Rz(n:Nat)(h2:2≤n):Lib.swapperK n Tryz.t3 2=5:=by
 have a:Tryz.t3.hasPointers=false:=by kernel_rfl
 have b:Tryz.t3.bytes=8:=by kernel_rfl
 have c:(n==0)=false:=by simp;omega
 have d:(n==1)=false:=by simp;omega
 simp [Lib.swapperK,a,b,c,d]
theorem KR:zn Tryz.prog 130:=⟨_,Tryz.func130,by kernel_rfl,rfl⟩
theorem gG{α:Type}[Inhabited α](encN:α→Value)(w:World)(m b:Nat)(d:Array α)(os:Array Obj){k:Nat}(hk:k<w.heap.size)(hb:k≠b):(grow (putRow encN (Sort.ahead w m) b 0 d) os).heap[k]? =w.heap[k]? :=by
 have h1:(putRow encN (Sort.ahead w m) b 0 d).heap[k]? =w.heap[k]? :=by
  unfold putRow mapBlock
  simp only [heap_ahead]
  rw [Array.getElem?_modify]
  split
  ·rename_i h;exact absurd h.symm hb
  ·rfl
 show((putRow encN (Sort.ahead w m) b 0 d).heap++os)[k]? =_
 rw [Array.getElem?_append_left (by rw [Go.Sort.size_putRow];exact hk)]
 exact h1
theorem my{α:Type}[Inhabited α](encN:α→Value)(w:World)(m b:Nat)(d:Array α)(os:Array Obj){cur:Array Value}(hb:w.heap[b]? =some (.cells cur 3 (0,0)))(hl:d.size≤cur.size):
  ∃cur',(grow (putRow encN (Sort.ahead w m) b 0 d) os).heap[b]? =some (.cells cur' 3 (0,0))∧cur'.size=cur.size∧cur'.toList.take d.size=d.toList.map encN:=by
 have hlt:=sB hb
 refine⟨putCells encN 0 d cur,?_,by simp [putCells],?_⟩
 ·show((putRow encN (Sort.ahead w m) b 0 d).heap++os)[b]? =_
  rw [Array.getElem?_append_left (by rw [Go.Sort.size_putRow];exact hlt)]
  unfold putRow mapBlock
  simp only [heap_ahead]
  rw [Array.getElem?_modify,if_pos rfl,hb]
  rfl
 ·apply List.ext_getElem?
  intro i
  rw [List.getElem?_take]
  by_cases hi:i<d.size
  ·rw [if_pos hi]
   have:i<cur.size:=by omega
   simp [putCells,hi,this]
  ·rw [if_neg hi,List.getElem?_eq_none cD]
theorem Ps(g:FuncId)(lb:Array Value)(b n c N:Nat)(ds:List Nat)(hds: ∀ x∈ds,x<N)(lt:Nat→Nat→Bool)(hO:SWO lt)(M2:List HA)(D:List DA)(hsz:n<4611686018427387904)(eg: ∀ args w,(callFunc g args).run Tryz.prog w= .ok (.enter g args) w)
    (hless: ∀ (W:World) (dk:List Nat),dk.length=n→(∀ x∈dk,x<N)→(∀ x∈M2,x.holds W)→(∀ j x,dk[j]? =some x→W.cell? ⟨b,j,none⟩=some (encN x))→(∃ok,∀ d∈D,d.p W ok)→ ∀ (i j:Nat) (hi:i<dk.length) (hj:j<dk.length),
      Calls Tryz.prog g (#[.int .i64 i, .int .i64 j]++lb) W fun e w'=>e= .returned (.bool (lt dk[i] dk[j]))∧ ∃q,w'=W.drewN q):
    Ct Tryz.prog 130 #[.iface 139 (.slice (some ⟨b,0,none⟩) n c), .func (.func g) #[] lb] (.row (some ⟨b,0,none⟩) n c 3 1 (ds.map encN)::M2) D
      (fun u M' D'=>u= .tuple #[]∧(∃ds':List Nat,ds'.Perm ds∧ds'.Pairwise (fun x y=>lt y x=false)∧M'= .row (some ⟨b,0,none⟩) n c 3 1 (ds'.map encN)::M2)∧D'=[]):=by
  refine⟨KR,fun w ok hok hM hn hD=>?_⟩
  have hrow:w.ownsRow 0 3 1 (.slice (some ⟨b,0,none⟩) n c) n (ds.map encN):=hM _ List.mem_cons_self
  obtain⟨h1,h2⟩:=hrow
  have hdl:ds.length=n:=by simpa using h1
  obtain⟨cur,hb,hnc,hcm,hcs,hct⟩: ∃cur,w.heap[b]? =some (.cells cur 3 (0,0))∧n≤c∧c≤maxLen∧cur.size=c*1∧cur.toList.take (n*1)=ds.map encN:=by
    rcases h2 with ⟨h,_⟩|⟨g',cap,cur,hv,_,a1,a2,a3,a4,a5⟩
    · cases h
    · injection hv with e1 _ e3
      injection e1 with e1
      injection e1 with e1
      subst e1;subst e3
      exact⟨cur,a1,a2,a3,a4,a5⟩
  have hblk:b<w.heap.size:=sB hb
  have hfoot:cP (.row (some ⟨b,0,none⟩) n c 3 1 (ds.map encN)::M2)=b::cP M2:=rfl
  rw [hfoot]at hn
  have hb2:b∉cP M2:=(List.nodup_cons.1 hn).1
  have hfin: ∀ (w':World) (ds':List Nat),ds'.Perm ds→ds'.Pairwise (fun x y=>lt y x=false)→Chg [b] w w'→(HA.row (some ⟨b,0,none⟩) n c 3 1 (ds'.map encN)).holds w'→
      ∃(v:Value) (M':List HA) (D':List DA),(Ending.returned (.tuple #[]))= .returned v∧(v= .tuple #[]∧(∃ds':List Nat,ds'.Perm ds∧ds'.Pairwise (fun x y=>lt y x=false)∧M'=HA.row (some ⟨b,0,none⟩) n c 3 1 (ds'.map encN)::M2)∧D'=[])∧Chg (b::cP M2) w w'∧(∀ h∈M',h.holds w')∧(cP M').Nodup∧(∀ q∈cP M',q∈b::cP M2∨w.heap.size≤q)∧
      ∀ d∈D',d.p w' (fun k=>(ok k∨w.heap.size≤k)∧k<w'.heap.size∧k∉cP M'):=by
    intro w' ds' hp hs hc hh
    refine⟨_,HA.row (some ⟨b,0,none⟩) n c 3 1 (ds'.map encN)::M2,[],rfl,⟨rfl,⟨ds',hp,hs,rfl⟩,rfl⟩,hc.mono (fun k _ hk=>by rw [List.mem_singleton.1 hk];exact List.mem_cons_self),?_,hn,fun q hq=> .inl hq,by simp⟩
    intro x hx
    rcases List.mem_cons.1 hx with rfl|hx2
    · exact hh
    · have hx0:=hM x (List.mem_cons_of_mem _ hx2)
      exact HA.move hx0 fun q hq=>hc.block q (HA.foot_lt hx0 q hq) (by
        intro hqb
        rw [List.mem_singleton.1 hqb]at hq
        exact hb2 (sG.2 ⟨x,hx2,hq⟩))
  rcases Nat.lt_or_ge n 2 with h2n|h2n
  · have hK:Lib.swapperK n Tryz.t3 2=n+1:=by
      rcases Nat.eq_zero_or_pos n with h|h
      · subst h;simp [Lib.swapperK]
      · obtain rfl:n=1:=by omega
        simp [Lib.swapperK]
    have hS:=Any.sort_Slice_tiny Tryz.laysGg6 139 3 Tryz.t139 Tryz.t3 (zR Tryz.typeInfo139) aF aF (zR Tryz.typeInfo3) 2 (fun _=>by kernel_rfl) (some ⟨b,0,none⟩) n c aC (196+n) (by
      rw [hK]
      rcases Nat.eq_zero_or_pos n with h|h
      · subst h;kernel_rfl
      · obtain rfl:n=1:=by omega
        kernel_rfl) (.func g) #[] lb w
    refine Calls.mono hS ?_
    rintro e w' ⟨rfl,os,rfl⟩
    refine hfin _ ds (.refl _) ?_ ⟨rfl,rfl,rfl,by simp [grow],fun k hk _=>?_⟩ ?_
    · match ds,hdl with
      |[],_=>exact .nil
      |[x],_=>simp
      |_::_::_,h=>simp at h;omega
    · show(w.heap++os)[k]? =_
      exact Array.getElem?_append_left hk
    · refine⟨h1, .inr ⟨b,c,cur,rfl,Nat.zero_le _,?_,hnc,hcm,hcs,hct⟩⟩
      show(w.heap++os)[b]? =_
      rw [Array.getElem?_append_left hblk]
      exact hb
  · have hcell: ∀ j x,ds[j]? =some x→w.cell? ⟨b,j,none⟩=some (encN x):=by
      intro j x hj
      have hlt:=(List.getElem?_eq_some_iff.1 hj).1
      have h3:(cur.toList.take (n*1))[j]? =some (encN x):=by rw [hct,List.getElem?_map,hj];rfl
      rw [List.getElem?_take,if_pos aC]at h3
      simp only [World.cell?,hb]
      simpa using h3
    have hN:0<N:=by
      match ds,hdl,hds with
      |[],h,_=>simp at h;omega
      |x::_,_,h=>exact Nat.lt_of_le_of_lt (Nat.zero_le _) (h x List.mem_cons_self)
    letI:Inhabited (Fin N):=⟨⟨0,hN⟩⟩
    let encF:Fin N→Value:=fun x=>encN x.1
    let fs:List (Fin N):=ds.pmap (fun x h=>⟨x,h⟩) hds
    have hfs:fs.map (fun x=>x.1)=ds:=by
      show(ds.pmap (fun x h=>(⟨x,h⟩:Fin N)) hds).map (fun x=>x.1)=ds
      rw [List.map_pmap]
      simp
    have hfl:fs.length=n:=by rw [←hdl,←hfs,List.length_map]
    have hval: ∀ l:List (Fin N),(l.map fun x=>x.1).map encN=l.map encF:=fun l=>by rw [List.map_map];rfl
    have hlto: ∀ l:List (Fin N),∀ x∈l.map (fun x=>x.1),x<N:=fun l x hx=>by
      obtain⟨y,_,rfl⟩:=List.mem_map.1 hx
      exact y.2
    have hH:Holds encF w b 0 fs.toArray:=by
      intro j hj
      have hj':j<fs.length:=by simpa using hj
      refine⟨?_,?_⟩
      · rw [Nat.zero_add,hcell j fs[j].1 (by rw [←hfs,List.getElem?_map,List.getElem?_eq_getElem hj'];rfl)]
        simp [hj',encF]
      · simp [World.frozen?,hb]
    have hL:LessReads Tryz.prog g lb encF (fun x y=>lt x.1 y.1) b 0 fs.toArray.size w:=by
      intro m os dk hs i j hi hj
      have hs':dk.size=n:=by rw [hs];simpa using hfl
      obtain⟨cur',a1,a2,a3⟩:=my encF w m b dk os hb aC
      have key:=hless (sortWorld encF w b 0 m dk os) (dk.toList.map fun x=>x.1) (by simpa using hs') (hlto _) (fun x hx=>by
        have hx0:=hM x (List.mem_cons_of_mem _ hx)
        exact HA.move hx0 fun q hq=>gG encF w m b dk os (HA.foot_lt hx0 q hq) (by rintro rfl;exact hb2 (sG.2 ⟨x,hx,hq⟩))) (fun q x hq=>by
        have hlt:=(List.getElem?_eq_some_iff.1 hq).1
        have h3:(cur'.toList.take dk.size)[q]? =some (encN x):=by rw [a3,←hval,List.getElem?_map,hq];rfl
        rw [List.getElem?_take,if_pos (by simpa using hlt)]at h3
        show World.cell? (grow (putRow encF (Sort.ahead w m) b 0 dk) os) _=_
        simp only [World.cell?,a1]
        simpa using h3) ⟨ok,fun d hd=>d.mono (fun k hk=>hk) (fun k hk=>gG encF w m b dk os (hok k hk).1 (by rintro rfl;exact(hok k hk).2 (by rw [hfoot];exact List.mem_cons_self))) (hD d hd)⟩ i j (by simp at hi⊢;omega) (by simp at hj⊢;omega)
      have hi':i<dk.size:=by simp at hi;omega
      have hj':j<dk.size:=by simp at hj;omega
      have e1:dk[i]! =dk.toList[i]'(by simpa using hi'):=by simp [hi']
      have e2:dk[j]! =dk.toList[j]'(by simpa using hj'):=by simp [hj']
      rw [e1,e2]
      simpa using key
    have hO':SWO (fun x y:Fin N=>lt x.1 y.1):=⟨fun x=>hO.irrefl _,fun x y z=>hO.trans _ _ _,fun x y z=>hO.ntrans _ _ _⟩
    have hS:=Any.sort_Slice_sorted Tryz.laysGg6 139 3 Tryz.t139 Tryz.t3 (zR Tryz.typeInfo139) aF aF (zR Tryz.typeInfo3) 2 (fun _=>by kernel_rfl) aF (fun _=>by kernel_rfl) encF (fun _=>rfl) (fun x y=>lt x.1 y.1) hO' g lb eg b 0 c fs.toArray cD cD 200
      (by rw [Rz _ cD];kernel_rfl) true (fun args W=>run_callFunc_extern Tryz.func200 aF aF aF (e:=Extern.ReflectliteSwapper.swap true) aF args W) w hL hH hblk
    have e0:fs.toArray.size=n:=by simpa using hfl
    rw [e0]at hS
    refine Calls.mono hS ?_
    rintro e w' ⟨rfl,d',m,os,hp,hs,rfl⟩
    have hd':d'.size=n:=by rw [hp.1,e0]
    obtain⟨cur',a1,a2,a3⟩:=my encF w m b d' os hb aC
    refine hfin _ (d'.toList.map fun x=>x.1) ?_ ?_ ⟨rfl,rfl,rfl,by simp [grow],fun k hk hkb=>gG encF w m b d' os hk (by simpa using hkb)⟩ ?_
    · have:=hp.2.2
      have e3:d'.extract 0 n=d':=by rw [←hd'];simp
      have e4:fs.toArray.extract 0 n=fs.toArray:=by rw [←e0];simp
      rw [e3,e4]at this
      have h2:=this.map (fun x:Fin N=>x.1)
      simp only []at h2
      rw [hfs]at h2
      exact h2
    · rw [List.pairwise_map,List.pairwise_iff_getElem]
      intro i j hi hj hij
      have:=hs i j (Nat.zero_le _) hij (by simp at hj;omega)
      have e1:d'[i]! =d'.toList[i]:=by simp at hi;simp [hi]
      have e2:d'[j]! =d'.toList[j]:=by simp at hj;simp [hj]
      rw [e1,e2]at this
      exact this
    · refine⟨by simp [hd'], .inr ⟨b,c,cur',rfl,Nat.zero_le _,a1,hnc,hcm,by rw [a2,hcs],?_⟩⟩
      rw [Nat.mul_one,←hd',hval]
      exact a3
end Go.Jw

namespace Go.Jw
open Go Go.RowKit Go.Proofs
set_option maxRecDepth 8000
section rules
variable {P:Program} {n:Nat} {F:List Nat} {c:Ctx F} {ops:Array Oper} {d:Nat} {T:TypeId} {l:List Oper} {k:List KI} {Q:cu} {e:dF} {M:List HA} {D:List DA}
theorem gH{fn:Func}{R:Value→List HA→List DA→Prop}{M':List HA}{D':List DA}(hr:fn.results= #[])(hR:R (.tuple #[]) M' D')(hM:List.Sublist M' M)(hD: ∀ d∈D',d∈D):Run P n c [] (lK P c fn R) e M D:=by
 intro a w hf
 have hsub:=gS hM
 have hres:(results fn a.tmps).run P w= .ok (.tuple #[]) w:=by simp [results,hr]
 refine⟨hf.defers, .tuple #[],hres, .tuple #[],M',D',rfl,hR,hf.chg,fun x hx=>hf.own x (hM.mem hx),hf.nodup.sublist hsub,fun b hb=>hf.foot b (hsub.mem hb),fun x hx=>?_⟩
 exact x.mono (fun q hq=>⟨hq.1,hq.2.1,fun h'=>hq.2.2 (hsub.mem h')⟩) (fun _ _=>rfl) (hf.dat x (hD x hx))
end rules
def Sf(S:ByteArray)(p:Nat)(l:List UInt8):Prop:=(rl S).drop p=l∧p≤S.size
theorem Sf.size{S:ByteArray}{p:Nat}{l:List UInt8}(h:Sf S p l):S.size=p+l.length:=by
 have h1:=congrArg List.length h.1
 rw [List.length_drop,←I1]at h1
 have:=h.2
 omega
theorem Sf.get{S:ByteArray}{p:Nat}{l:List UInt8}(h:Sf S p l){i:Nat}(hi:i<l.length)(hs:p+i<S.size):S[p+i]=l[i]:=by
 have h1:((rl S).drop p)[i]? =l[i]? :=by rw [h.1]
 rw [List.getElem?_drop,List.getElem?_eq_getElem hi]at h1
 have h2:(rl S)[p+i]? =some S[p+i]:=by
  have h3:p+i<(rl S).length:=by rw [←I1];exact hs
  rw [List.getElem?_eq_getElem h3]
  rfl
 rw [h2]at h1
 exact Option.some.inj h1
theorem uu(s:List UInt8):strOfNums (s.map fun b=>(b.toNat:Int))=bs s:=by
 unfold strOfNums bs
 congr 1
 apply Array.ext'
 simp only [List.map_toArray,List.map_map]
 conv=>rhs;rw [←List.map_id s]
 refine List.map_congr_left fun b _=>?_
 simp
section rules
variable {P:Program} {n:Nat} {F:List Nat} {c:Ctx F} {ops:Array Oper} {d:Nat} {T:TypeId} {l:List Oper} {k:List KI} {Q:cu} {e:dF} {M:List HA} {D:List DA}
theorem Bp(i:Nat){x:Operand}{A:Option Addr}{m cap:Nat}{S S' E:TypeId}{s:List UInt8}(hs:P.underlying S=some (.slice E))(he:P.underlying E=some (.int .u8))(hd':P.underlying S'=some .string)(hd:Nat.blt d n=true)(hx:ev e x=some (.slice A m cap))(hi:M[i]? =some (.row A m cap E 1 (s.map fun b=> .int .u8 (b.toNat:Int))))
    (next:cG P n c ops l k Q ((d, .string (bs s))::e) M D):cL P n c ops (some d) (.convert S S' x) T l k Q e M D:=
  xR hd (fun a w hf=>by
    have hrow:=hf.toFitsW.mem hi
    obtain⟨h1,h2,h3⟩:=uK hrow
    have hm:s.length=m:=by have:=hrow.1;simpa using this
    have hcv:(convert S S' (.slice A m cap)).run P w= .ok (.string (bs s)) w:=by
      rcases hrow.2 with ⟨h,h0⟩|⟨g,cap',cur,hv,_,hc,hn,hmm,hcs,ht⟩
      · injection h with h4 h5 h6
        subst h4
        rw [run_convert_bytes_nil w S E hs he m cap S' hd']
        have:s=[]:=List.eq_nil_of_length_eq_zero aC
        subst this
        rfl
      · injection hv with h4 h5 h6
        subst h4;subst h6
        rw [run_convert_bytes_arg w S E hs he g 0 m cap (s.map fun b=>(b.toNat:Int)) (by simpa using hm) (fun j hj=>by
          obtain⟨a',ha,_,hcell⟩:=h3 j (.int .u8 ((s[j]'aC).toNat:Int)) (by rw [List.getElem?_map,List.getElem?_eq_getElem aC];rfl)
          cases ha
          rw [wB]at hcell
          rw [hcell]
          simp [List.getD_eq_getElem?_getD,List.getElem?_map,List.getElem?_eq_getElem (show j<s.length by omega)]) S' hd',uu]
    simp [execOp,dH,hf.ev hx,hcv]) next
end rules
end Go.Jw

namespace Go.Jw
open Go Go.RowKit Go.Proofs Go.Sort
set_option maxRecDepth 20000
def Ft(keys:List ByteArray)(a b:Nat):Bool:=decide (rl (keys.getD a ⟨#[]⟩)<rl (keys.getD b ⟨#[]⟩))
theorem Gp(keys:List ByteArray):SWO (Ft keys):=by
 refine⟨fun x=>?_,fun x y z h1 h2=>?_,fun x y z h1 h2=>?_⟩
 ·exact decide_eq_false (List.lt_irrefl _)
 ·exact decide_eq_true (List.lt_trans (of_decide_eq_true h1) (of_decide_eq_true h2))
 ·have h3:=List.not_lt.1 (of_decide_eq_false h1)
  have h4:=List.not_lt.1 (of_decide_eq_false h2)
  exact decide_eq_false (List.not_lt.2 (List.le_trans h4 h3))
end Go.Jw

namespace Go.Jw
open Go Go.RowKit Go.Proofs
set_option maxRecDepth 8000
theorem x6{α:Type}(dflt:α)(ks:List ByteArray)(vs:List α)(ds:List Nat)(hl:ks.length=vs.length)(hn:ks.Nodup)(hp:ds.Perm (List.range ks.length))(hs:ds.Pairwise (fun x y=>Ft ks y x=false)):
  hY (ks.zip vs)=ds.map (fun i=>(ks.getD i ⟨#[]⟩,vs.getD i dflt)):=by
 have hall:(List.range ks.length).map (fun i=>(ks.getD i ⟨#[]⟩,vs.getD i dflt))=ks.zip vs:=by
  apply List.ext_getElem
  ·simp;omega
  ·intro i h1 h2
   simp only [List.length_map,List.length_range]at h1
   rw [List.getElem_map,List.getElem_range,List.getElem_zip,tC h1,tC aC]
 refine ln ?_ ?_ ?_
 ·rw [←hall]
  exact hp.map _
 ·rw [List.pairwise_map]
  exact hs.imp fun h=>List.not_lt.1 (of_decide_eq_false h)
 ·rw [uO aC];exact hn
theorem gj{n:Nat}{ds:List Nat}(hp:ds.Perm (List.range n)): ∀ x∈ds,x<n:=fun x hx=>List.mem_range.1 (hp.mem_iff.1 hx)
theorem Bq{ks:List ByteArray}{ds:List Nat}(hn:ks.Nodup)(hp:ds.Perm (List.range ks.length)){i j:Nat}(hij:i<j)(hj:j<ds.length):ks.getD (ds[i]'aC) ⟨#[]⟩≠ks.getD ds[j] ⟨#[]⟩:=by
  have h1:=gj hp _ (List.getElem_mem (show i<ds.length by omega))
  have h2:=gj hp _ (List.getElem_mem hj)
  rw [tC h1,tC h2]
  intro he
  have hnd:ds.Nodup:=hp.nodup_iff.2 List.nodup_range
  have h3:=(List.getElem_inj hn).1 he
  have h4:=(List.getElem_inj hnd).1 h3
  omega
end Go.Jw

namespace Go.Jw
open Go Go.RowKit Go.Proofs
set_option maxRecDepth 8000
open Go.Sort (SWO)
section rules
variable {P:Program} {n:Nat} {F:List Nat} {c:Ctx F} {ops:Array Oper} {d:Nat} {T:TypeId} {l:List Oper} {k:List KI} {Q:cu} {e:dF} {M:List HA} {D:List DA}
theorem ro{x:Operand}{v:Value}{S:TypeId}(hS:P.concrete S=true)(hd:Nat.blt d n=true)(hx:ev e x=some v)(next:cG P n c ops l k Q ((d, .iface S v)::e) M D):cL P n c ops (some d) (.makeInterface S x) T l k Q e M D:=
 xR hd (fun a w hf=>by
  have:=run_makeInterface (P:=P) (w:=w) S v hS
  simp [execOp,dH,hf.ev hx,this]) next
theorem EG(i:Nat){A:Option Addr}{m cap U sz:Nat}{xs:List Value}(hi:M[i]? =some (.row A m cap U sz xs))(h0:m≠0)(next: ∀ b,A=some ⟨b,0,none⟩→Run P n c k Q e M D):Run P n c k Q e M D:=by
 intro a w hf
 have hrow:=hf.toFitsW.mem hi
 rcases hrow.2 with ⟨_,h⟩|⟨g,cap',cur,hv,_⟩
 ·exact absurd h h0
 ·injection hv with h4
  exact next g h4 a w hf
theorem KS{w:World}(h:FitsW c M D w){i j:Nat}{A:Addr}{m cap U:Nat}{xs:List Value}{v:Value}(hi:M[i]? =some (.row (some A) m cap U 1 xs))(hv:xs[j]? =some v):w.cell? (A.add (j*1))=some v:=by
 obtain⟨_,_,h3⟩:=uK (h.mem hi)
 obtain⟨a,ha,_,hc⟩:=h3 j v hv
 cases ha
 rw [Nat.mul_one]
 exact hc
theorem AG{w:World}(h:FitsW c M D w){i j:Nat}{A:Option Addr}{m cap U:Nat}{xs:List Value}{v:Value}(hi:M[i]? =some (.row A m cap U 1 xs))(hv:xs[j]? =some v):w.cell? (At A (j*1))=some v:=by
 obtain⟨_,_,h3⟩:=uK (h.mem hi)
 obtain⟨a,ha,_,hc⟩:=h3 j v hv
 subst ha
 rw [Nat.mul_one]
 exact hc
end rules
theorem vS{α β:Type}{f:α→β}{ts:List α}{i:Nat}{x:β}(hi:i<ts.length)(hx:x=f ts[i]):(ts.take i).map f++[x]=(ts.take (i+1)).map f:=by
 subst hx;exact tT hi
theorem EH{α β:Type}{f:α→β}{ds:List α}{i j:Nat}(h:j<i)(hj:j<ds.length):((ds.take i).map f)[j]? =some (f ds[j]):=by
 rw [List.getElem?_map,List.getElem?_take,if_pos h,List.getElem?_eq_getElem hj];rfl
section rules
variable {P:Program} {n:Nat} {F:List Nat} {c:Ctx F} {ops:Array Oper} {k:List KI} {Q:cu} {e:dF} {M:List HA} {D:List DA} {I:List (List Nat)} {S:List (List HA×List DA)} {listed:Array Bool} {fuel:Nat}
theorem uZ{A:Option Addr}{m cap i:Nat}{ts:List V}{t:V}(j:Nat)(hj:D[j]? =some (.vals (.slice A m cap) ts))(hi:ts[i]? =some t)
  (next: ∀ A1 c1 A2 c2,cZ P n c ops k Q fuel I S listed e M (.cells A (i*5) [.int .i64 t.kind, .int .i64 t.num, .string t.text, .slice A1 t.keys.length c1, .slice A2 t.items.length c2]:: .val (.agg #[.int .i64 t.kind, .int .i64 t.num, .string t.text, .slice A1 t.keys.length c1, .slice A2 t.items.length c2]) t::D)):cZ P n c ops k Q fuel I S listed e M D:=by
 intro a w hf hT
 obtain⟨A',c',hv,_,_,hit⟩:ValsP w (c.now M w) (.slice A m cap) ts:=hf.dat _ (List.mem_of_getElem? hj)
 injection hv with hA hm
 subst hA
 obtain⟨a',v,ha,hok,hcells,hval⟩:=hit.get hi
 subst ha
 obtain⟨q,r,s,ks,its⟩:=t
 have hval':=hval
 simp only [ValP]at hval'
 obtain⟨kv,iv,rfl,_,⟨A1,c1,rfl,_⟩,A2,c2,rfl,_⟩:=hval'
 refine next A1 c1 A2 c2 a w (hf.world (hf.toFitsW.data fun x hx=>?_)) hT
 rcases List.mem_cons.1 hx with rfl|hx
 ·refine⟨a',rfl,hok,fun p u hp=>?_⟩
  have hp':([.int .i64 q, .int .i64 r, .string s, .slice A1 ks.length c1, .slice A2 its.length c2]:List Value)[p]? =some u:=hp
  have:=hcells p u (by simpa [Value.cells]using hp')
  rwa [Nat.zero_add]at this
 rcases List.mem_cons.1 hx with rfl|hx
 ·exact hval
 ·exact hf.dat x hx
end rules

end Go.Jw

namespace Go.Jw
open Go Go.RowKit Go.Proofs
set_option maxRecDepth 8000
theorem x7(v:V):IsShape v→ ∀ d,IsPlain d v→IsPlain d (normalV v):=by
  refine V.indS (p:=fun v=>IsShape v→ ∀ d,IsPlain d v→IsPlain d (normalV v)) (fun v IH hs d hp=>?_) v
  have hk5:=hs.kind
  have hfit:=((wA v).1 hs).2
  have hPl:Pl v:=⟨d,hp⟩
  have hko:=hPl.keys hk5
  obtain⟨he,hl,hsort⟩:=qT hPl hk5
  rw [sZ]
  unfold dG
  cases d with
  |zero=>
    obtain⟨q,m,s,ks,ts⟩:=v
    exact absurd hp (sH (.inr hk5))
  |succ d=>
    have hpi:v.items.length≤60∧ ∀ x∈v.items,IsPlain d x:=by
      obtain⟨q,m,s,ks,ts⟩:=v
      exact((wV (.inr hk5)).1 hp).2
    have hfl:((v.keys.zip v.items).filter (fun p=>eb p.1)).length≤v.items.length:=by
      have:=List.length_filter_le (fun p:ByteArray×V=>eb p.1) (v.keys.zip v.items)
      rw [List.length_zip]at this
      omega
    refine(wV (.inr Z)).2 ⟨⟨rfl,rfl, .inr ⟨rfl,by simp,?_⟩⟩,by rw [List.length_map];omega,fun x hx=>?_⟩
    · refine oz (fun k hk=>?_) ?_
      · obtain⟨p,hpm,rfl⟩:=List.mem_map.1 hk
        exact lC hko _ (List.of_mem_zip (List.mem_filter.1 hpm).1).1
      · rw [List.pairwise_map]
        exact(iX hsort).sublist List.filter_sublist
    · obtain⟨p,hpm,rfl⟩:=List.mem_map.1 hx
      have hz:=(List.mem_filter.1 hpm).1
      obtain⟨j,hj1,hj2⟩:=rL ((xI hPl hk5).1 (show(p.1,p.2)∈_ from hz))
      obtain⟨hf,hkid,_⟩:=hfit j _ _ hj1 hj2
      have hm:=List.mem_of_getElem? hj2
      exact mx hf (fun y hy d hd=>IH y (Nat.lt_of_le_of_lt (uW hy) (yU hm)) (hkid y hy) d hd) (hpi.2 _ hm)
end Go.Jw

namespace Go.Jw
open Go Go.RowKit
theorem uS{m:Nat}(h:m<18446744073709551616):IntKind.u64.wrap (m:Int)=m:=by
 have:((m:Int)%18446744073709551616)=m:=by omega
 simpa [IntKind.wrap,IntKind.bits,IntKind.signed]using this
theorem oC(op:BinOp)(t:TypeId)(x y:Operand)(kd kd':FloatKind)(m n:Nat)(P:Program)(w:World):(eqGuard op t x y (.float kd m) (.float kd' n)).run P w= .ok () w:=by
 cases op<;>rfl
section rules
variable {P:Program} {n:Nat} {F:List Nat} {c:Ctx F} {ops:Array Oper} {d:Nat} {T:TypeId} {l:List Oper} {k:List KI} {Q:cu} {e:dF} {M:List HA} {D:List DA}
variable {x y:Operand} {S S':TypeId}
theorem o0{op:BinOp}{m m':Nat}{v:Value}(hd:Nat.blt d n=true)(hx:ev e x=some (.float .f64 m))(hy:ev e y=some (.float .f64 m'))(hr: ∀ w,(binOp op S (.float .f64 m) (.float .f64 m')).run P w= .ok v w)(next:cG P n c ops l k Q ((d,v)::e) M D):
  cL P n c ops (some d) (.binOp op S x y S') T l k Q e M D:=
 xR hd (fun a w hf=>by simp [execOp,dH,hf.ev hx,hf.ev hy,oC,hr]) next
theorem AH{m m' r:Nat}(hd:Nat.blt d n=true)(hx:ev e x=some (.float .f64 m))(hy:ev e y=some (.float .f64 m'))(hr:Ieee.double.div m m'=some r)(next:cG P n c ops l k Q ((d, .float .f64 r)::e) M D):cL P n c ops (some d) (.binOp .quo S x y S') T l k Q e M D:=
 o0 hd hx hy (fun w=>run_float_arith w .quo S .f64 m m' r hr) next
theorem rp{m m' r:Nat}(hd:Nat.blt d n=true)(hx:ev e x=some (.float .f64 m))(hy:ev e y=some (.float .f64 m'))(hr:Ieee.double.mul m m'=some r)(next:cG P n c ops l k Q ((d, .float .f64 r)::e) M D):cL P n c ops (some d) (.binOp .mul S x y S') T l k Q e M D:=
 o0 hd hx hy (fun w=>run_float_arith w .mul S .f64 m m' r hr) next
theorem Gq{m m':Nat}{b:Bool}(hd:Nat.blt d n=true)(hx:ev e x=some (.float .f64 m))(hy:ev e y=some (.float .f64 m'))(hr:(Ieee.double.order m m'==some .lt)=b)(next:cG P n c ops l k Q ((d, .bool b)::e) M D):cL P n c ops (some d) (.binOp .lss S x y S') T l k Q e M D:=
 o0 hd hx hy (fun w=>by subst hr;simp [binOp,Op.floatCmp,FloatKind.format]) next
theorem Gs{m m':Nat}{b:Bool}(hd:Nat.blt d n=true)(hx:ev e x=some (.float .f64 m))(hy:ev e y=some (.float .f64 m'))(hr:(Ieee.double.order m m'==some .gt)=b)(next:cG P n c ops l k Q ((d, .bool b)::e) M D):cL P n c ops (some d) (.binOp .gtr S x y S') T l k Q e M D:=
 o0 hd hx hy (fun w=>by subst hr;simp [binOp,Op.floatCmp,FloatKind.format]) next
theorem Gt{m m':Nat}{b:Bool}(hd:Nat.blt d n=true)(hx:ev e x=some (.float .f64 m))(hy:ev e y=some (.float .f64 m'))(hr:(Ieee.double.order m m'==some .eq)=b)(next:cG P n c ops l k Q ((d, .bool b)::e) M D):cL P n c ops (some d) (.binOp .eql S x y S') T l k Q e M D:=
 o0 hd hx hy (fun w=>by subst hr;simp [binOp,Op.floatCmp,FloatKind.format]) next
theorem Gu{m m':Nat}{b:Bool}(hd:Nat.blt d n=true)(hx:ev e x=some (.float .f64 m))(hy:ev e y=some (.float .f64 m'))(hr:(Ieee.double.order m m' !=some .eq)=b)(next:cG P n c ops l k Q ((d, .bool b)::e) M D):cL P n c ops (some d) (.binOp .neq S x y S') T l k Q e M D:=
 o0 hd hx hy (fun w=>by subst hr;simp [binOp,Op.floatCmp,FloatKind.format]) next
theorem Gw{m r:Nat}(hd:Nat.blt d n=true)(hx:ev e x=some (.float .f64 m))(hr:m^^^2^63=r)(next:cG P n c ops l k Q ((d, .float .f64 r)::e) M D):cL P n c ops (some d) (.unOp .neg S x) T l k Q e M D:=
 xR hd (fun a w hf=>by
  subst hr
  simp [execOp,dH,hf.ev hx,Op.unary,Op.negFloat,FloatKind.format,Ieee.double]) next
theorem kR{kd:IntKind}{m:Int}(hS:(P.underlying S).isSome=true)(hS':P.underlying S'=some (.float .f64))(hd:Nat.blt d n=true)(hx:ev e x=some (.int kd m))(next:cG P n c ops l k Q ((d, .float .f64 (dN (decide (m<0)) m.natAbs 0))::e) M D):
  cL P n c ops (some d) (.convert S S' x) T l k Q e M D:=
 xR hd (fun a w hf=>by
  have:=run_convert_int_float (P:=P) (w:=w) S S' kd .f64 m hS hS'
  simp [execOp,dH,hf.ev hx,this]
  rfl) next
theorem kS{kd:IntKind}{m:Nat}{r:Int}(hS:(P.underlying S).isSome=true)(hS':P.underlying S'=some (.int kd))(hd:Nat.blt d n=true)(hx:ev e x=some (.float .f64 m))(hr:(Ieee.double.read m).toInt .zero=some r)(h1:kd.min≤r)(h2:r≤kd.max)
  (next:cG P n c ops l k Q ((d, .int kd r)::e) M D):cL P n c ops (some d) (.convert S S' x) T l k Q e M D:=
 xR hd (fun a w hf=>by
  have:=run_convert_float_int (P:=P) w S S' .f64 kd m r hS hS' (by unfold floatToIntVal;show(match (Ieee.double.read m).toInt .zero with|some n=>if kd.min≤n∧n≤kd.max then some n else none|none=>none)=_;rw [hr];simp [h1,h2])
  simp [execOp,dH,hf.ev hx,this]) next
theorem o1{kd kd':IntKind}{m r:Int}(hS:P.underlying S=some (.int kd))(hS':P.underlying S'=some (.int kd'))(hd:Nat.blt d n=true)(hx:ev e x=some (.int kd m))(hr:kd'.wrap m=r)
  (next:cG P n c ops l k Q ((d, .int kd' r)::e) M D):cL P n c ops (some d) (.convert S S' x) T l k Q e M D:=
 xR hd (fun a w hf=>by
  subst hr
  have:(convert S S' (.int kd m)).run P w= .ok (.int kd' (kd'.wrap m)) w:=by simp [convert,run_underlying hS,run_underlying hS',Conv.intToInt]
  simp [execOp,dH,hf.ev hx,this]) next
theorem op_int'{op:BinOp}{kd kd':IntKind}{m m':Int}{v:Value}(hd:Nat.blt d n=true)(hx:ev e x=some (.int kd m))(hy:ev e y=some (.int kd' m'))(hr: ∀ w,(binOp op S (.int kd m) (.int kd' m')).run P w= .ok v w)(next:cG P n c ops l k Q ((d,v)::e) M D):
  cL P n c ops (some d) (.binOp op S x y S') T l k Q e M D:=
 xR hd (fun a w hf=>by simp [execOp,dH,hf.ev hx,hf.ev hy,qO,hr]) next
theorem tW{m:Nat}(h:m<18446744073709551616):(BitVec.ofInt 64 (m:Int)).toNat=m:=by
 rw [BitVec.ofInt_natCast,BitVec.toNat_ofNat];exact Nat.mod_eq_of_lt h
theorem AI{m m' r:Nat}(hd:Nat.blt d n=true)(hx:ev e x=some (.int .u64 (m:Int)))(hy:ev e y=some (.int .u64 (m':Int)))(hm:m<18446744073709551616)(hm':m'<18446744073709551616)(hr:m &&& m'=r)(next:cG P n c ops l k Q ((d, .int .u64 (r:Int))::e) M D):
  cL P n c ops (some d) (.binOp .and S x y S') T l k Q e M D:=
 op_int' hd hx hy (fun w=>by
  subst hr
  have h1:m &&& m'<18446744073709551616:=Nat.lt_of_le_of_lt Nat.and_le_left hm
  have h2:(BitVec.ofInt IntKind.u64.bits (m:Int) &&& BitVec.ofInt IntKind.u64.bits (m':Int)).toNat=m &&& m':=by
   have e1:=tW hm;have e2:=tW hm';rw [BitVec.toNat_and];show(BitVec.ofInt 64 _).toNat &&& (BitVec.ofInt 64 _).toNat=_;rw [e1,e2]
  simp only [binOp,Op.intBits,h2,uS h1]
  rfl) next
theorem KT{m m' r:Nat}(hd:Nat.blt d n=true)(hx:ev e x=some (.int .u64 (m:Int)))(hy:ev e y=some (.int .u64 (m':Int)))(hm:m<18446744073709551616)(hm':m'<18446744073709551616)(hr:m|||m'=r)(next:cG P n c ops l k Q ((d, .int .u64 (r:Int))::e) M D):
  cL P n c ops (some d) (.binOp .or S x y S') T l k Q e M D:=
 op_int' hd hx hy (fun w=>by
  subst hr
  have h1:m|||m'<18446744073709551616:=Nat.or_lt_two_pow (n:=64) hm hm'
  have h2:(BitVec.ofInt IntKind.u64.bits (m:Int)|||BitVec.ofInt IntKind.u64.bits (m':Int)).toNat=m|||m':=by
   have e1:=tW hm;have e2:=tW hm';rw [BitVec.toNat_or];show(BitVec.ofInt 64 _).toNat|||(BitVec.ofInt 64 _).toNat=_;rw [e1,e2]
  simp only [binOp,Op.intBits,h2,uS h1]
  rfl) next
theorem gk{yk:IntKind}{m s r:Nat}(hd:Nat.blt d n=true)(hx:ev e x=some (.int .u64 (m:Int)))(hy:ev e y=some (.int yk (s:Int)))(hs:s≤64)(hr:m*2^s=r)(hr':r<18446744073709551616)(next:cG P n c ops l k Q ((d, .int .u64 (r:Int))::e) M D):
  cL P n c ops (some d) (.binOp .shl S x y S') T l k Q e M D:=
 op_int' hd hx hy (fun w=>by
  subst hr
  have h1:min s IntKind.u64.bits=s:=Nat.min_eq_left hs
  have h2:((m:Int)*2^s)=((m*2^s:Nat):Int):=by push_cast;rfl
  simp only [binOp,Op.shift,if_neg (show ¬ ((s:Int)<0)by omega),Int.toNat_natCast,h1,h2,uS hr']
  rfl) next
theorem lr{yk:IntKind}{m s r:Nat}(hd:Nat.blt d n=true)(hx:ev e x=some (.int .u64 (m:Int)))(hy:ev e y=some (.int yk (s:Int)))(hs:s≤64)(hr:m/2^s=r)(next:cG P n c ops l k Q ((d, .int .u64 (r:Int))::e) M D):
  cL P n c ops (some d) (.binOp .shr S x y S') T l k Q e M D:=
 op_int' hd hx hy (fun w=>by
  subst hr
  have h1:min s IntKind.u64.bits=s:=Nat.min_eq_left hs
  have h2:(m:Int).fdiv (2^s)=((m/2^s:Nat):Int):=by
   rw [Int.fdiv_eq_ediv_of_nonneg _ (by exact_mod_cast Nat.zero_le (2^s))];push_cast;rfl
  simp only [binOp,Op.shift,if_neg (show ¬ ((s:Int)<0)by omega),Int.toNat_natCast,h1,h2]
  rfl) next
end rules
theorem ls(P:Program)(Q:cu)(g:Nat)(a:Act)(w:World): ∀ (k:List KI),Kp P k Q (.goto g) a w→Q (.goto g) a w
  |[],h=>h
  | .code _::k,h=>ls P Q g a w k h
  | .cont _::k,h=>ls P Q g a w k h
  | .blk _::k,h=>ls P Q g a w k h
theorem Bs{F:List Nat}(P:Program)(c:Ctx F)(fn:Func)(R:Value→List HA→List DA→Prop): ∀ g a w,¬ lK P c fn R (.goto g) a w:=fun g a w h=>h
section rules
variable {P:Program} {n:Nat} {F:List Nat} {c:Ctx F} {ops:Array Oper} {d:Nat} {T:TypeId} {l:List Oper} {k:List KI} {Q:cu} {e:dF} {M:List HA} {D:List DA}
variable {x y:Operand} {S S':TypeId}
theorem Bt{z:Code}(hQ: ∀ g a w,¬ Q (.goto g) a w)(h:Run P n c (.code z::k) Q e M D):Run P n c (.code (.scope z)::k) Q e M D:=fun a w hf=>
  wp_scope_straight (wp_mono (h a w hf) (fun e' a' w' h'=>by
    cases e' with
    |goto g=>exact(hQ g a' w' (ls P Q g a' w' k h')).elim
    |_=>exact h'))
theorem Bu{g:Nat}(h:Run P n c k Q e M D):Run P n c (.code (.label g)::k) Q e M D:=fun a w hf=>wp_label (h a w hf)
theorem x8{b:Bool}(hS:P.underlying S=some .bool)(hd:Nat.blt d n=true)(hx:ev e x=some (.bool true))(hy:ev e y=some (.bool b))(next:cG P n c ops l k Q ((d, .bool b)::e) M D):cL P n c ops (some d) (.binOp .eql S x y S') T l k Q e M D:=
 xR hd (fun a w hf=>by
  have h1:(eqGuard .eql S x y (.bool true) (.bool b)).run P w= .ok () w:=rfl
  have h2:(binOp .eql S (.bool true) (.bool b)).run P w= .ok (.bool b) w:=by rw [run_eql_bool w S true b hS];simp
  simp [execOp,dH,hf.ev hx,hf.ev hy,h1,h2]) next
theorem rq{m m' s:Int}{ts:Array TypeId}(hd:Nat.blt d n=true)(hx:ev e x=some (.int .i64 m))(hy:ev e y=some (.int .i64 m'))(hs:min m m'=s)(next:cG P n c ops l k Q ((d, .int .i64 s)::e) M D):
  cL P n c ops (some d) (.call {callee:= .builtin .min,args:= #[x,y],argTypes:=ts}) T l k Q e M D:=
 xR hd (fun a w hf=>by
  subst hs
  have h1:(if m'<m then m' else m)=min m m':=by split<;>omega
  simp [execOp,dH,resolve,invoke,builtin,hf.ev hx,hf.ev hy,run_min_int2,h1]) next
theorem rr{m m' s:Int}{ts:Array TypeId}(hd:Nat.blt d n=true)(hx:ev e x=some (.int .i64 m))(hy:ev e y=some (.int .i64 m'))(hs:max m m'=s)(next:cG P n c ops l k Q ((d, .int .i64 s)::e) M D):
  cL P n c ops (some d) (.call {callee:= .builtin .max,args:= #[x,y],argTypes:=ts}) T l k Q e M D:=
 xR hd (fun a w hf=>by
  subst hs
  have h1:(if m<m' then m' else m)=max m m':=by split<;>omega
  simp [execOp,dH,resolve,invoke,builtin,hf.ev hx,hf.ev hy,run_max_int2,h1]) next
theorem lu{m m' r:Nat}(hd:Nat.blt d n=true)(hx:ev e x=some (.int .u64 (m:Int)))(hy:ev e y=some (.int .u64 (m':Int)))(hr:m+m'=r)(hr':r<18446744073709551616)(next:cG P n c ops l k Q ((d, .int .u64 (r:Int))::e) M D):
  cL P n c ops (some d) (.binOp .add S x y S') T l k Q e M D:=by
 refine qa hd hx hy ?_
 subst hr
 rw [show((m:Int)+m')=((m+m':Nat):Int)by omega,uS hr']
 exact next
theorem AJ{m m' r:Nat}(hd:Nat.blt d n=true)(hx:ev e x=some (.int .u64 (m:Int)))(hy:ev e y=some (.int .u64 (m':Int)))(hle:m'≤m)(hr:m - m'=r)(hr':r<18446744073709551616)(next:cG P n c ops l k Q ((d, .int .u64 (r:Int))::e) M D):
  cL P n c ops (some d) (.binOp .sub S x y S') T l k Q e M D:=by
 refine qb hd hx hy ?_
 subst hr
 rw [show((m:Int) - m')=((m - m':Nat):Int)by omega,uS hr']
 exact next
theorem AK{m m' r:Nat}(hd:Nat.blt d n=true)(hx:ev e x=some (.int .u64 (m:Int)))(hy:ev e y=some (.int .u64 (m':Int)))(hr:m*m'=r)(hr':r<18446744073709551616)(next:cG P n c ops l k Q ((d, .int .u64 (r:Int))::e) M D):
  cL P n c ops (some d) (.binOp .mul S x y S') T l k Q e M D:=by
 refine qc hd hx hy ?_
 subst hr
 rw [←Int.natCast_mul,uS hr']
 exact next
theorem Gx{m:Nat}(h:m<256):IntKind.u8.wrap (m:Int)=m:=by
 have:((m:Int)%256)=m:=by omega
 simpa [IntKind.wrap,IntKind.bits,IntKind.signed]using this
theorem uv{m m' r:Nat}(hd:Nat.blt d n=true)(hx:ev e x=some (.int .u8 (m:Int)))(hy:ev e y=some (.int .u8 (m':Int)))(hle:m'≤m)(hr:m - m'=r)(hr':r<256)(next:cG P n c ops l k Q ((d, .int .u8 (r:Int))::e) M D):
  cL P n c ops (some d) (.binOp .sub S x y S') T l k Q e M D:=by
 refine qb hd hx hy ?_
 subst hr
 rw [show((m:Int) - m')=((m - m':Nat):Int)by omega,Gx hr']
 exact next
theorem Bv{fo:Operand}{ags:Array Operand}{ts:Array TypeId}{f:FuncId}{fn:Func}{ent:Array Value→Sem Value}{vs:List Value}{v:Value}(hF:P.funcs[f]? =some fn)(hname:(fn.name== "runtime.NumGoroutine")=false)(hb:fn.body.isNone=true)(hn:Extern.findNext fn=none)(he:Extern.find fn=some ent)
  (hd:Nat.blt d n=true) (hfo:ev e fo=some (.func (.func f) #[] #[])) (has:ags.toList.mapM (ev e)=some vs) (hr: ∀ w,(ent vs.toArray).run P w= .ok v w) (next:cG P n c ops l k Q ((d,v)::e) M D):
  cL P n c ops (some d) (.call {callee:= .value fo,args:=ags,argTypes:=ts}) T l k Q e M D:=
 xR hd (fun a w hf=>by
  have hargs:ags.map a.eval=vs.toArray:=by
   apply Array.ext'
   simpa using Ci hf has
  have h1:=run_callFunc_extern hF hname hb hn he vs.toArray w
  rw [hr w]at h1
  simp [execOp,dH,resolve,hf.ev hfo,Deferred.ofValue,invoke,hargs,h1]) next
theorem oD(m:Nat){E sz by_:Nat}(hS:cS P S E sz by_)(hd:Nat.blt d n=true)(hx:ev e x=some (.int .i64 0))(hy:ev e y=some (.int .i64 (m:Nat)))(hm:m≤1000000)(hby:m*by_≤1000000)
  (next: ∀ b,cG P n c ops l k Q ((d, .slice (some ⟨b,0,none⟩) 0 m)::e) (.row (some ⟨b,0,none⟩) 0 m E sz []::M) D):cL P n c ops (some d) (.makeSlice S x y) T l k Q e M D:=by
 obtain⟨ti,z,hu,hinf,hs1,hb1,hz,hzs,hsz0⟩:=hS
 intro a w hf
 subst hs1;subst hb1
 have h63:m≤maxLen:=by unfold maxLen;omega
 have hbb:(ti.bytes:Int)*(m:Int)≤281474976710656:=by
  have h1:((ti.bytes*m:Nat):Int)≤281474976710656:=by rw [Nat.mul_comm];omega
  rwa [Int.natCast_mul]at h1
 have hr:=run_make (P:=P) w S E ti z hu hinf hz .i64 .i64 0 (m:Int) (Int.le_refl _) aC hbb aC
 simp only [Int.toNat_zero,Int.toNat_natCast]at hr
 have hrun:(execOp a.eval (dH (some d) (.makeSlice S x y) T)).run P w= .ok (.value (.slice (some ⟨w.heap.size,0,none⟩) 0 m)) (w.alloc (.cells (madeCells z.cells (m*ti.size)) E)):=by
  simp only [execOp,dH,hf.ev hx,hf.ev hy,Sem.run_bind,hr,Result.andThen_ok,Sem.run_pure]
 unfold Oper.wp
 rw [hrun]
 have hx2:(HA.row (some ⟨w.heap.size,0,none⟩) 0 m E ti.size []).holds (w.alloc (.cells (madeCells z.cells (m*ti.size)) E)):=World.ownsRow_made w _ m (Nat.zero_le _) h63 (size_madeCells _ _)
 exact next w.heap.size _ _ ((hf.world (hf.toFitsW.new _ hx2 Z)).put hd _)
end rules
def DA.cs(l:List (Addr×Value)):DA:=⟨fun w ok=> ∀ q∈l,ok q.1.block∧w.cell? q.1=some q.2,fun {w w' ok ok'} h1 h2 h q hq=>⟨h1 _ (h q hq).1,by
 rw [uV (w:=w) (w':=w') (a:=q.1) (h2 _ (h q hq).1)];exact(h q hq).2⟩⟩
section rules
variable {P:Program} {n:Nat} {F:List Nat} {c:Ctx F} {ops:Array Oper} {d:Nat} {T:TypeId} {l:List Oper} {k:List KI} {Q:cu} {e:dF} {M:List HA} {D:List DA}
theorem tQ(j i:Nat){x:Operand}{p:Addr}{v:Value}{q:List (Addr×Value)}(hT:cT P T)(hd:Nat.blt d n=true)(hx:ev e x=some (.pointer (some p)))(hj:D[j]? =some (.cs q))(hi:q[i]? =some (p,v))
  (next:cG P n c ops l k Q ((d,v)::e) M D) {T':TypeId}:cL P n c ops (some d) (.load T x) T' l k Q e M D:=
 yR hT hd hx (fun _ h=>((h.dt hj:_) _ (List.mem_of_getElem? hi)).2) next
end rules
def rt(P:Program)(E sz:Nat):Prop:= ∃ti,P.info? E=some ti∧ti.size=sz
section rules
variable {P:Program} {n:Nat} {F:List Nat} {c:Ctx F} {ops:Array Oper} {d:Nat} {T:TypeId} {l:List Oper} {k:List KI} {Q:cu} {e:dF} {M:List HA} {D:List DA}
variable {x y:Operand} {S S':TypeId}
theorem rY{A:Addr}{i N E sz:Nat}{kd:IntKind}(hS:P.underlying S=some (.array N E))(hE:rt P E sz)(hd:Nat.blt d n=true)(hx:ev e x=some (.pointer (some A)))(hy:ev e y=some (.int kd (i:Nat)))(hi:i<N)
  (next:cG P n c ops l k Q ((d, .pointer (some (A.add (i*sz))))::e) M D):cL P n c ops (some d) (.indexAddr S x y) T l k Q e M D:=by
 obtain⟨ti,hinf,hs⟩:=hE
 refine xR hd (fun a w hfit=>?_) next
 simp [execOp,dH,hfit.ev hx,hfit.ev hy,Instr.indexAt,Instr.sureAddr,asIntOf,run_underlying hS,xK hinf,hs,hi]
theorem uw{A:Addr}{N E sz:Nat}(hS:P.underlying S=some (.array N E))(hE:rt P E sz)(hd:Nat.blt d n=true)(hx:ev e x=some (.pointer (some A)))
  (next:cG P n c ops l k Q ((d, .slice (some A) N N)::e) M D):cL P n c ops (some d) (.slice S x none none none) T l k Q e M D:=by
 obtain⟨ti,hinf,hs⟩:=hE
 refine xR hd (fun a w hfit=>?_) next
 have h0:A.add 0=A:=by simp [Addr.add]
 simp [execOp,dH,hfit.ev hx,Instr.sliceAt,Instr.sureAddr,Instr.sliceBounds,run_underlying hS,xK hinf,h0]
theorem ia{A:Option Addr}{m cap h E sz by_:Nat}{kd:IntKind}(hS:cS P S E sz by_)(hd:Nat.blt d n=true)(hx:ev e x=some (.slice A m cap))(hy:ev e y=some (.int kd (h:Nat)))(hh:h≤cap)(h0:0<cap)
  (next:cG P n c ops l k Q ((d, .slice A h cap)::e) M D):cL P n c ops (some d) (.slice S x none (some y) none) T l k Q e M D:=by
 obtain⟨ti,z,hu,hinf,hs,_⟩:=hS
 refine xR hd (fun a w hfit=>?_) next
 have hmap:A.map (fun q=>q.add 0)=A:=by cases A<;>simp [Addr.add]
 simp [execOp,dH,hfit.ev hx,hfit.ev hy,Instr.sliceAt,Instr.slice,Instr.sliceBounds,Instr.sliceBound,asIntOf,run_underlying hu,xK hinf,hh,hmap]
theorem AL{yk:IntKind}{m r:Int}{s:Nat}(hd:Nat.blt d n=true)(hx:ev e x=some (.int .i64 m))(hy:ev e y=some (.int yk (s:Nat)))(hs:s≤64)(hr:m.fdiv (2^s)=r)(next:cG P n c ops l k Q ((d, .int .i64 r)::e) M D):
  cL P n c ops (some d) (.binOp .shr S x y S') T l k Q e M D:=
 op_int' hd hx hy (fun w=>by
  subst hr
  have h1:min s IntKind.i64.bits=s:=Nat.min_eq_left hs
  simp only [binOp,Op.shift,if_neg (show ¬ ((s:Int)<0)by omega),Int.toNat_natCast,h1]
  rfl) next
end rules
section bins
variable {P:Program} {S:TypeId}
theorem EI{m m' r:Nat}(h0:m'≠0)(hr:m/m'=r)(hr':r<18446744073709551616)(w:World):(binOp .quo S (.int .u64 (m:Int)) (.int .u64 (m':Int))).run P w= .ok (.int .u64 (r:Int)) w:=by
 subst hr
 have h1:((m':Int)=0)=False:=eq_false aC
 have h2:(m:Int).tdiv m'=((m/m':Nat):Int):=(Int.ofNat_tdiv ..).symm
 simp [binOp,Op.intDiv,h0,h2]
 simpa using uS hr'
theorem EJ{m m' r:Nat}(h0:m'≠0)(hr:m%m'=r)(w:World):(binOp .rem S (.int .u64 (m:Int)) (.int .u64 (m':Int))).run P w= .ok (.int .u64 (r:Int)) w:=by
 subst hr
 have h2:(m:Int).tmod m'=((m%m':Nat):Int):=(Int.ofNat_tmod ..).symm
 simp [binOp,Op.intDiv,h0,h2]
theorem EK{m m' r:Nat}(hm:m<18446744073709551616)(hm':m'<18446744073709551616)(hr:m &&& m'=r)(w:World):(binOp .and S (.int .u64 (m:Int)) (.int .u64 (m':Int))).run P w= .ok (.int .u64 (r:Int)) w:=by
 subst hr
 have h1:m &&& m'<18446744073709551616:=Nat.lt_of_le_of_lt Nat.and_le_left hm
 have h2:(BitVec.ofInt IntKind.u64.bits (m:Int) &&& BitVec.ofInt IntKind.u64.bits (m':Int)).toNat=m &&& m':=by
  have e1:=tW hm;have e2:=tW hm';rw [BitVec.toNat_and];show(BitVec.ofInt 64 _).toNat &&& (BitVec.ofInt 64 _).toNat=_;rw [e1,e2]
 simp only [binOp,Op.intBits,h2,uS h1]
 rfl
theorem ru{m m' r:Nat}(hm:m<18446744073709551616)(hm':m'<18446744073709551616)(hr:m|||m'=r)(w:World):(binOp .or S (.int .u64 (m:Int)) (.int .u64 (m':Int))).run P w= .ok (.int .u64 (r:Int)) w:=by
 subst hr
 have h1:m|||m'<18446744073709551616:=Nat.or_lt_two_pow (n:=64) hm hm'
 have h2:(BitVec.ofInt IntKind.u64.bits (m:Int)|||BitVec.ofInt IntKind.u64.bits (m':Int)).toNat=m|||m':=by
  have e1:=tW hm;have e2:=tW hm';rw [BitVec.toNat_or];show(BitVec.ofInt 64 _).toNat|||(BitVec.ofInt 64 _).toNat=_;rw [e1,e2]
 simp only [binOp,Op.intBits,h2,uS h1]
 rfl
theorem ux{m m' r:Nat}(hm:m<4294967296)(hm':m'<4294967296)(hr:m &&& m'=r)(w:World):(binOp .and S (.int .i64 (m:Int)) (.int .i64 (m':Int))).run P w= .ok (.int .i64 (r:Int)) w:=by
 subst hr
 have h1:m &&& m'<4294967296:=Nat.lt_of_le_of_lt Nat.and_le_left hm
 have h2:(BitVec.ofInt IntKind.i64.bits (m:Int) &&& BitVec.ofInt IntKind.i64.bits (m':Int)).toNat=m &&& m':=by
  have e1:=tW (m:=m) aC;have e2:=tW (m:=m') aC;rw [BitVec.toNat_and];show(BitVec.ofInt 64 _).toNat &&& (BitVec.ofInt 64 _).toNat=_;rw [e1,e2]
 simp only [binOp,Op.intBits,h2,vU (show -9223372036854775808≤((m &&& m':Nat):Int)by omega) aC]
 rfl
theorem mz{yk:IntKind}{m s r:Nat}(hs:s≤64)(hr:m/2^s=r)(w:World):(binOp .shr S (.int .u64 (m:Int)) (.int yk (s:Int))).run P w= .ok (.int .u64 (r:Int)) w:=by
 subst hr
 have h1:min s IntKind.u64.bits=s:=Nat.min_eq_left hs
 have h2:(m:Int).fdiv (2^s)=((m/2^s:Nat):Int):=by
  rw [Int.fdiv_eq_ediv_of_nonneg _ (by exact_mod_cast Nat.zero_le (2^s))];push_cast;rfl
 simp only [binOp,Op.shift,if_neg (show ¬ ((s:Int)<0)by omega),Int.toNat_natCast,h1,h2]
 rfl
theorem uy{yk:IntKind}{m s r:Nat}(hs:s≤64)(hr:m*2^s=r)(hr':r<4294967296)(w:World):(binOp .shl S (.int .i64 (m:Int)) (.int yk (s:Int))).run P w= .ok (.int .i64 (r:Int)) w:=by
 subst hr
 have h1:min s IntKind.i64.bits=s:=Nat.min_eq_left hs
 have h2:((m:Int)*2^s)=((m*2^s:Nat):Int):=by push_cast;rfl
 simp only [binOp,Op.shift,if_neg (show ¬ ((s:Int)<0)by omega),Int.toNat_natCast,h1,h2,vU (show -9223372036854775808≤((m*2^s:Nat):Int)by omega) aC]
 rfl
theorem uz{m m' r:Nat}(hle:m'≤m)(hr:m - m'=r)(hr':r<18446744073709551616)(w:World):(binOp .sub S (.int .u64 (m:Int)) (.int .u64 (m':Int))).run P w= .ok (.int .u64 (r:Int)) w:=by
 subst hr
 have:IntKind.u64.wrap ((m:Int) - m')=((m - m':Nat):Int):=by rw [show((m:Int) - m')=((m - m':Nat):Int)by omega,uS hr']
 simp [binOp,Op.intArith,this]
end bins
section rules
variable {P:Program} {n:Nat} {F:List Nat} {c:Ctx F} {ops:Array Oper} {d:Nat} {T:TypeId} {l:List Oper} {k:List KI} {Q:cu} {e:dF} {M:List HA} {D:List DA}
variable {x y:Operand} {S S':TypeId}
theorem m6{op:BinOp}{kd kd':IntKind}{m m':Int}{v:Value}(hr: ∀ w,(binOp op S (.int kd m) (.int kd' m')).run P w= .ok v w)(hd:Nat.blt d n=true)(hx:ev e x=some (.int kd m))(hy:ev e y=some (.int kd' m'))(next:cG P n c ops l k Q ((d,v)::e) M D):
  cL P n c ops (some d) (.binOp op S x y S') T l k Q e M D:=op_int' hd hx hy hr next
theorem rA{op:BinOp}{kd kd':IntKind}{m m':Int}{v:Value}(hr: ∀ w,(binOp op S (.int kd m) (.int kd' m')).run P w= .ok v w)(hx:ev e x=some (.int kd m))(hy:ev e y=some (.int kd' m')):
  St P n c (.binOp op S x y S') T e M D v:=
 fun _ a w hf=>by simp [execOp,dH,hf.ev hx,hf.ev hy,qO,hr]
theorem Bw{kd kd':IntKind}{m r:Int}(hS:P.underlying S=some (.int kd))(hS':P.underlying S'=some (.int kd'))(hx:ev e x=some (.int kd m))(hr:kd'.wrap m=r):St P n c (.convert S S' x) T e M D (.int kd' r):=
 fun _ a w hf=>by
  subst hr
  have:(convert S S' (.int kd m)).run P w= .ok (.int kd' (kd'.wrap m)) w:=by simp [convert,run_underlying hS,run_underlying hS',Conv.intToInt]
  simp [execOp,dH,hf.ev hx,this]
theorem u0{A:Addr}{N E sz:Nat}(hS:P.underlying S=some (.array N E))(hE:rt P E sz)(hx:ev e x=some (.pointer (some A))):St P n c (.slice S x none none none) T e M D (.slice (some A) N N):=by
 obtain⟨ti,hinf,hs⟩:=hE
 intro _ a w hfit
 have h0:A.add 0=A:=by simp [Addr.add]
 simp [execOp,dH,hfit.ev hx,Instr.sliceAt,Instr.sureAddr,Instr.sliceBounds,run_underlying hS,xK hinf,h0]
end rules
end Go.Jw

namespace Go.Jw
open Go Go.Lib
abbrev MI:=Nat×Nat×Int×Bool
def dK(st:MI)(c:UInt8):MI:=
 if c=46 then(st.1,st.2.1,(st.2.1:Int),true)else if c=48∧st.2.1=0 then(st.1,st.2.1,st.2.2.1 - 1,st.2.2.2)else(st.1*10+(c.toNat - 48),st.2.1+1,st.2.2.1,st.2.2.2)
def rf(l:List UInt8):MI:=l.foldl dK (0,0,0,false)
theorem lv(l:List UInt8)(c:UInt8):rf (l++[c])=dK (rf l) c:=by unfold rf;rw [List.foldl_append];rfl
theorem lw{l:List UInt8}{i:Nat}(h:i<l.length):rf (l.take (i+1))=dK (rf (l.take i)) l[i]:=by
 rw [List.take_succ_eq_append_getElem h,lv]
def Dgt(c:UInt8):Prop:=48≤c.toNat∧c.toNat≤57
theorem Dgt.ne{c:UInt8}(h:Dgt c):c≠46:=by rintro rfl;exact absurd h.1 aE
structure Dec(l:List UInt8):Prop where
 all: ∀ c∈l,c=46∨Dgt c
 one:l.count 46≤1
 len:l.length≤18
theorem Gy{α:Type}{p:List α→Prop}(h0:p [])(h1: ∀ l a,p l→p (l++[a]))(l:List α):p l:=by
  have: ∀ r:List α,p r.reverse:=fun r=>by
    induction r with
    |nil=>exact h0
    |cons a r ih=>rw [List.reverse_cons];exact h1 _ _ ih
  have h:=this l.reverse
  rwa [List.reverse_reverse]at h
theorem o2: ∀ (l:List UInt8) (h: ∀ c∈l,c=46∨Dgt c),(rf l).1<10^(rf l).2.1∧(rf l).2.1≤l.length∧((rf l).2.2.2=decide (46∈l))∧ -(l.length:Int)≤(rf l).2.2.1∧(rf l).2.2.1≤l.length:=by
  refine Gy (fun _=>by simp [rf]) (fun l c ih h=>?_)
  · obtain⟨h1,h2,h3,h4,h5⟩:=ih fun x hx=>h x cE
    rw [lv]
    unfold dK
    rcases h c aJ with rfl|hd
    · rw [if_pos rfl]
      refine⟨h1,by simp;omega,by simp,?_,?_⟩<;>simp<;>omega
    · rw [if_neg hd.ne]
      have hne:(46:UInt8)≠c:=fun e=>hd.ne e.symm
      split
      · refine⟨h1,by simp;omega,by simp [h3,hne],?_,?_⟩<;>simp<;>omega
      · refine⟨?_,by simp;omega,by simp [h3,hne],?_,?_⟩
        · simp only [Nat.pow_succ]
          have:=hd.2
          omega
        · simp;omega
        · simp;omega
theorem Dec.take{l:List UInt8}(h:Dec l)(i:Nat): ∀ c∈l.take i,c=46∨Dgt c:=fun c hc=>h.all c (List.mem_of_mem_take hc)
theorem Dec.lt{l:List UInt8}(h:Dec l)(i:Nat):(rf (l.take i)).1<1000000000000000000∧(rf (l.take i)).2.1≤18∧ -18≤(rf (l.take i)).2.2.1∧(rf (l.take i)).2.2.1≤18:=by
 obtain⟨h1,h2,_,h4,h5⟩:=o2 _ (h.take i)
 have h6:(l.take i).length≤18:=by rw [List.length_take];have:=h.len;omega
 have h7:10^(rf (l.take i)).2.1≤10^18:=Nat.pow_le_pow_right aC aC
 exact⟨aC,aC,aC,aC⟩
theorem Dec.nodot{l:List UInt8}(h:Dec l){i:Nat}(hi:i<l.length)(hc:l[i]=46):(rf (l.take i)).2.2.2=false:=by
 rw [(o2 _ (h.take i)).2.2.1]
 simp only [decide_eq_false_iff_not]
 intro hm
 have h1:l.count 46=(l.take i).count 46+(l.drop i).count 46:=by rw [←List.count_append,List.take_append_drop]
 have h2:0<(l.take i).count 46:=List.count_pos_iff.2 hm
 have h3:0<(l.drop i).count 46:=List.count_pos_iff.2 (by rw [List.drop_eq_getElem_cons hi,hc];exact List.mem_cons_self)
 have:=h.one
 omega
theorem fO{d:Nat}(h:d<10):(UInt8.ofNat (48+d)).toNat=48+d:=by
 rw [UInt8.toNat_ofNat'];omega
theorem lx{d:Nat}(h:d<10):Dgt (UInt8.ofNat (48+d)):=by unfold Dgt;rw [fO h];omega
theorem pA(u:Nat): ∀ c∈decDigits u,Dgt c:=by
  induction u using Nat.strongRecOn with
  |_ u ih=>
    rw [decDigits]
    split
    · rename_i h
      intro c hc
      rw [List.mem_singleton]at hc
      subst hc
      exact lx h
    · rename_i h
      intro c hc
      rcases List.mem_append.1 hc with hc|hc
      · exact ih (u/10) aC c hc
      · rw [List.mem_singleton]at hc
        subst hc
        exact lx (Nat.mod_lt _ aC)
theorem KU(u:Nat):rf (decDigits u)=if u=0 then(0,0, -1,false)else(u,nDigits u,0,false):=by
  induction u using Nat.strongRecOn with
  |_ u ih=>
    rw [decDigits]
    split
    · rename_i h
      rw [nDigits_small h,←List.nil_append [_],lv]
      unfold dK
      rw [if_neg (lx h).ne]
      by_cases h0:u=0
      · subst h0
        rfl
      · rw [if_neg (fun hh=>h0 (by have:=congrArg UInt8.toNat hh.1;rw [fO h]at this;have h48:(48:UInt8).toNat=48:=rfl;omega)),if_neg h0,fO h]
        simp [rf]
    · rename_i h
      rw [lv,ih (u/10) aC,if_neg aC,if_neg aC,nDigits_big h]
      have hm:u%10<10:=Nat.mod_lt _ aC
      unfold dK
      rw [if_neg (lx hm).ne,if_neg (fun hh=>by have:=nDigits_pos (u/10);have h2:nDigits (u/10)=0:=hh.2;omega),fO hm]
      simp only [Prod.mk.injEq,and_true]
      omega
theorem KV(a b:List UInt8):rf (a++b)=b.foldl dK (rf a):=by unfold rf;rw [List.foldl_append]
structure EL(fr:List UInt8)(q k:Nat):Prop where
 q3:0<q∧q<4
 k6:0<k∧k≤6
 all: ∀ c∈fr,c=46∨Dgt c
 one:fr.count 46=1
 len:fr.length=k+1
 hd:fr.head? =some 46
 get: ∃fv,4*fv=10^k*q∧ ∀ (u n:Nat) (p:Int),fr.foldl dK (u,n,p,false)=(u*10^k+fv,n+k,(n:Int),true)
theorem gl(l:List UInt8)(h:l.all (fun c=>c==46||decide (48≤c.toNat) && decide (c.toNat≤57))=true): ∀ c∈l,c=46∨Dgt c:=fun c hc=>by
 have:=List.all_eq_true.1 h c hc
 simp only [Bool.or_eq_true,beq_iff_eq,Bool.and_eq_true,decide_eq_true_eq]at this
 exact this
theorem Bx{q:Nat}(h0:0<q)(h:q<4): ∃k,EL (frac q).data.toList q k∧(k=1∨k=2):=by
  match q,h0,h with
  |1,_,_=>exact⟨2,⟨aC,aC,gl _ rfl,rfl,rfl,rfl,25,rfl,fun u n p=>by
      show List.foldl dK _ [46,50,53]=_
      simp [dK];omega⟩,aC⟩
  |2,_,_=>exact⟨1,⟨aC,aC,gl _ rfl,rfl,rfl,rfl,5,rfl,fun u n p=>by
      show List.foldl dK _ [46,53]=_
      simp [dK]⟩,aC⟩
  |3,_,_=>exact⟨2,⟨aC,aC,gl _ rfl,rfl,rfl,rfl,75,rfl,fun u n p=>by
      show List.foldl dK _ [46,55,53]=_
      simp [dK];omega⟩,aC⟩
theorem ya{q:Nat}(h0:0<q)(h:q<4):EL (Du q).data.toList q 6:=by
  match q,h0,h with
  |1,_,_=>exact⟨aC,aC,gl _ rfl,rfl,rfl,rfl,250000,rfl,fun u n p=>by
      show List.foldl dK _ [46,50,53,48,48,48,48]=_
      simp [dK];omega⟩
  |2,_,_=>exact⟨aC,aC,gl _ rfl,rfl,rfl,rfl,500000,rfl,fun u n p=>by
      show List.foldl dK _ [46,53,48,48,48,48,48]=_
      simp [dK];omega⟩
  |3,_,_=>exact⟨aC,aC,gl _ rfl,rfl,rfl,rfl,750000,rfl,fun u n p=>by
      show List.foldl dK _ [46,55,53,48,48,48,48]=_
      simp [dK];omega⟩
theorem ib{u k:Nat}(h:u<10^k)(hk:0<k):nDigits u≤k:=by
  induction k generalizing u with
  |zero=>omega
  |succ k ih=>
    by_cases h9:u<10
    · rw [nDigits_small h9];omega
    · rw [nDigits_big h9]
      rcases Nat.eq_zero_or_pos k with rfl|hk'
      · omega
      · have:=ih (u:=u/10) (by rw [Nat.pow_succ]at h;omega) hk'
        omega
theorem u3{A:Nat}{fr:List UInt8}{k:Nat}(hA:A<1000000000)(hf:EL fr (A%4) k):Dec (decDigits (A/4)++fr)∧ ∃m n:Nat,rf (decDigits (A/4)++fr)=(m,n+k,(n:Int),true)∧m*4=10^k*A∧0<m∧m<2^52∧n≤9:=by
 have hn:nDigits (A/4)≤9:=ib aC aC
 refine⟨⟨fun c hc=>?_,?_,?_⟩,?_⟩
 ·rcases List.mem_append.1 hc with hc|hc
  ·exact .inr (pA _ c hc)
  ·exact hf.all c hc
 ·rw [List.count_append,hf.one,List.count_eq_zero.2 (fun hm=>(pA _ _ hm).ne rfl)]
  omega
 ·rw [List.length_append,decDigits_length,hf.len]
  have:=hf.k6
  omega
 ·obtain⟨fv,h4,hg⟩:=hf.get
  have hpk:10^k≤10^6:=Nat.pow_le_pow_right aC hf.k6.2
  have hp0:0<10^k:=Nat.pow_pos aC
  have hm:(A/4*10^k+fv)*4=10^k*A:=by
   rw [Nat.add_mul,Nat.mul_comm fv 4,h4,Nat.mul_comm (A/4),Nat.mul_assoc,←Nat.mul_add]
   congr 1;omega
  have hA0:0<A:=by have:=hf.q3;omega
  have hm0:=Nat.mul_pos hp0 hA0
  have hm1:10^k*A≤10^6*A:=Nat.mul_le_mul_right A hpk
  rw [KV,KU]
  split
  ·rename_i hz
   rw [hg]
   refine⟨_,0,rfl,?_,?_,?_,aC⟩
   ·rw [hz]at hm;exact hm
   ·rw [hz]at hm;omega
   ·rw [hz]at hm;omega
  ·rw [hg]
   exact⟨_,_,rfl,hm,aC,aC,hn⟩
end Go.Jw

namespace Go.Jw
open Go Go.RowKit Go.Proofs
theorem KW:Tryz.prog.info? 342=some Tryz.t342:=zR Tryz.typeInfo342
theorem I3:gz Tryz.prog 342 (match Tryz.t342.zero with|some z=>z.cells.toList|none=>[]):=⟨Tryz.t342,_,KW,rfl,rfl⟩
theorem rv:cI Tryz.prog 342 0 0:=⟨_,_,Tryz.t235,0,Tryz.underlying342,rfl,rfl,zR Tryz.typeInfo235,rfl⟩
theorem rx:cI Tryz.prog 342 1 1:=⟨_,_,Tryz.t235,0,Tryz.underlying342,rfl,rfl,zR Tryz.typeInfo235,rfl⟩
theorem ry:cI Tryz.prog 342 2 2:=⟨_,_,Tryz.t3,0,Tryz.underlying342,rfl,rfl,zR Tryz.typeInfo3,rfl⟩
theorem KX:Tryz.prog.info? 359=some Tryz.t359:=zR Tryz.typeInfo359
theorem AM: ∃i,Tryz.prog.info? 359=some i∧i.size=2:=⟨_,KX,rfl⟩
theorem AN:cI Tryz.prog 359 0 0:=⟨_,_,Tryz.t235,0,Tryz.underlying359,rfl,rfl,zR Tryz.typeInfo235,rfl⟩
theorem AO:cI Tryz.prog 359 1 1:=⟨_,_,Tryz.t235,0,Tryz.underlying359,rfl,rfl,zR Tryz.typeInfo235,rfl⟩
end Go.Jw

namespace Go.Jw
open Go Go.RowKit Go.Proofs
set_option maxRecDepth 8000
theorem Gz{s:ByteArray}{i:Nat}(h:i<s.size): ∃h':0<(s.extract i s.size).size,(s.extract i s.size)[0]=s[i]:=by
 have hs:(s.extract i s.size).size=s.size - i:=by simp
 refine⟨aC,?_⟩
 simp [ByteArray.getElem_extract]
theorem ly{c:UInt8}(h:Dgt c):(48:Int)≤(c.toNat:Int)∧(c.toNat:Int)≤57:=by unfold Dgt at h;omega
def G0(fb:Addr):List (Addr×Value):=[(⟨4,0,none⟩, .bool true),(⟨5,0,none⟩, .int .u64 52),(⟨10,0,none⟩, .slice (some fb) 23 23),
 (fb.add 1, .float .f64 4621819117588971520),(fb.add 2, .float .f64 4636737291354636288),(fb.add 6, .float .f64 4696837146684686336),
 (⟨11,708,none⟩, .int .u64 17592186044416000000),(⟨11,709,none⟩, .int .u64 0),(⟨11,710,none⟩, .int .u64 10995116277760000000),(⟨11,711,none⟩, .int .u64 0)]++(List.range 20).map fun i=>(⟨0,i,none⟩, .int .u64 ((10^i:Nat):Int))
abbrev jq(fb:Addr):DA:= .cs (G0 fb)

theorem Pt:di Tryz.prog 256 #[.int .u8 46] [] (.int .u8 46):=by
 refine Ct.of_run (args:=[.int .u8 46]) Tryz.func256 aF Z Tryz.ntmps256 Z (fun c=>?_)
 refine rO 10 Z (sD Z Z Z (fun w=>rfl) ?_)
 refine oR 3 Z ?_
 exact zD Tryz.results256 Z ⟨rfl,rfl,rfl⟩ nS (fun _ h=>by cases h)
theorem Pu(s p:ByteArray)(h:0<s.size)(hd:Dgt s[0])(hp:0<p.size)(hp2: ¬ Dgt p[0]):di Tryz.prog 292 #[.string s, .string p] [] (.int .i64 0):=by
 refine Ct.of_run (args:=[.string s, .string p]) Tryz.func292 aF Z Tryz.ntmps292 Z (fun c=>?_)
 have hd2:=ly hd
 refine rO 10 Z (xF eL Z Z ?_)
 refine oO 3 Z (xF eL Z Z ?_)
 refine zA (rq Z Z Z Z ?_)
 refine oK 10 [6,5,0,1] Z Z (xX 1 (fun(i:Nat)=>i=0) (fun(i:Nat)=>[(6, .int .i64 ((i:Nat):Int))]) (fun(i:Nat)=>0) 0 (rfl) (eC Z (eN _)) ?_ (eC Z (eC Z (eC Z (eN _)))))
 intro i hI K hK
 change Run _ _ _ _ _ [(6,_),(5,_),(0,_),(1,_)] _ _
 subst hI
 refine rO 8 Z (wI Z Z Z ?_)
 refine yO (wP Z (decide_eq_true aC) ?_)
 refine rO 10 Z (vT eL Z Z Z aC ?_)
 refine oO 9 Z (sE Z Z Z ?_)
 refine oS 2 Z (wL (s:=23) Z (decide_eq_false aC) ?_)
 refine oK 5 [26,7,6,5,0,1] Z Z (rO 11 Z ?_)
 refine vT eL Z Z Z aC (zA ?_)
 refine gT Z Z Z (yO ?_)
 refine wP Z (decide_eq_true (fun he=>hp2 (by unfold Dgt at hd⊢;omega))) (rK 7 [4] Z Z ?_)
 exact zD Tryz.results292 Z ⟨rfl,rfl,rfl⟩ nS (fun _ h=>by cases h)
theorem NQ(s:ByteArray)(h:0<s.size)(hd:Dgt s[0]):di Tryz.prog 265 #[.string s] [] (.tuple #[.float .f64 0, .int .i64 0, .bool false]):=by
 refine Ct.of_run (args:=[.string s]) Tryz.func265 aF Z Tryz.ntmps265 Z (fun c=>?_)
 have hd2:=ly hd
 refine rO 15 Z (xF eL Z Z ?_)
 refine oR 3 Z (xA Z (decide_eq_false aC) ?_)
 refine rO 17 Z (vT (i:=0) eL Z Z Z h ?_)
 refine oR 18 Z (xA Z (decide_eq_false aC) ?_)
 refine rK 6 [13,12,6,5,0] Z Z (xA Z (decide_eq_false aC) ?_)
 refine rR 10 Z (xA Z (decide_eq_false aC) ?_)
 refine rR 6 Z (xA Z (decide_eq_false aC) ?_)
 refine rR 9 Z (xA Z (decide_eq_false aC) ?_)
 refine rK 6 [19,0] Z Z (xA Z (decide_eq_false aC) ?_)
 refine rR 11 Z ?_
 exact pC Tryz.results265 Z Z Z ⟨rfl,rfl,rfl⟩ nS (fun _ h=>by cases h)
theorem NR(s:ByteArray)(h:1<s.size)(h0:s[0]=45)(hd:Dgt s[1]):di Tryz.prog 265 #[.string s] [] (.tuple #[.float .f64 0, .int .i64 0, .bool false]):=by
 refine Ct.of_run (args:=[.string s]) Tryz.func265 aF Z Tryz.ntmps265 Z (fun c=>?_)
 have hd2:=ly hd
 have h45:((s[0].toNat:Nat):Int)=45:=by rw [h0];rfl
 obtain⟨hx1,hx2⟩:=Gz h
 refine rO 15 Z (xF eL Z Z ?_)
 refine oR 3 Z (xA Z (decide_eq_false aC) ?_)
 refine rO 17 Z (vT (i:=0) eL Z Z Z aC ?_)
 refine oR 18 Z (xA Z (decide_eq_false aC) ?_)
 refine rK 6 [13,12,6,5,0] Z Z (wP Z (decide_eq_true h45) ?_)
 refine rO 7 Z (vT (i:=0) eL Z Z Z aC ?_)
 refine oR 3 Z (wP Z (decide_eq_true h45) ?_)
 refine rO 13 Z (iD (i:=1) eL Z Z Z aC ?_)
 refine oO 10 Z (zL Z Z Z (Pu (s.extract 1 s.size) ⟨#[105,110,102,105,110,105,116,121]⟩ hx1 (by rw [hx2];exact hd) aE (by unfold Dgt;decide)) cQ ?_)
 refine oK 3 [7,6,5] Z Z (rO 6 Z ?_)
 refine wI Z Z Z (oS 2 Z ?_)
 refine wL (s:=31) Z (rfl) (oS 15 Z ?_)
 refine wL (s:=37) Z (rfl) (oK 7 [40,7,6,5] Z Z ?_)
 refine rR 12 Z ?_
 exact pC Tryz.results265 Z Z Z ⟨rfl,rfl,rfl⟩ nS (fun _ h=>by cases h)
theorem rz{fn:Func}{t1 t2 t3 t4 t5 t6 t7:Tmp}(h:fn.results= #[.tmp t1, .tmp t2, .tmp t3, .tmp t4, .tmp t5, .tmp t6, .tmp t7])(tmps:Array Value)(P:Program)(w:World):
  (results fn tmps).run P w= .ok (.tuple #[tmps.getD t1 undef,tmps.getD t2 undef,tmps.getD t3 undef,tmps.getD t4 undef,tmps.getD t5 undef,tmps.getD t6 undef,tmps.getD t7 undef]) w:=by
 simp [results,h]
section rules
variable {P:Program} {n:Nat} {F:List Nat} {c:Ctx F} {k:List KI} {e:dF} {M:List HA} {D:List DA}
theorem EM{fn:Func}{R:Value→List HA→List DA→Prop}{t1 t2 t3 t4 t5 t6 t7:Nat}{v1 v2 v3 v4 v5 v6 v7:Value}{M':List HA}{D':List DA}(hr:fn.results= #[.tmp t1, .tmp t2, .tmp t3, .tmp t4, .tmp t5, .tmp t6, .tmp t7])
  (h1:cz e t1=some v1) (h2:cz e t2=some v2) (h3:cz e t3=some v3) (h4:cz e t4=some v4) (h5:cz e t5=some v5) (h6:cz e t6=some v6) (h7:cz e t7=some v7) (hR:R (.tuple #[v1,v2,v3,v4,v5,v6,v7]) M' D') (hM:List.Sublist M' M) (hD: ∀ d∈D',d∈D):
  Run P n c (.code .ret::k) (lK P c fn R) e M D:=
 pB (fun a w hf=>by
  have:=rz hr a.tmps P w
  rw [this,uH hf h1,uH hf h2,uH hf h3,uH hf h4,uH hf h5,uH hf h6,uH hf h7]) hR hM hD
end rules
structure NumTxt(s:ByteArray)(neg:Bool)(l:List UInt8):Prop where
 at_:Sf s neg.toNat l
 sign: ∀ h:0<s.size,s[0]=45↔neg=true
 dec:Dec l
 ne:0<l.length
 d0: ∀ h:0<l.length,Dgt l[0]
 z: ∀ h:1<l.length,l[0]=48→l[1]=46
theorem NumTxt.sz{s:ByteArray}{neg:Bool}{l:List UInt8}(h:NumTxt s neg l):s.size=neg.toNat+l.length∧s.size≤19∧0<l.length∧l.length≤18:=by
 have h1:=h.at_.size
 have h2:=h.dec.len
 have h3:=h.ne
 have:neg.toNat≤1:=by cases neg<;>decide
 exact⟨h1,aC,h3,h2⟩
theorem NumTxt.c{s:ByteArray}{neg:Bool}{l:List UInt8}(h:NumTxt s neg l){j:Nat}(hj:j<l.length): ∃hs:neg.toNat+j<s.size,s[neg.toNat+j]=l[j]:=by
 have h1:=h.at_.size
 exact⟨aC,h.at_.get hj aC⟩
theorem yb(st:MI):dK st 46=(st.1,st.2.1,(st.2.1:Int),true):=rfl
theorem u5{st:MI}(h:st.2.1=0):dK st 48=(st.1,st.2.1,st.2.2.1 - 1,st.2.2.2):=by
 unfold dK
 rw [if_neg aE,if_pos ⟨rfl,h⟩]
theorem m8{st:MI}{c:UInt8}(h:Dgt c)(hz: ¬ (c=48∧st.2.1=0)):dK st c=(st.1*10+(c.toNat - 48),st.2.1+1,st.2.2.1,st.2.2.2):=by
 unfold dK
 rw [if_neg h.ne,if_neg hz]
theorem AP{c:UInt8}{n:Nat}(hn:n<256)(h:(c.toNat:Int)=(n:Int)):c=UInt8.ofNat n:=by
 apply UInt8.toNat_inj.1
 rw [UInt8.toNat_ofNat']
 omega

theorem Pv{c:UInt8}{neg:Bool}(h:(neg=true∧c=45)∨(neg=false∧Dgt c)): ¬ ((c.toNat:Int)=43):=by
 rcases h with ⟨_,rfl⟩|⟨_,h⟩
 ·decide
 ·unfold Dgt at h;omega
theorem Pw{c:UInt8}(h:c=46∨Dgt c): ¬ ((c.toNat:Int)=95):=by
 rcases h with rfl|h
 ·decide
 ·unfold Dgt at h;omega
set_option maxHeartbeats 4000000 in
theorem Px(s:ByteArray)(neg:Bool)(l:List UInt8)(hN:NumTxt s neg l)(m n k:Nat)(hr:rf l=(m,n+k,(n:Int),true))(hm:0<m)(hnk:n+k≤18):di Tryz.prog 266 #[.string s] [] (.tuple #[.int .u64 (m:Int), .int .i64 (-((k:Nat):Int)), .bool neg, .bool false, .bool false, .int .i64 (s.size:Int), .bool true]):=by
 refine Ct.of_run (args:=[.string s]) Tryz.func266 aF Z Tryz.ntmps266 Z (fun c=>?_)
 obtain⟨hsz,hs19,hln,hl18⟩:=hN.sz
 have hs0:=hN.sign aC
 have hnt:neg.toNat≤1:=by cases neg<;>decide
 have hf0:(neg=true∧s[0]=45)∨(neg=false∧Dgt s[0]):=by
  cases neg with
  |true=>exact .inl ⟨rfl,hs0.2 rfl⟩
  |false=>
   obtain⟨h1,h2⟩:=hN.c (j:=0) hln
   exact .inr ⟨rfl,by have h3:s[0]=l[0]:=h2;rw [h3];exact hN.d0 hln⟩
 refine rR 17 Z (Bt (Bs _ _ _ _) ?_)
 refine rO 13 Z (xF eL Z Z ?_)
 refine zA (uA Z Z Z ?_)
 refine yO (xA Z (decide_eq_false aC) ?_)
 refine rO 9 Z (vT (i:=0) eL Z Z Z aC ?_)
 refine oK 1 [27,9,8,7,6,5,4,3,2,0] Z Z (rK 0 [27,9,8,7,6,5,4,3,2,0] Z Z ?_)
 refine uY [9,8,6,5,3,2,0] (fun(u:Unit)=>True) (fun(u:Unit)=>[(7, .int .i64 ((neg.toNat:Nat):Int)),(4, .bool neg)]) (fun(u:Unit)=>[]) (fun(u:Unit)=>[]) ?_ ?_
 ·intro K hK
  refine rR 8 Z (xA Z (decide_eq_false (Pv hf0)) ?_)
  refine rR 7 Z (zI Z (fun h32=>?_) (fun h32=>?_))
  ·refine rO 5 Z (xN (s:=1) Z Z Z Z aC aC ?_)
   refine oK 3 [7,9,8,6,5,3,2,0] Z Z (rR 5 Z ?_)
   obtain rfl:neg=true:=hs0.1 (AP (n:=45) aC h32)
   exact kQ (hK () trivial) (hD:=ba)
  refine rR 2 Z ?_
  obtain rfl:neg=false:=by
   cases neg with
   |false=>rfl
   |true=>exact absurd (by rw [hs0.2 rfl];rfl) h32
  exact kQ (hK () trivial) (hD:=ba)
 intro u hI
 replace hI:True:=hI
 change Run _ _ _ _ _ [(7,_),(4,_),(9,_),(8,_),(6,_),(5,_),(3,_),(2,_),(0,_)] ([]) ([])
 refine rK 17 [12,11,10,7,4,9,8,6,5,3,2,0] Z Z (uT (fun(u:Unit)=>True) (fun(u:Unit)=>[(54, .bool false)]) ?_ ?_)
 ·intro K hK
  refine rO 4 Z (xN (s:=((neg.toNat+2:Nat):Int)) Z Z Z aC aC aC ?_)
  refine oO 3 Z (xF eL Z Z ?_)
  refine zA (yL Z Z Z ?_)
  refine oS 2 Z (zW (s:=41) Z (fun h41=>?_) (fun h41=>?_))
  ·obtain⟨hs1,hc1⟩:=hN.c (j:=0) hln
   rw [Nat.add_zero]at hs1
   have hc1a:s[neg.toNat]=l[0]:=hc1
   refine oO 5 Z (vT (i:=neg.toNat) eL Z Z Z hs1 ?_)
   refine oS 6 Z (zW (s:=47) Z (fun h47=>?_) (fun h47=>?_))
   ·have hl1:1<l.length:=by omega
    obtain⟨hs2,hc2⟩:=hN.c (j:=1) hl1
    have hz:=hN.z hl1 (by rw [←hc1a];exact AP (n:=48) aC h47)
    rw [hz]at hc2
    refine oO 5 Z (xN (s:=((neg.toNat+1:Nat):Int)) Z Z Z aC aC aC ?_)
    refine zH Z Z (vT (i:=neg.toNat+1) eL Z Z Z hs2 ?_)
    rw [hc2]
    refine zH Z Z (zL Z Z Z Pt cQ ?_)
    refine oK 5 [54,12,11,10,7,4,9,8,6,5,3,2,0] Z Z ?_
    exact kQ (hK () (trivial))
   refine oK 9 [54,12,11,10,7,4,9,8,6,5,3,2,0] Z Z ?_
   exact kQ (hK () (trivial))
  refine oK 17 [54,12,11,10,7,4,9,8,6,5,3,2,0] Z Z ?_
  exact kQ (hK () (trivial))
 intro u hI
 replace hI:True:=hI
 change Run _ _ _ _ _ [(54,_),(12,_),(11,_),(10,_),(7,_),(4,_),(9,_),(8,_),(6,_),(5,_),(3,_),(2,_),(0,_)] (_) (_)
 refine rK 12 [14,13,12,11,10,7,4,9,8,6,5,3,2,0] Z Z (rK 5 [15,14,13,12,11,10,7,4,9,8,6,5,3,2,0] Z Z ?_)
 refine rK 5 [16,15,14,13,12,11,10,7,4,9,8,6,5,3,2,0] Z Z (rK 5 [17,16,15,14,13,12,11,10,7,4,9,8,6,5,3,2,0] Z Z ?_)
 refine xD (Bu ?_)
 refine rK 2 [7,2,13,14,15,16,17,12,11,10,4,9,8,6,5,3,0] Z Z ?_
 refine xX 7 (fun(j:Nat)=>j≤l.length) (fun(j:Nat)=>[(7, .int .i64 ((neg.toNat+j:Nat):Int)),(2, .int .u64 ((rf (l.take j)).1:Int)),(13, .bool (rf (l.take j)).2.2.2),(14, .bool (decide (0<j))),(15, .int .i64 ((rf (l.take j)).2.1:Int)),(16, .int .i64 ((rf (l.take j)).2.1:Int)),(17, .int .i64 (rf (l.take j)).2.2.1)]) (fun(j:Nat)=>l.length - j) 0 (bg) (eC Z (eC Z (eC Z (eC Z (eC Z (eC Z (eC Z (eN _)))))))) ?_ (eC Z (eC Z (eC Z (eC Z (eC Z (eC Z (eC Z (eC Z (eC Z (eC Z (eN _)))))))))))
 intro j hI K hK
 change Run _ _ _ _ _ [(7,_),(2,_),(13,_),(14,_),(15,_),(16,_),(17,_),(12,_),(11,_),(10,_),(4,_),(9,_),(8,_),(6,_),(5,_),(3,_),(0,_)] _ _
 replace hI:j≤l.length:=hI
 obtain⟨hb1,hb2,hb3,hb4⟩:=hN.dec.lt j
 refine rO 8 Z (xF eL Z Z ?_)
 refine zA (wI Z Z Z ?_)
 refine oK 1 [60,7,2,13,14,15,16,17,12,11,10,4,9,8,6,5,3,0] Z Z (zI Z (fun h60=>?_) (fun h60=>?_))
 ·have hlt:j<l.length:=by omega
  obtain⟨hsj,hcj⟩:=hN.c hlt
  have hall:=hN.dec.all l[j] (List.getElem_mem hlt)
  refine rO 11 Z (vT (i:=neg.toNat+j) eL Z Z Z hsj ?_)
  rw [hcj]
  refine oK 3 [18,7,2,13,14,15,16,17,12,11,10,4,9,8,6,5,3,0] Z Z (rO 8 Z ?_)
  refine x8 Tryz.underlying4 Z Z Z (oK 3 [66,18,7,2,13,14,15,16,17,12,11,10,4,9,8,6,5,3,0] Z Z ?_)
  refine xA Z (decide_eq_false (Pw hall)) (rO 7 Z ?_)
  refine x8 Tryz.underlying4 Z Z Z (oK 3 [70,18,7,2,13,14,15,16,17,12,11,10,4,9,8,6,5,3,0] Z Z ?_)
  refine zI Z (fun h70=>?_) (fun h70=>?_)
  ·have hc46:l[j]=46:=AP (n:=46) aC h70
   have hj0:0<j:=by
    rcases Nat.eq_zero_or_pos j with rfl|h
    ·exact absurd hc46 (hN.d0 hln).ne
    ·exact h
   refine rK 6 [74,7,2,13,14,15,16,17,12,11,10,4,9,8,6,5,3,0] Z Z (xA Z (hN.dec.nodot hlt hc46) ?_)
   refine rK 6 [13,7,2,14,15,16,12,11,10,4,9,8,6,5,3,0] Z Z (rK 7 [17,13,7,2,14,15,16,12,11,10,4,9,8,6,5,3,0] Z Z ?_)
   refine rO 5 Z (xN (s:=((neg.toNat+(j+1):Nat):Int)) Z Z Z aC aC aC ?_)
   refine oK 3 [7,17,13,2,14,15,16,12,11,10,4,9,8,6,5,3,0] Z Z ?_
   have hst:=lw hlt
   rw [hc46,yb]at hst
   exact vJ (hK (j+1) bY a8) aL (zQ _) ba
  have hdg:Dgt l[j]:=hall.resolve_left (fun h=>h70 (by rw [h];rfl))
  have hdi:=ly hdg
  refine rO 5 Z (sE Z Z Z ?_)
  refine oS 2 Z (gV (s:=79) Z (decide_eq_true aC) ?_)
  refine oO 3 Z (sE Z Z Z ?_)
  refine oO 3 Z (x8 Tryz.underlying4 Z Z Z ?_)
  refine oK 3 [76,18,7,2,13,14,15,16,17,12,11,10,4,9,8,6,5,3,0] Z Z (wP Z (decide_eq_true aC) ?_)
  refine rK 5 [14,18,7,2,13,15,16,17,12,11,10,4,9,8,6,5,3,0] Z Z (rS 9 Z ?_)
  refine zW (s:=86) Z (fun h86=>?_) (fun h86=>?_)
  ·refine oK 7 [89,14,18,7,2,13,15,16,17,12,11,10,4,9,8,6,5,3,0] Z Z (zI Z (fun h89=>?_) (fun h89=>?_))
   ·refine rO 5 Z (xQ (s:=(rf (l.take j)).2.2.1 - 1) Z Z Z Z aC aC ?_)
    refine oK 3 [17,14,7,2,13,15,16,12,11,10,4,9,8,6,5,3,0] Z Z (rO 5 Z ?_)
    refine xN (s:=((neg.toNat+(j+1):Nat):Int)) Z Z Z aC aC aC (oK 3 [7,17,14,2,13,15,16,12,11,10,4,9,8,6,5,3,0] Z Z ?_)
    have hc48:l[j]=48:=AP (n:=48) aC h86
    have hst:=lw hlt
    rw [hc48,u5 aC]at hst
    exact vJ (hK (j+1) bY a8) aL (zQ _) ba
   refine rO 6 Z (xN (s:=(((rf (l.take j)).2.1+1:Nat):Int)) Z Z Z aC aC aC ?_)
   refine oK 3 [15,14,18,7,2,13,16,17,12,11,10,4,9,8,6,5,3,0] Z Z (rO 8 Z ?_)
   refine wI Z Z Z (oK 1 [96,15,14,18,7,2,13,16,17,12,11,10,4,9,8,6,5,3,0] Z Z ?_)
   refine wP Z (decide_eq_true aC) (rO 7 Z ?_)
   refine AK (r:=(rf (l.take j)).1*10) Z Z Z Z aC (oK 3 [2,15,14,18,7,13,16,17,12,11,10,4,9,8,6,5,3,0] Z Z ?_)
   refine rO 7 Z (uv (m':=48) (r:=l[j].toNat - 48) Z Z Z bP Z bP ?_)
   refine zA (o1 Tryz.underlying5 Tryz.underlying235 Z Z (uS (m:=l[j].toNat - 48) bP) ?_)
   refine zA (lu (r:=(rf (l.take j)).1*10+(l[j].toNat - 48)) Z Z Z Z bP ?_)
   refine oK 3 [2,15,14,7,13,16,17,12,11,10,4,9,8,6,5,3,0] Z Z (rO 4 Z ?_)
   refine xN (s:=(((rf (l.take j)).2.1+1:Nat):Int)) Z Z Z aC aC aC (oK 3 [16,2,15,14,7,13,17,12,11,10,4,9,8,6,5,3,0] Z Z ?_)
   refine rO 5 Z (xN (s:=((neg.toNat+(j+1):Nat):Int)) Z Z Z aC aC aC ?_)
   refine oK 3 [7,16,2,15,14,13,17,12,11,10,4,9,8,6,5,3,0] Z Z ?_
   have hst:=lw hlt
   rw [m8 hdg (fun hh=>h89 (by have:=hh.2;omega))]at hst
   exact vJ (hK (j+1) bY a8) aL (zQ _) ba
  refine oK 5 [89,14,18,7,2,13,15,16,17,12,11,10,4,9,8,6,5,3,0] Z Z (rO 7 Z ?_)
  refine xN (s:=(((rf (l.take j)).2.1+1:Nat):Int)) Z Z Z aC aC aC (oK 3 [15,14,18,7,2,13,16,17,12,11,10,4,9,8,6,5,3,0] Z Z ?_)
  refine rO 8 Z (wI Z Z Z ?_)
  refine oK 1 [96,15,14,18,7,2,13,16,17,12,11,10,4,9,8,6,5,3,0] Z Z (wP Z (decide_eq_true aC) ?_)
  refine rO 7 Z (AK (r:=(rf (l.take j)).1*10) Z Z Z Z aC ?_)
  refine oK 3 [2,15,14,18,7,13,16,17,12,11,10,4,9,8,6,5,3,0] Z Z (rO 7 Z ?_)
  refine uv (m':=48) (r:=l[j].toNat - 48) Z Z Z bP Z bP (zA ?_)
  refine o1 Tryz.underlying5 Tryz.underlying235 Z Z (uS (m:=l[j].toNat - 48) bP) (zA ?_)
  refine lu (r:=(rf (l.take j)).1*10+(l[j].toNat - 48)) Z Z Z Z bP (oK 3 [2,15,14,7,13,16,17,12,11,10,4,9,8,6,5,3,0] Z Z ?_)
  refine rO 4 Z (xN (s:=(((rf (l.take j)).2.1+1:Nat):Int)) Z Z Z aC aC aC ?_)
  refine oK 3 [16,2,15,14,7,13,17,12,11,10,4,9,8,6,5,3,0] Z Z (rO 5 Z ?_)
  refine xN (s:=((neg.toNat+(j+1):Nat):Int)) Z Z Z aC aC aC (oK 3 [7,16,2,15,14,13,17,12,11,10,4,9,8,6,5,3,0] Z Z ?_)
  have hst:=lw hlt
  rw [m8 hdg (fun hh=>h86 (by rw [hh.1];rfl))]at hst
  exact vJ (hK (j+1) bY a8) aL (zQ _) ba
 obtain rfl:j=l.length:=by omega
 have e1:(rf l).1=m:=by rw [hr]
 have e2:(rf l).2.1=n+k:=by rw [hr]
 have e3:(rf l).2.2.1=(n:Int):=by rw [hr]
 have e4:(rf l).2.2.2=true:=by rw [hr]
 rw [List.take_length,e1,e2,e3,e4,←hsz]
 refine rK 9 [140,7,2,13,15,16,17,12,10,4,9,8,6,5,3,0] Z Z (xA Z (by simp [hln]) ?_)
 refine rK 9 [142,7,2,15,16,17,12,10,4,9,8,6,5,3,0] Z Z (rK 10 [145,7,2,16,17,12,10,4,9,8,6,5,3,0] Z Z ?_)
 refine rO 10 Z (xF eL Z Z ?_)
 refine zA (yL Z Z Z ?_)
 refine oS 2 Z (wL (s:=154) Z (decide_eq_false aC) ?_)
 refine oK 9 [161,7,2,16,17,10,4,9,8,6,5,3,0] Z Z (rK 8 [239,7,2,16,17,4,9,8,6,5,3,0] Z Z ?_)
 refine rO 8 Z (uG Z Z Z ?_)
 refine yO (wP Z (decide_eq_true aC) ?_)
 refine rO 6 Z (xQ (s:= -((k:Nat):Int)) Z Z Z aC aC aC ?_)
 refine oK 3 [3,7,2,4,9,8,6,5,0] Z Z (rK 15 [252,3,7,2,4,8,6,5] Z Z ?_)
 refine rR 7 Z ?_
 exact EM Tryz.results266 Z Z Z Z Z Z Z ⟨rfl,rfl,rfl⟩ nS (fun _ h=>by cases h)
section rules
variable {P:Program} {n:Nat} {F:List Nat} {c:Ctx F} {ops:Array Oper} {d:Nat} {T:TypeId} {l:List Oper} {k:List KI} {Q:cu} {e:dF} {M:List HA} {D:List DA}
variable {x y:Operand} {S S':TypeId}
theorem u6(hS:P.underlying S=some (.interface (P.methodsAt S)))(hd:Nat.blt d n=true)(hx:ev e x=some .nilIface)(next:cG P n c ops l k Q ((d, .bool false)::e) M D):cL P n c ops (some d) (.binOp .neq S x (.const .nilIface) S') T l k Q e M D:=
 xR hd (fun a w hf=>by
  have h1:=run_neq_nil_nil (P:=P) (w:=w) S hS
  have h2:a.eval (.const .nilIface)= .nilIface:=rfl
  simp only [execOp,dH,hf.ev hx,h2,eqGuard_nil_constR,Sem.run_bind,Sem.run_pure,Result.andThen_ok,h1]) next
theorem By{kd:IntKind}{m:Nat}(hS:(P.underlying S).isSome=true)(hS':P.underlying S'=some (.float .f64))(hd:Nat.blt d n=true)(hx:ev e x=some (.int kd (m:Nat)))(next:cG P n c ops l k Q ((d, .float .f64 (dN false m 0))::e) M D):
  cL P n c ops (some d) (.convert S S' x) T l k Q e M D:=by
 refine kR hS hS' hd hx ?_
 rw [show decide ((m:Int)<0)=false from decide_eq_false aC,Int.natAbs_natCast]
 exact next
end rules
theorem KY:Tryz.prog.underlying 77=some (.interface (Tryz.prog.methodsAt 77)):=by kernel_rfl
theorem EN{F:List Nat}{c:Ctx F}{M:List HA}{D:List DA}{w:World}(h:FitsW c M D w){j k:Nat}{fb:Addr}(hj:D[j]? =some (jq fb))(hk:k=1∨k=2∨k=6):w.cell? (fb.add (k*1))=some (.float .f64 (dN false (10^k) 0)):=by
 have hd: ∀ q∈G0 fb,_∧w.cell? q.1=some q.2:=h.dt hj
 rcases hk with rfl|rfl|rfl
 ·rw [PO];exact(hd (fb.add 1,_) (by simp [G0])).2
 ·rw [Mm];exact(hd (fb.add 2,_) (by simp [G0])).2
 ·rw [BZ];exact(hd (fb.add 6,_) (by simp [G0])).2
theorem I4{k:Nat}(hk:k=1∨k=2∨k=6):10^k<2^53:=by rcases hk with rfl|rfl|rfl<;>decide
structure Bz(s:ByteArray)(n:Int):Prop where
 ok: ∃(l:List UInt8) (m nn k:Nat),NumTxt s (decide (n<0)) l∧rf l=(m,nn+k,(nn:Int),true)∧0<m∧m<2^52∧(k=1∨k=2∨k=6)∧nn+k≤18∧m*4=10^k*n.natAbs∧0<n.natAbs∧n.natAbs<2^53

theorem KZ(b:Bool):di Tryz.prog 274 #[.bool b] [] (.int .u64 ((b.toNat:Nat):Int)):=by
 refine Ct.of_run (args:=[.bool b]) Tryz.func274 aF Z Tryz.ntmps274 Z (fun c=>?_)
 refine rR 11 Z (yC Z (fun h3=>?_) (fun h3=>?_))
 ·subst h3
  refine rR 5 Z ?_
  exact zD Tryz.results274 Z ⟨rfl,rfl,rfl⟩ nS (fun _ h=>by cases h)
 subst h3
 refine rR 6 Z ?_
 exact zD Tryz.results274 Z ⟨rfl,rfl,rfl⟩ nS (fun _ h=>by cases h)
theorem Py(fb:Addr)(neg:Bool)(m A k:Nat)(hm:0<m)(hm2:m<2^52)(hk:k=1∨k=2∨k=6)(hA:0<A)(hA2:A<2^53)(h4:m*4=10^k*A):di Tryz.prog 276 #[.int .u64 (m:Int), .int .i64 (-((k:Nat):Int)), .bool neg] [jq fb] (.tuple #[.float .f64 (dN neg A (-2)), .bool true]):=by
 refine Ct.of_run (args:=[.int .u64 (m:Int), .int .i64 (-((k:Nat):Int)), .bool neg]) Tryz.func276 aF Z Tryz.ntmps276 Z (fun c=>?_)
 have hk6:1≤k∧k≤6:=by omega
 refine rO 13 Z (zC Gf Z Z ?_)
 refine zA (tQ 0 1 ND Z Z Z Z ?_)
 refine zA (lr (m:=m) (s:=52) (r:=0) Z Z Z aC (Nat.div_eq_of_lt hm2) ?_)
 refine zA (uG Z Z Z ?_)
 refine oO 8 Z (By (by rw [Tryz.underlying235];rfl) Tryz.underlying214 Z Z ?_)
 refine oK 9 [15,6,7,1] Z Z (yC Z (fun h15=>?_) (fun h15=>?_))
 ·subst h15
  refine rO 4 Z (Gw Z Z (DY hm aC aC aC) ?_)
  refine oR 14 Z (xA Z (decide_eq_false aC) ?_)
  refine rO 5 Z (wO Z Z Z ?_)
  refine oS 2 Z (wL (s:=25) Z (decide_eq_false aC) ?_)
  refine oK 7 [22,6,7,1] Z Z (rO 6 Z ?_)
  refine wI Z Z Z (oS 2 Z ?_)
  refine gV (s:=53) Z (decide_eq_true aC) (oO 3 Z ?_)
  refine uA Z Z Z (oR 5 Z ?_)
  refine wP Z (decide_eq_true aC) (rO 5 Z ?_)
  refine tQ 0 2 Iy Z Z Z Z (oO 3 Z ?_)
  refine rF (s:=((k:Nat):Int)) Z Z aC aC aC (zA ?_)
  refine xY Iz Z Z Z aC (zA ?_)
  refine yR DJ Z Z (fun _ h=>EN h (j:=0) Z hk) (zA ?_)
  refine AH Z Z Z (tv _ hA hA2 aC (I4 hk) h4) (oK 5 [7,6] Z Z ?_)
  exact wY Tryz.results276 Z Z ⟨rfl,rfl,rfl⟩ nS (fun _ h=>by cases h)
 subst h15
 refine rR 12 Z (xA Z (decide_eq_false aC) ?_)
 refine rO 5 Z (wO Z Z Z ?_)
 refine oS 2 Z (wL (s:=25) Z (decide_eq_false aC) ?_)
 refine oK 7 [22,6,7,1] Z Z (rO 6 Z ?_)
 refine wI Z Z Z (oS 2 Z ?_)
 refine gV (s:=53) Z (decide_eq_true aC) (oO 3 Z ?_)
 refine uA Z Z Z (oR 5 Z ?_)
 refine wP Z (decide_eq_true aC) (rO 5 Z ?_)
 refine tQ 0 2 Iy Z Z Z Z (oO 3 Z ?_)
 refine rF (s:=((k:Nat):Int)) Z Z aC aC aC (zA ?_)
 refine xY Iz Z Z Z aC (zA ?_)
 refine yR DJ Z Z (fun _ h=>EN h (j:=0) Z hk) (zA ?_)
 refine AH Z Z Z (tv _ hA hA2 aC (I4 hk) h4) (oK 5 [7,6] Z Z ?_)
 exact wY Tryz.results276 Z Z ⟨rfl,rfl,rfl⟩ nS (fun _ h=>by cases h)
theorem c265{s:ByteArray}{neg:Bool}{l:List UInt8}(hN:NumTxt s neg l):di Tryz.prog 265 #[.string s] [] (.tuple #[.float .f64 0, .int .i64 0, .bool false]):=by
  obtain⟨hsz,hs19,hln,hl18⟩:=hN.sz
  have hs0:=hN.sign aC
  obtain⟨h1,h2⟩:=hN.c (j:=0) hln
  have hd:=hN.d0 hln
  cases neg with
  |false=>exact NQ s aC (by have h3:s[0]=l[0]:=h2;rw [h3];exact hd)
  |true=>exact NR s (by have:true.toNat=1:=rfl;omega) (hs0.2 rfl) (by have h3:s[1]=l[0]:=h2;rw [h3];exact hd)
theorem Pz(s:ByteArray)(l:List UInt8)(nn:Nat)(fb:Addr)(neg:Bool)(m A k:Nat)(hm:0<m)(hm2:m<2^52)(hk:k=1∨k=2∨k=6)(hA:0<A)(hA2:A<2^53)(h4:m*4=10^k*A)(hN:NumTxt s neg l)(hr:rf l=(m,nn+k,(nn:Int),true))(hnk:nn+k≤18):di Tryz.prog 253 #[.string s] [jq fb] (.tuple #[.float .f64 (dN neg A (-2)), .int .i64 ((s.size:Nat):Int), .nilIface]):=by
 refine Ct.of_run (args:=[.string s]) Tryz.func253 aF Z Tryz.ntmps253 Z (fun c=>?_)
 have hk6:1≤k∧k≤6:=by omega
 refine rO 15 Z (zL Z Z Z (c265 hN) cQ ?_)
 refine oK 20 [32,6,5,4,0] Z Z (rO 7 Z ?_)
 refine zL Z Z Z (Px s neg l hN m nn k hr hm hnk) cQ (oK 31 [13,3,12,11,10,9,8,4,0] Z Z ?_)
 refine rO 22 Z (tQ 0 0 lX Z Z Z Z ?_)
 refine oO 7 Z (zL Z Z Z (KZ neg) cQ ?_)
 refine zA (gk (m:=neg.toNat) (s:=63) (r:=neg.toNat*2^63) Z Z Z aC Z (by cases neg<;>decide) ?_)
 refine oK 3 [16,3,11,10,9,8,4,0] Z Z (rR 8 Z ?_)
 refine xA Z (decide_eq_false aC) (rO 7 Z ?_)
 refine wO Z Z Z (yO ?_)
 refine xA Z (decide_eq_false aC) (rO 7 Z ?_)
 refine wI Z Z Z (yO ?_)
 refine xA Z (decide_eq_false aC) (rK 9 [88,16,3,11,10,9,8,4,0] Z Z ?_)
 refine rO 10 Z (zL Z Z Z (Py fb neg m A k hm hm2 hk hA hA2 h4) (cO 0 Z) ?_)
 refine oK 11 [18,17,16,3,11,9,8,4,0] Z Z (rK 19 [4,3,2] Z Z ?_)
 exact pC Tryz.results253 Z Z Z ⟨rfl,rfl,rfl⟩ nS (fun _ h=>by cases h)
theorem P0(fb:Addr)(s:ByteArray)(n:Int)(hq:Bz s n):di Tryz.prog 236 #[.string s, .int .i64 64] [jq fb] (.tuple #[.float .f64 (qw n), .int .i64 ((s.size:Nat):Int), .nilIface]):=by
 refine Ct.of_run (args:=[.string s, .int .i64 64]) Tryz.func236 aF Z Tryz.ntmps236 Z (fun c=>?_)
 obtain⟨l,m,nn,k,hN,hr,hm,hm2,hk,hnk,h4,hA,hA2⟩:=hq.ok
 refine rO 24 Z (zL Z Z Z (Pz s l nn fb (decide (n<0)) m n.natAbs k hm hm2 hk hA hA2 h4 hN hr hnk) (cO 0 Z) ?_)
 refine oK 13 [6,5,4] Z Z ?_
 exact pC Tryz.results236 Z Z Z ⟨rfl,rfl,rfl⟩ nS (fun _ h=>by cases h)
theorem P1(fb:Addr)(s:ByteArray)(n:Int)(hq:Bz s n):di Tryz.prog 215 #[.string s, .int .i64 64] [jq fb] (.tuple #[.float .f64 (qw n), .nilIface]):=by
 refine Ct.of_run (args:=[.string s, .int .i64 64]) Tryz.func215 aF Z Tryz.ntmps215 Z (fun c=>?_)
 refine rO 14 Z (zL Z Z Z (P0 fb s n hq) (cO 0 Z) ?_)
 refine oK 15 [8,7,6,0] Z Z (rO 8 Z ?_)
 refine xF eL Z Z (zA ?_)
 refine uG Z Z Z (yO ?_)
 refine xA Z (decide_eq_false (fun h=>h Z)) (rK 12 [5,4] Z Z ?_)
 exact wY Tryz.results215 Z Z ⟨rfl,rfl,rfl⟩ nS (fun _ h=>by cases h)
theorem NS(fb:Addr)(s:ByteArray)(n:Int)(hq:Bz s n):di Tryz.prog 179 #[.string s, .int .i64 64] [jq fb] (.tuple #[.float .f64 (qw n), .nilIface]):=by
 refine Ct.of_run (args:=[.string s, .int .i64 64]) Tryz.func179 aF Z Tryz.ntmps179 Z (fun c=>?_)
 refine rO 14 Z (zL Z Z Z (P1 fb s n hq) (cO 0 Z) ?_)
 refine oO 17 Z (u6 KY Z Z ?_)
 refine oK 1 [15,7,6,0,1] Z Z (rR 11 Z ?_)
 exact wY Tryz.results179 Z Z ⟨rfl,rfl,rfl⟩ nS (fun _ h=>by cases h)
end Go.Jw

namespace Go.Jw
open Go Go.Lib
theorem kT(u:Nat):decDigits u≠[]:=fun h=>by
 have h1:=decDigits_length u
 have h2:=nDigits_pos u
 rw [h]at h1
 simp only [List.length_nil]at h1
 omega
theorem EO(u:Nat)(h0:u≠0): ∀ c r,decDigits u=c::r→c≠48:=by
  induction u using Nat.strongRecOn with
  |_ u ih=>
    intro c r h
    rw [decDigits]at h
    split at h
    · rename_i h9
      injection h with h1 h2
      subst h1
      intro he
      have:=congrArg UInt8.toNat he
      rw [fO h9]at this
      have h48:(48:UInt8).toNat=48:=rfl
      omega
    · rename_i h9
      cases hd:decDigits (u/10)with
      |nil=>exact absurd hd (kT _)
      |cons c' r'=>
        rw [hd,List.cons_append]at h
        injection h with h1 h2
        subst h1
        exact ih (u/10) aC aC _ _ hd
theorem EP:decDigits 0=[48]:=by rw [decDigits];rfl
theorem B0{s:ByteArray}{neg:Bool}{A k:Nat}{fr:List UInt8}(hs:rl s=(if neg then [45]else [])++(decDigits (A/4)++fr))(hA:A<1000000000)(hf:EL fr (A%4) k):NumTxt s neg (decDigits (A/4)++fr):=by
  obtain⟨hdec,_⟩:=u3 hA hf
  have hsz:s.size=(rl s).length:=rfl
  have hne:0<(decDigits (A/4)).length:=List.length_pos_iff.2 (kT _)
  have hd0: ∀ h:0<(decDigits (A/4)++fr).length,Dgt (decDigits (A/4)++fr)[0]:=fun h=>by
    rw [List.getElem_append_left hne]
    exact pA _ _ (List.getElem_mem _)
  have hat:Sf s neg.toNat (decDigits (A/4)++fr):=by
    refine⟨?_,?_⟩
    · rw [hs];cases neg<;>rfl
    · rw [hsz,hs];cases neg<;>simp
  have hn0:0<(decDigits (A/4)++fr).length:=by rw [List.length_append];omega
  refine⟨hat,fun h=>?_,hdec,hn0,hd0,fun h h48=>?_⟩
  · have hg:s[0]=(rl s)[0]'(by rw [←hsz];exact h):=rfl
    rw [hg]
    cases neg with
    |true=>simp [hs]
    |false=>
      have h2:(rl s)[0]'(by rw [←hsz];exact h)=(decDigits (A/4)++fr)[0]:=by simp [hs]
      rw [h2]
      have h3:=hd0 hn0
      constructor
      · intro he
        rw [he]at h3
        exact absurd h3.1 aE
      · intro he;cases he
  · rw [List.getElem_append_left hne]at h48
    have hz:A/4=0:=Classical.byContradiction fun hz=>by
      cases hd:decDigits (A/4)with
      |nil=>exact kT _ hd
      |cons c r=>exact EO _ hz _ _ hd (by simp only [hd]at h48;exact h48)
    have hl1:(decDigits (A/4)).length=1:=by rw [hz,EP];rfl
    rw [List.getElem_append_right aC]
    have hh:=hf.hd
    cases fr with
    |nil=>cases hh
    |cons c r=>
      simp only [List.head?_cons,Option.some.injEq]at hh
      subst hh
      simp [hl1]
theorem va{s:ByteArray}{n:Int}{k:Nat}{fr:List UInt8}(h1: -1000000000<n)(h2:n<1000000000)(hs:rl s=(if decide (n<0)then [45]else [])++(decDigits (n.natAbs/4)++fr))(hf:EL fr (n.natAbs%4) k)(hk:k=1∨k=2∨k=6):Bz s n:=by
 have hA:n.natAbs<1000000000:=by omega
 obtain⟨_,m,nn,hr,h4,hm,hm2,hn9⟩:=u3 hA hf
 have:=hf.q3
 exact⟨_,m,nn,k,B0 hs hA hf,hr,hm,hm2,hk,aC,h4,aC,aC⟩
theorem r3(m:Nat):rl (dm (m:Int))=decDigits m:=by
 show Lib.itoa (m:Int)=_
 unfold Lib.itoa
 rw [if_neg aC,Int.toNat_natCast]
theorem r4(b:Bool):rl (if b=true then(⟨#[45]⟩:ByteArray)else⟨#[]⟩)=if b then [45]else []:=by cases b<;>rfl
theorem vb{n:Int}(h:n.tmod 4≠0):0<n.natAbs%4∧n.natAbs%4<4:=by
 refine⟨?_,Nat.mod_lt _ aC⟩
 have h1:(n.tmod 4).natAbs=n.natAbs%4:=Int.natAbs_tmod n 4
 omega
theorem Ka{n:Int}(h0:n.tmod 4≠0)(h1: -1000000000<n)(h2:n<1000000000):Bz (quartV n) n:=by
 obtain⟨a1,a2⟩:=vb h0
 obtain⟨k,hf,hk⟩:=Bx a1 a2
 refine va h1 h2 ?_ hf aC
 unfold quartV mS
 rw [kN,kN,r3,r4,List.append_assoc]
 rfl
theorem Kb{n:Int}(h0:n.tmod 4≠0)(h1: -1000000000<n)(h2:n<1000000000):Bz (dn n) n:=by
 obtain⟨a1,a2⟩:=vb h0
 refine va h1 h2 ?_ (ya a1 a2) aC
 unfold dn
 rw [kN,kN,r3,r4,List.append_assoc]
 rfl
end Go.Jw

namespace Go.Jw
open Go Go.RowKit Go.Proofs
set_option maxRecDepth 8000
theorem Kc:zn Tryz.prog 318:=⟨_,Tryz.func318,by kernel_rfl,rfl⟩
theorem Ke:zn Tryz.prog 206:=⟨_,Tryz.func206,by kernel_rfl,rfl⟩
theorem Kf:zn Tryz.prog 220:=⟨_,Tryz.func220,by kernel_rfl,rfl⟩
theorem NT(x y:Nat)(hx:x<18446744073709551616)(hy:y<18446744073709551616):di Tryz.prog 318 #[.int .u64 (x:Int), .int .u64 (y:Int)] [] (.tuple #[.int .u64 ((x*y/18446744073709551616:Nat):Int), .int .u64 ((x*y%18446744073709551616:Nat):Int)]):=
 gB Kc fun w ok h=>(Tryz.bits_Mul64 x y hx hy w).mono (by
  rintro e w' ⟨rfl,rfl⟩
  exact⟨rfl,Chg.refl _ _⟩)
theorem P2(u:Nat)(h1:1≤u)(h2:u<18446744073709551616):di Tryz.prog 220 #[.int .u64 (u:Int)] [.tab] (.int .i64 ((Lib.nDigits u:Nat):Int)):=
 gB Kf fun w ok h=>(Tryz.internal_strconv_numDigits u h1 h2 w (DX (h _ List.mem_cons_self))).mono (by
  rintro e w' ⟨rfl,rfl⟩
  exact⟨rfl,Chg.refl _ _⟩)
theorem EQ{F:List Nat}{c:Ctx F}{M:List HA}{D:List DA}{w:World}(h:FitsW c M D w){j i:Nat}{fb:Addr}(hj:D[j]? =some (jq fb))(hi:i<20):w.cell? ((⟨0,0,none⟩:Addr).add (i*1))=some (.int .u64 ((10^i:Nat):Int)):=by
  have hd: ∀ q∈G0 fb,_∧w.cell? q.1=some q.2:=h.dt hj
  have hm:((⟨0,i,none⟩:Addr),Value.int .u64 ((10^i:Nat):Int))∈G0 fb:=by
    unfold G0
    exact List.mem_append_right _ (List.mem_map.2 ⟨i,List.mem_range.2 hi,rfl⟩)
  have ha:(⟨0,0,none⟩:Addr).add (i*1)=⟨0,i,none⟩:=by
    unfold Addr.add
    by_cases h0:i*1=0
    · rw [if_pos h0];have:i=0:=by omega
      subst this;rfl
    · rw [if_neg h0];simp
  rw [ha]
  exact(hd _ hm).2
abbrev P3(pb hi s:Nat):HA:= .blk pb [.int .u64 (hi:Int), .int .u64 ((0:Nat):Int), .int .i64 (s:Int)] 342
theorem NU{s:Nat}(h:s<64):s &&& 63=s:=by
 have:=Nat.and_two_pow_sub_one_eq_mod s 6
 rw [show 2^6 - 1=63 from rfl]at this
 rw [this];exact Nat.mod_eq_of_lt h
theorem ER(q:Nat):(10*q) &&& 1=0:=by rw [Nat.and_one_is_mod];omega

theorem G3(x:Int)(h0: -1000≤x)(h1:x≤1000):di Tryz.prog 242 #[.int .i64 x] [] (.int .i64 ((x*78913).fdiv (2^18))):=by
 refine Ct.of_run (args:=[.int .i64 x]) Tryz.func242 aF Z Tryz.ntmps242 Z (fun c=>?_)
 refine rO 10 Z (qc Z Z Z ?_)
 rw [vU aC aC]
 refine zA (AL (s:=18) Z Z Z aC Z ?_)
 refine oR 3 Z ?_
 exact zD Tryz.results242 Z ⟨rfl,rfl,rfl⟩ nS (fun _ h=>by cases h)
theorem NV(x:Int)(h0: -1000≤x)(h1:x≤1000):di Tryz.prog 295 #[.int .i64 x] [] (.int .i64 ((x*108853).fdiv (2^15))):=by
 refine Ct.of_run (args:=[.int .i64 x]) Tryz.func295 aF Z Tryz.ntmps295 Z (fun c=>?_)
 refine rO 10 Z (qc Z Z Z ?_)
 rw [vU aC aC]
 refine zA (AL (s:=15) Z Z Z aC Z ?_)
 refine oR 3 Z ?_
 exact zD Tryz.results295 Z ⟨rfl,rfl,rfl⟩ nS (fun _ h=>by cases h)
theorem NW(x:Nat)(h0:1≤x)(h1:4*x<18446744073709551616):di Tryz.prog 298 #[.int .u64 (x:Int)] [] (.int .u64 ((4*x - 2:Nat):Int)):=by
 refine Ct.of_run (args:=[.int .u64 (x:Int)]) Tryz.func298 aF Z Tryz.ntmps298 Z (fun c=>?_)
 refine rO 10 Z (gk (m:=x) (s:=2) (r:=4*x) Z Z Z aC aC h1 ?_)
 refine zA (AJ (m:=4*x) (m':=2) (r:=4*x - 2) Z Z Z aC Z aC ?_)
 refine oR 3 Z ?_
 exact zD Tryz.results298 Z ⟨rfl,rfl,rfl⟩ nS (fun _ h=>by cases h)
theorem Kg(q:Nat)(h:4*q+8<18446744073709551616):di Tryz.prog 300 #[.int .u64 ((4*q:Nat):Int)] [] (.int .u64 (q:Int)):=by
 refine Ct.of_run (args:=[.int .u64 ((4*q:Nat):Int)]) Tryz.func300 aF Z Tryz.ntmps300 Z (fun c=>?_)
 have hm:q%2<2:=Nat.mod_lt _ aC
 refine rO 10 Z (lu (m:=4*q) (m':=1) (r:=4*q+1) Z Z Z Z aC ?_)
 refine oO 3 Z (lr (m:=4*q) (s:=2) (r:=q) Z Z Z aC aC ?_)
 refine zA (AI (m:=q) (m':=1) (r:=q%2) Z Z Z aC aC (Nat.and_one_is_mod q) ?_)
 refine zA (lu (m:=4*q+1) (m':=q%2) (r:=4*q+1+q%2) Z Z Z Z aC ?_)
 refine zA (lr (m:=4*q+1+q%2) (s:=2) (r:=q) Z Z Z aC aC ?_)
 refine oR 3 Z ?_
 exact zD Tryz.results300 Z ⟨rfl,rfl,rfl⟩ nS (fun _ h=>by cases h)
theorem P4(b:Bool):di Tryz.prog 319 #[.bool b] [] (.int .u64 ((b.toNat:Nat):Int)):=by
 refine Ct.of_run (args:=[.bool b]) Tryz.func319 aF Z Tryz.ntmps319 Z (fun c=>?_)
 refine rR 11 Z (yC Z (fun h3=>?_) (fun h3=>?_))
 ·subst h3
  refine rR 5 Z ?_
  exact zD Tryz.results319 Z ⟨rfl,rfl,rfl⟩ nS (fun _ h=>by cases h)
 subst h3
 refine rR 6 Z ?_
 exact zD Tryz.results319 Z ⟨rfl,rfl,rfl⟩ nS (fun _ h=>by cases h)
set_option maxHeartbeats 1000000 in
theorem G4(q:Nat)(h:10*q<18446744073709551616):di Tryz.prog 309 #[.int .u64 ((10*q:Nat):Int), .int .u64 ((10:Nat):Int)] [] (.int .u64 (q:Int)):=by
 refine Ct.of_run (args:=[.int .u64 ((10*q:Nat):Int), .int .u64 ((10:Nat):Int)]) Tryz.func309 aF Z Tryz.ntmps309 Z (fun c=>?_)
 refine rR 13 Z (yW yM ?_)
 refine zO (tP 0 Z cF (zP Z) ?_)
 refine tP 1 Z cF (zP Z) (tP 3 Z cF (zP Z) ?_)
 refine tP 6 Z cF (zP Z) (tP 7 Z cF (zP Z) ?_)
 refine yF (tM 2 Z cF (rA (EI (m:=10*q) (m':=10) (r:=q) aC aC aC) Z Z) ?_)
 refine tM 4 Z cF (rA (EK (m:=10*q) (m':=1) (r:=0) h aC (ER q)) Z Z) (tM 5 Z cF (rA (ru (m:=q) (m':=0) (r:=q) aC aC (Nat.or_zero q)) Z Z) ?_)
 refine tM 8 Z cF (rA (EJ (m:=10*q) (m':=10) (r:=0) aC aC) Z Z) (tM 9 Z cF (rA (v:= .bool false) (fun w=>rfl) Z Z) ?_)
 refine zS 10 aD ?_
 refine zT (I2:=[[5,4,2],[3,1,0],[]]) Z cF aD (fun Kd hKd=>?_)
 refine zL Z Z Z (P4 false) cQ (hKd _ _ _ (hC (hC (zE (zU)))) ?_)
 refine yF (tM 11 Z cF (rA (ru (m:=q) (m':=0) (r:=q) aC aC (Nat.or_zero q)) Z Z) ?_)
 refine zO (tP 12 Z cF (yP Z) ?_)
 refine yJ aD (rK 0 [4] Z Z ?_)
 exact zD Tryz.results309 Z ⟨rfl,rfl,rfl⟩ nS (fun _ h=>by cases h)
theorem Kh(fb:Addr)(pb s:Nat)(e lp:Int)(cs:List Value)(hs:(s:Int)= -(e+lp+3))(he: -1000≤e)(he2:e≤1000)(hl: -1000≤lp)(hl2:lp≤1000)(v0 v1 v2:Value):Ct Tryz.prog 296 #[.pointer (some ⟨pb,0,none⟩), .int .i64 e, .int .i64 6, .int .i64 lp] [.blk pb [v0,v1,v2] 342] [jq fb] (fun u M' D'=>u= .tuple #[]∧M'=[P3 pb 17592186044416000000 s]∧D'=[]):=by
 refine Ct.of_run (args:=[.pointer (some ⟨pb,0,none⟩), .int .i64 e, .int .i64 6, .int .i64 lp]) Tryz.func296 aF Z Tryz.ntmps296 Z (fun c=>?_)
 refine rO 7 Z (xQ (s:=((354:Nat):Int)) Z Z Z aC aC aC ?_)
 refine zA (rY (i:=354) Tryz.underlying360 AM Z Z Z aC ?_)
 refine zA (zC AN Z Z ?_)
 refine zA (tQ 0 6 lA Z Z Z Z ?_)
 refine oO 3 Z (zC rv Z Z ?_)
 refine zA (zG 0 (M':=[HA.blk _ [_,_,_] _]) Z Z Z Z ov Z Z Z ?_)
 refine oO 8 Z (xQ (s:=((354:Nat):Int)) Z Z Z aC aC aC ?_)
 refine zA (rY (i:=354) Tryz.underlying360 AM Z Z Z aC ?_)
 refine zA (zC AO Z Z ?_)
 refine zA (tQ 0 7 lA Z Z Z Z ?_)
 refine oO 3 Z (zC rx Z Z ?_)
 refine zA (zG 0 (M':=[HA.blk _ [_,_,_] _]) Z Z Z Z ov Z Z Z ?_)
 refine oK 1 [0,1,3] Z Z (rO 8 Z ?_)
 refine xN (s:=e+lp) Z Z Z Z aC aC (zA ?_)
 refine xN (s:=e+lp+3) Z Z Z Z aC aC (zA ?_)
 refine rF (s:=(s:Int)) Z Z hs.symm aC aC (oO 3 Z ?_)
 refine zC ry Z Z (zA ?_)
 refine zG 0 (M':=[HA.blk _ [_,_,_] _]) Z Z Z Z s6 Z Z Z (oK 1 [] Z Z ?_)
 exact gH Tryz.results296 ⟨rfl,rfl,rfl⟩ (List.Sublist.refl _) (fun _ h=>by cases h)
theorem Ki(fb:Addr)(pb s:Nat)(e lp:Int)(cs:List Value)(hs:(s:Int)= -(e+lp+3))(he: -1000≤e)(he2:e≤1000)(hl: -1000≤lp)(hl2:lp≤1000)(v0 v1 v2:Value):Ct Tryz.prog 296 #[.pointer (some ⟨pb,0,none⟩), .int .i64 e, .int .i64 7, .int .i64 lp] [.blk pb [v0,v1,v2] 342] [jq fb] (fun u M' D'=>u= .tuple #[]∧M'=[P3 pb 10995116277760000000 s]∧D'=[]):=by
 refine Ct.of_run (args:=[.pointer (some ⟨pb,0,none⟩), .int .i64 e, .int .i64 7, .int .i64 lp]) Tryz.func296 aF Z Tryz.ntmps296 Z (fun c=>?_)
 refine rO 7 Z (xQ (s:=((355:Nat):Int)) Z Z Z aC aC aC ?_)
 refine zA (rY (i:=355) Tryz.underlying360 AM Z Z Z aC ?_)
 refine zA (zC AN Z Z ?_)
 refine zA (tQ 0 8 lA Z Z Z Z ?_)
 refine oO 3 Z (zC rv Z Z ?_)
 refine zA (zG 0 (M':=[HA.blk _ [_,_,_] _]) Z Z Z Z ov Z Z Z ?_)
 refine oO 8 Z (xQ (s:=((355:Nat):Int)) Z Z Z aC aC aC ?_)
 refine zA (rY (i:=355) Tryz.underlying360 AM Z Z Z aC ?_)
 refine zA (zC AO Z Z ?_)
 refine zA (tQ 0 9 lA Z Z Z Z ?_)
 refine oO 3 Z (zC rx Z Z ?_)
 refine zA (zG 0 (M':=[HA.blk _ [_,_,_] _]) Z Z Z Z ov Z Z Z ?_)
 refine oK 1 [0,1,3] Z Z (rO 8 Z ?_)
 refine xN (s:=e+lp) Z Z Z Z aC aC (zA ?_)
 refine xN (s:=e+lp+3) Z Z Z Z aC aC (zA ?_)
 refine rF (s:=(s:Int)) Z Z hs.symm aC aC (oO 3 Z ?_)
 refine zC ry Z Z (zA ?_)
 refine zG 0 (M':=[HA.blk _ [_,_,_] _]) Z Z Z Z s6 Z Z Z (oK 1 [] Z Z ?_)
 exact gH Tryz.results296 ⟨rfl,rfl,rfl⟩ (List.Sublist.refl _) (fun _ h=>by cases h)
set_option maxHeartbeats 1000000 in
theorem NX(pb x hi s q:Nat)(hx:x<18446744073709551616)(hh:hi<18446744073709551616)(hs:s<64)(hq:q*2^s<18446744073709551616)(h:x*hi=q*2^s*18446744073709551616):Ct Tryz.prog 297 #[.int .u64 (x:Int), .pointer (some ⟨pb,0,none⟩)] [P3 pb hi s] [] (fun u M' D'=>u= .int .u64 (q:Int)∧M'=[]∧D'=[]):=by
 refine Ct.of_run (args:=[.int .u64 (x:Int), .pointer (some ⟨pb,0,none⟩)]) Tryz.func297 aF Z Tryz.ntmps297 Z (fun c=>?_)
 have hp:0<2^s:=Nat.two_pow_pos s
 have hql:q≤q*2^s:=Nat.le_mul_of_pos_right _ hp
 have e1:x*hi/18446744073709551616=q*2^s:=by rw [h];omega
 have e2:x*hi%18446744073709551616=0:=by rw [h];omega
 have e3:q*2^s/2^s=q:=Nat.mul_div_cancel _ hp
 refine rO 14 Z (zC rv Z Z ?_)
 refine zA (zF 0 lA Z Z Z Z ?_)
 refine zA (zL Z Z Z (NT x hi hx hh) cQ ?_)
 rw [e1,e2]
 refine oK 11 [6,5,0,1] Z Z (rO 7 Z ?_)
 refine zC ry Z Z (zA ?_)
 refine zF 0 lL Z Z Z Z (zA ?_)
 refine m6 (ux (m:=s) (m':=63) (r:=s) aC aC (NU hs)) Z Z Z (oO 11 Z ?_)
 refine m6 (mz (m:=q*2^s) (s:=s) (r:=q) aC e3) Z Z Z (oO 3 Z ?_)
 refine gk (m:=q) (s:=s) (r:=q*2^s) Z Z Z aC Z hq (oO 3 Z ?_)
 refine uG Z Z Z (oK 1 [30,7,6,5,0,1] Z Z ?_)
 refine xA Z (decide_eq_false (fun h=>h Z)) (rO 10 Z ?_)
 refine zC rx Z Z (zA ?_)
 refine zF 0 lA Z Z Z Z (zA ?_)
 refine zL Z Z Z (NT x 0 hx aC) cQ ?_
 rw [Nat.mul_zero]
 refine oK 11 [8,7,6,5] Z Z (rO 9 Z ?_)
 refine wI Z Z Z (zA ?_)
 refine zL Z Z Z (KZ false) cQ (zA ?_)
 refine m6 (uz (m:=q*2^s) (m':=0) (r:=q*2^s) aC Z hq) Z Z Z (oR 4 Z ?_)
 refine yW yM (zO ?_)
 refine tP 0 Z cF (zP Z) (tP 1 Z cF (zP Z) ?_)
 refine tP 3 Z cF (zP Z) (tP 4 Z cF (zP Z) ?_)
 refine yF (tM 2 Z cF (rA (mz (m:=q*2^s) (s:=s) (r:=q) aC e3) Z Z) ?_)
 refine tM 5 Z cF (rA (uz (m:=0) (m':=0) (r:=0) aC (Eq.refl _) aC) Z Z) (tM 6 Z cF (rA (v:= .bool false) (fun w=>rfl) Z Z) ?_)
 refine zS 7 aD ?_
 refine zT (I2:=[[2],[1,0],[]]) Z cF aD (fun Kd hKd=>?_)
 refine zL Z Z Z (KZ false) cQ (hKd _ _ _ (hC (hC (zE (zU)))) ?_)
 refine yF (tM 8 Z cF (rA (ru (m:=q) (m':=0) (r:=q) aC aC (Nat.or_zero q)) Z Z) ?_)
 refine zO (tP 9 Z cF (yP Z) ?_)
 refine yJ aD (rK 0 [4] Z Z ?_)
 exact zD Tryz.results297 Z ⟨rfl,rfl,rfl⟩ nS (fun _ h=>by cases h)
end Go.Jw

namespace Go.Jw
open Go Go.RowKit Go.Proofs
set_option maxRecDepth 8000
open Go.Lib Go.Sort
abbrev fP(l:List UInt8):List Value:=l.map fun b=> .int .u8 (b.toNat:Int)
abbrev z8(n:Nat):List Value:=List.replicate n (.int .u8 0)
theorem Kj:zn Tryz.prog 221:=⟨_,Tryz.func221,by kernel_rfl,rfl⟩
theorem P5(b T nd D:Nat)(hnd:nd=nDigits D)(hD:D<18446744073709551616)(h24:nd≤24):
    Ct Tryz.prog 221 #[.slice (some ⟨b,0,none⟩) nd 24, .int .u64 (D:Int)] [.blk b (z8 24) T] [] (fun u M' D'=>u= .tuple #[]∧M'=[.blk b (fP (decDigits D)++z8 (24 - nd)) T]∧D'=[]):=by
  refine⟨Kj,fun w ok hok hM hn hDD=>?_⟩
  have hb:w.heap[b]? =some (.cells (z8 24).toArray T (0,0)):=hM _ List.mem_cons_self
  have hsz:(Array.replicate nd (0:UInt8)).size=nd:=by simp
  have hH:Holds (fun(x:UInt8)=>Value.int .u8 (x.toNat:Int)) w b 0 (Array.replicate nd (0:UInt8)):=fun j hj=>by
    have hj':j<nd:=by simpa using hj
    constructor
    · unfold World.cell?
      simp only [hb,Nat.zero_add]
      rw [getElem!_pos _ j hj]
      simp [show j<24 by omega]
    · unfold World.frozen?
      simp [hb]
  have hc:=Tryz.internal_strconv_formatBase10 b 0 24 D (Array.replicate nd 0) w hH (by rw [hsz,hnd];exact lt_pow_nDigits D) hD (by rw [hsz];omega)
  rw [hsz]at hc
  refine hc.mono ?_
  rintro e w' ⟨rfl,n,v',dk,rfl,hf⟩
  have hheap:((putRow (fun(x:UInt8)=>Value.int .u8 (x.toNat:Int)) w b 0 dk).drewN n).heap=w.heap.modify b (onCells (putCells (fun(x:UInt8)=>Value.int .u8 (x.toNat:Int)) 0 dk)):=rfl
  have hcells:putCells (fun(x:UInt8)=>Value.int .u8 (x.toNat:Int)) 0 dk (z8 24).toArray=(fP (decDigits D)++z8 (24 - nd)).toArray:=by
    have hdl:(decDigits D).length=nd:=by rw [decDigits_length,hnd]
    apply Array.ext_getElem?
    intro k
    unfold putCells
    rw [Array.getElem?_mapIdx,List.getElem?_toArray,List.getElem?_toArray]
    by_cases hk:k<nd
    · rw [List.getElem?_append_left (by simpa [hdl]using hk),List.getElem?_map,List.getElem?_eq_getElem (by omega:k<(decDigits D).length),row_is_numeral (by rw [←hnd];exact hf) k aC]
      simp [z8,List.getElem?_replicate,show k<24 by omega,hf.size,hk]
    · rw [List.getElem?_append_right (by simp [hdl];omega)]
      simp only [List.length_map,hdl,z8,List.getElem?_replicate]
      by_cases hk2:k<24
      · simp [hk2,hf.size,hk,show k - nd<24 - nd by omega]
      · simp [hk2,show ¬ k - nd<24 - nd by omega]
  refine⟨_,[.blk b (fP (decDigits D)++z8 (24 - nd)) T],[],rfl,⟨rfl,rfl,rfl⟩,⟨rfl,rfl,rfl,?_,fun k hk hF=>?_⟩,?_,by simp [cP,HA.foot],by simp [cP,HA.foot],by simp⟩
  · rw [hheap];simp
  · rw [hheap,Array.getElem?_modify,if_neg (fun h=>hF (by simp [cP,HA.foot,h]))]
  · intro h hh
    rcases List.mem_singleton.1 hh with rfl
    show _=_
    rw [hheap,Array.getElem?_modify,if_pos rfl,hb]
    simp only [Option.map_some,onCells,hcells]
theorem r5{F:List Nat}{c:Ctx F}{M:List HA}{D:List DA}{w:World}(h:FitsW c M D w){j b i T:Nat}{cs:List Value}{v:Value}(hj:M[j]? =some (.blk b cs T))(hv:cs[i]? =some v):w.cell? ((⟨b,0,none⟩:Addr).add (i*1))=some v:=by
 have hb:w.heap[b]? =some (.cells cs.toArray T (0,0)):=h.own _ (List.mem_of_getElem? hj)
 rw [Nat.mul_one,add_plain,Nat.zero_add]
 rw [vL hb]
 exact hv
def dgOf(L:Nat):Nat:=if 2≤L then 7+((L - 1)*78913)/262144 else 7
def pOf(L:Nat):Nat:=if 2≤L then dgOf L - 1 - ((L - 2)*78913)/262144 else 7
theorem Kk: ∀ L:Fin 30,7≤dgOf L.val∧dgOf L.val≤15∧(pOf L.val=6∨pOf L.val=7)∧((pOf L.val:Nat):Int)=(dgOf L.val:Int) - 1 - (((L.val:Int) - 2)*78913).fdiv (2^18)∧2^(L.val+1)*1000000≤4*10^dgOf L.val∧
  (2≤L.val→(dgOf L.val:Int)=1+(((L.val:Int) - 1)*78913).fdiv (2^18)+6)∧(¬ 2≤L.val→(7:Int)=1+6 - ((2 - (L.val:Int))*78913).fdiv (2^18)):=by decide+kernel
theorem kU{a b c d:Nat}(h:a+b=c+d):2^a*2^b=2^c*2^d:=by rw [←Nat.pow_add,←Nat.pow_add,h]
structure FmtN(N L:Nat):Prop where
 n0:0<N
 n9:N<1000000000
 lo:2^L≤N
 hi:N<2^(L+1)
 l29:L<30
theorem NY{N:Nat}(h0:0<N)(h9:N<1000000000):FmtN N N.log2:=by
 have h1:=Nat.log2_self_le (Nat.ne_of_gt h0)
 refine⟨h0,h9,h1,Nat.lt_log2_self,?_⟩
 exact(Nat.log2_lt (Nat.ne_of_gt h0)).2 aC
theorem FmtN.tab{N L:Nat}(h:FmtN N L):7≤dgOf L∧dgOf L≤15∧(pOf L=6∨pOf L=7)∧((pOf L:Nat):Int)=(dgOf L:Int) - 1 - (((L:Int) - 2)*78913).fdiv (2^18)∧2^(L+1)*1000000≤4*10^dgOf L∧
  (2≤L→(dgOf L:Int)=1+(((L:Int) - 1)*78913).fdiv (2^18)+6)∧(¬ 2≤L→(7:Int)=1+6 - ((2 - (L:Int))*78913).fdiv (2^18)):=Kk ⟨L,h.l29⟩
theorem FmtN.mul{N L:Nat}(h:FmtN N L)(P k s:Nat)(hs:s+L+1=k)(hk:k≤44):N*2^(63 - L)*(P*2^k)=N*P*2^s*18446744073709551616:=by
  have:=h.l29
  have e:=kU (a:=63 - L) (b:=k) (c:=s) (d:=64) aC
  calc N*2^(63 - L)*(P*2^k)=N*P*(2^(63 - L)*2^k):=by ac_rfl
    _=N*P*(2^s*2^64):=by rw [e]
    _=N*P*2^s*18446744073709551616:=by rw [←Nat.mul_assoc]
theorem FmtN.up{N L:Nat}(h:FmtN N L):N*2^(63 - L)<18446744073709551616:=by
 have:=h.l29
 have e:=kU (a:=L+1) (b:=63 - L) (c:=64) (d:=0) aC
 have:=Nat.mul_lt_mul_of_pos_right h.hi (Nat.two_pow_pos (63 - L))
 omega
theorem FmtN.fits{N L:Nat}(h:FmtN N L)(s k:Nat)(hs:s+L+1=k):N*2^s<2^k:=by
 have e:=kU (a:=L+1) (b:=s) (c:=k) (d:=0) aC
 have:=Nat.mul_lt_mul_of_pos_right h.hi (Nat.two_pow_pos s)
 omega
theorem FmtN.small{N L:Nat}(h:FmtN N L):N*1000000+2<4*10^dgOf L:=by
 have h1:=h.tab.2.2.2.2.1
 have h2:=h.hi
 have h3:(N+1)*1000000≤2^(L+1)*1000000:=Nat.mul_le_mul_right _ h2
 have h4:2^(L+1)*1000000≤4*10^dgOf L:=h1
 omega
theorem I5{d:Nat}(h:d≤15):10^d≤1000000000000000:=Nat.le_trans (Nat.pow_le_pow_right aC h) aE
def uOf(N a:Nat):Nat:=if a=0 then 4*(N*250000)else 10*(4*(N*250000))

set_option maxHeartbeats 1000000 in
theorem Kl(fb:Addr)(N L:Nat)(hF:FmtN N L)(hp:pOf L=6):di Tryz.prog 286 #[.int .u64 ((N*2^(63 - L):Nat):Int), .int .i64 ((L:Int) - 65), .int .i64 ((dgOf L:Nat):Int), .int .i64 6, .int .u8 102] [jq fb] (.tuple #[.int .u64 ((N*250000:Nat):Int), .int .i64 (-6)]):=by
 refine Ct.of_run (args:=[.int .u64 ((N*2^(63 - L):Nat):Int), .int .i64 ((L:Int) - 65), .int .i64 ((dgOf L:Nat):Int), .int .i64 6, .int .u8 102]) Tryz.func286 aF Z Tryz.ntmps286 Z (fun c=>?_)
 obtain⟨d7,d15,_,hpv,hbd,_,_⟩:=hF.tab
 rw [hp]at hpv
 have hl:=hF.l29
 have hn9:=hF.n9
 have hsm:=hF.small
 have hp15:=I5 d15
 have hlp:((6:Int)*108853).fdiv (2^15)=19:=by decide
 have hfit:=hF.fits (43 - L) 44 aC
 have hq1:(4*(N*250000))*2^(43 - L)<18446744073709551616:=by
  have e:(4*(N*250000))*2^(43 - L)=1000000*(N*2^(43 - L)):=by rw [show(4*(N*250000))=1000000*N by omega,Nat.mul_assoc]
  omega
 have hq2:N*2^(63 - L)*17592186044416000000=(4*(N*250000))*2^(43 - L)*18446744073709551616:=by
  have e:=hF.mul 1000000 44 (43 - L) aC aC
  rw [show(4*(N*250000))=N*1000000 by omega]
  exact e
 refine rO 12 Z (xQ (s:=((dgOf L:Nat):Int) - 1) Z Z Z Z aC aC ?_)
 refine oO 3 Z (xN (s:=(L:Int) - 2) Z Z Z aC aC aC ?_)
 refine zA (zL Z Z Z (G3 ((L:Int) - 2) aC aC) cQ ?_)
 refine zA (xQ (s:=6) Z Z Z aC aC aC ?_)
 refine oO 6 Z (yA I3 Z (fun b12=>?_))
 change cG _ _ _ _ _ _ _ _ (HA.blk _ [_,_,_] _::_) _
 refine oO 10 Z (zL Z Z Z (NV 6 aC aC) cQ ?_)
 refine zA ?_
 refine yG 0 Z Z Z (Kh fb b12 (43 - L) ((L:Int) - 65) (((6:Int)*108853).fdiv (2^15)) [] bl aC aC bl bl _ _ _) Z (cO 0 Z) (fun u24 M24 D24 hv24=>?_)
 obtain⟨rfl,rfl,rfl⟩:=hv24
 refine oK 1 [12,11,0,2,3,4] Z Z (rO 5 Z ?_)
 refine yG 0 Z Z Z (NX b12 (N*2^(63 - L)) 17592186044416000000 (43 - L) (4*(N*250000)) hF.up aC aC hq1 hq2) Z cQ (fun u26 M26 D26 hv26=>?_)
 obtain⟨rfl,rfl,rfl⟩:=hv26
 refine oO 11 Z (rY (i:=dgOf L) Tryz.underlying270 ov Z Z Z aC ?_)
 refine zA (yR lA Z Z (fun _ h=>EQ h (j:=0) Z aC) ?_)
 refine zA (zL Z Z Z (NW (10^dgOf L) (Nat.pow_pos aC) aC) cQ ?_)
 refine zA (uA Z Z Z ?_)
 refine oK 1 [32,13,11,3,4] Z Z (xA Z (decide_eq_false aC) ?_)
 refine rK 11 [13,11,3] Z Z ?_
 refine xX 2 (fun(a:Nat)=>a≤1) (fun(a:Nat)=>[(13, .int .u64 ((uOf N a:Nat):Int)),(11, .int .i64 ((6+a:Nat):Int))]) (fun(a:Nat)=>a) 0 (bi) (eC Z (eC Z (eN _))) ?_ (eC Z (eN _))
 intro a hI K hK
 change Run _ _ _ _ _ [(13,_),(11,_),(3,_)] _ _
 replace hI:a≤1:=hI
 refine rO 8 Z (wO Z Z Z ?_)
 refine yO (zI Z (fun h41=>?_) (fun h41=>?_))
 ·obtain rfl:a=1:=by omega
  refine rO 7 Z (zL Z Z Z (G4 (4*(N*250000)) aC) cQ ?_)
  refine oO 7 Z (xQ (s:=6) Z Z Z Z aC aC ?_)
  refine oR 4 Z ?_
  exact kQ (hK 0 (bi) (by show 0<1;omega))
 obtain rfl:a=0:=by omega
 refine rO 6 Z (zL Z Z Z (Kg (N*250000) aC) cQ ?_)
 refine oO 3 Z (rF (s:= -6) Z Z Z aC aC ?_)
 refine oK 5 [11,10] Z Z ?_
 exact wY Tryz.results286 Z Z ⟨rfl,rfl,rfl⟩ nS (fun _ h=>by cases h)
set_option maxHeartbeats 1000000 in
theorem Km(fb:Addr)(N L:Nat)(hF:FmtN N L)(hp:pOf L=7):di Tryz.prog 286 #[.int .u64 ((N*2^(63 - L):Nat):Int), .int .i64 ((L:Int) - 65), .int .i64 ((dgOf L:Nat):Int), .int .i64 6, .int .u8 102] [jq fb] (.tuple #[.int .u64 ((N*250000:Nat):Int), .int .i64 (-6)]):=by
 refine Ct.of_run (args:=[.int .u64 ((N*2^(63 - L):Nat):Int), .int .i64 ((L:Int) - 65), .int .i64 ((dgOf L:Nat):Int), .int .i64 6, .int .u8 102]) Tryz.func286 aF Z Tryz.ntmps286 Z (fun c=>?_)
 obtain⟨d7,d15,_,hpv,hbd,_,_⟩:=hF.tab
 rw [hp]at hpv
 have hl:=hF.l29
 have hn9:=hF.n9
 have hsm:=hF.small
 have hp15:=I5 d15
 have hlp:((7:Int)*108853).fdiv (2^15)=23:=by decide
 have hfit:=hF.fits (39 - L) 40 aC
 have hq1:(10*(4*(N*250000)))*2^(39 - L)<18446744073709551616:=by
  have e:(10*(4*(N*250000)))*2^(39 - L)=10000000*(N*2^(39 - L)):=by rw [show(10*(4*(N*250000)))=10000000*N by omega,Nat.mul_assoc]
  omega
 have hq2:N*2^(63 - L)*10995116277760000000=(10*(4*(N*250000)))*2^(39 - L)*18446744073709551616:=by
  have e:=hF.mul 10000000 40 (39 - L) aC aC
  rw [show(10*(4*(N*250000)))=N*10000000 by omega]
  exact e
 refine rO 12 Z (xQ (s:=((dgOf L:Nat):Int) - 1) Z Z Z Z aC aC ?_)
 refine oO 3 Z (xN (s:=(L:Int) - 2) Z Z Z aC aC aC ?_)
 refine zA (zL Z Z Z (G3 ((L:Int) - 2) aC aC) cQ ?_)
 refine zA (xQ (s:=7) Z Z Z aC aC aC ?_)
 refine oO 6 Z (yA I3 Z (fun b12=>?_))
 change cG _ _ _ _ _ _ _ _ (HA.blk _ [_,_,_] _::_) _
 refine oO 10 Z (zL Z Z Z (NV 7 aC aC) cQ ?_)
 refine zA ?_
 refine yG 0 Z Z Z (Ki fb b12 (39 - L) ((L:Int) - 65) (((7:Int)*108853).fdiv (2^15)) [] bl aC aC bl bl _ _ _) Z (cO 0 Z) (fun u24 M24 D24 hv24=>?_)
 obtain⟨rfl,rfl,rfl⟩:=hv24
 refine oK 1 [12,11,0,2,3,4] Z Z (rO 5 Z ?_)
 refine yG 0 Z Z Z (NX b12 (N*2^(63 - L)) 10995116277760000000 (39 - L) (10*(4*(N*250000))) hF.up aC aC hq1 hq2) Z cQ (fun u26 M26 D26 hv26=>?_)
 obtain⟨rfl,rfl,rfl⟩:=hv26
 refine oO 11 Z (rY (i:=dgOf L) Tryz.underlying270 ov Z Z Z aC ?_)
 refine zA (yR lA Z Z (fun _ h=>EQ h (j:=0) Z aC) ?_)
 refine zA (zL Z Z Z (NW (10^dgOf L) (Nat.pow_pos aC) aC) cQ ?_)
 refine zA (uA Z Z Z ?_)
 refine oK 1 [32,13,11,3,4] Z Z (zI Z (fun h32=>?_) (fun h32=>?_))
 ·refine rO 5 Z (zL Z Z Z (G4 (4*(N*250000)) aC) cQ ?_)
  refine oO 7 Z (xQ (s:=6) Z Z Z Z aC aC ?_)
  refine oK 13 [13,11,3] Z Z ?_
  refine xX 2 (fun(a:Nat)=>a≤1) (fun(a:Nat)=>[(13, .int .u64 ((uOf N a:Nat):Int)),(11, .int .i64 ((6+a:Nat):Int))]) (fun(a:Nat)=>a) 0 (bi) (eC Z (eC Z (eN _))) ?_ (eC Z (eN _))
  intro a hI K hK
  change Run _ _ _ _ _ [(13,_),(11,_),(3,_)] _ _
  replace hI:a≤1:=hI
  refine rO 8 Z (wO Z Z Z ?_)
  refine yO (zI Z (fun h41=>?_) (fun h41=>?_))
  ·obtain rfl:a=1:=by omega
   refine rO 7 Z (zL Z Z Z (G4 (4*(N*250000)) aC) cQ ?_)
   refine oO 7 Z (xQ (s:=6) Z Z Z Z aC aC ?_)
   refine oR 4 Z ?_
   exact kQ (hK 0 (bi) (by show 0<1;omega))
  obtain rfl:a=0:=by omega
  refine rO 6 Z (zL Z Z Z (Kg (N*250000) aC) cQ ?_)
  refine oO 3 Z (rF (s:= -6) Z Z Z aC aC ?_)
  refine oK 5 [11,10] Z Z ?_
  exact wY Tryz.results286 Z Z ⟨rfl,rfl,rfl⟩ nS (fun _ h=>by cases h)
 refine rK 11 [13,11,3] Z Z ?_
 refine xX 2 (fun(a:Nat)=>a≤1) (fun(a:Nat)=>[(13, .int .u64 ((uOf N a:Nat):Int)),(11, .int .i64 ((6+a:Nat):Int))]) (fun(a:Nat)=>a) 1 ((by show 1≤1;omega)) (eC Z (eC Z (eN _))) ?_ (eC Z (eN _))
 intro a hI K hK1
 change Run _ _ _ _ _ [(13,_),(11,_),(3,_)] _ _
 replace hI:a≤1:=hI
 refine rO 8 Z (wO Z Z Z ?_)
 refine yO (zI Z (fun h41=>?_) (fun h41=>?_))
 ·obtain rfl:a=1:=by omega
  refine rO 7 Z (zL Z Z Z (G4 (4*(N*250000)) aC) cQ ?_)
  refine oO 7 Z (xQ (s:=6) Z Z Z Z aC aC ?_)
  refine oR 4 Z ?_
  exact kQ (hK1 0 (bi) (by show 0<1;omega))
 obtain rfl:a=0:=by omega
 refine rO 6 Z (zL Z Z Z (Kg (N*250000) aC) cQ ?_)
 refine oO 3 Z (rF (s:= -6) Z Z Z aC aC ?_)
 refine oK 5 [11,10] Z Z ?_
 exact wY Tryz.results286 Z Z ⟨rfl,rfl,rfl⟩ nS (fun _ h=>by cases h)
end Go.Jw

namespace Go.Jw
open Go Go.RowKit Go.Proofs
set_option maxRecDepth 8000
open Go.Lib
def lz(neg:Bool):List UInt8:=if neg then [45]else []
def ipL(N:Nat):List UInt8:=if N/4=0 then []else decDigits (N/4)
def im(N:Nat):List UInt8:=if N%4=1 then [50,53,48,48,48,48]else if N%4=2 then [53,48,48,48,48,48]else [55,53,48,48,48,48]
def kq(N:Nat):Nat:=if N%4=2 then 1 else 2
theorem jr(N:Nat):(im N).length=6:=by
 unfold im;split
 ·rfl
 ·split<;>rfl
theorem ES(N:Nat):1≤kq N∧kq N≤2:=by unfold kq;split<;>omega
theorem nA{u d:Nat}(h:1≤u)(hd:d<10):decDigits (10*u+d)=decDigits u++[UInt8.ofNat (48+d)]:=by
 rw [decDigits,dif_neg aC,show(10*u+d)/10=u by omega,show(10*u+d)%10=d by omega]
theorem AQ{u:Nat}(h:u<10):decDigits u=[UInt8.ofNat (48+u)]:=by rw [decDigits,dif_pos h]
theorem AR{u:Nat}(h:1≤u):decDigits (10*u)=decDigits u++[48]:=nA (d:=0) h aC
theorem ET{u:Nat}(h:1≤u):decDigits (10*(10*(10*(10*u))))=decDigits u++[48,48,48,48]:=by
 have h1:1≤10*u:=by omega
 have h2:1≤10*(10*u):=by omega
 have h3:1≤10*(10*(10*u)):=by omega
 rw [AR h3,AR h2,AR h1,AR h]
 simp
theorem NZ(a q:Nat):(4*a+q)*250000=1000000*a+q*250000:=by rw [Nat.add_mul,Nat.mul_right_comm]
theorem Na{a q r1 r2:Nat}(he:r1*100000+r2*10000=q*250000):1000000*a+q*250000=10*(10*(10*(10*(10*(10*a+r1)+r2)))):=by omega
theorem o5(N:Nat)(h:0<N%4):decDigits (N*250000)=ipL N++im N:=by
 have hd:=Nat.div_add_mod N 4
 have h4:N%4<4:=Nat.mod_lt _ aC
 unfold ipL im
 generalize hq:N%4=q at*
 generalize ha:N/4=a at*
 have hN:N=4*a+q:=by omega
 subst hN
 have key: ∀ r1 r2:Nat,r1<10→r2<10→r1*100000+r2*10000=q*250000→1≤r1→decDigits ((4*a+q)*250000)=(if a=0 then []else decDigits a)++[UInt8.ofNat (48+r1),UInt8.ofNat (48+r2),48,48,48,48]:=by
  intro r1 r2 h1 h2 he h3
  have e1:(4*a+q)*250000=10*(10*(10*(10*(10*(10*a+r1)+r2)))):=(NZ a q).trans (Na he)
  rw [e1,ET (show 1≤10*(10*a+r1)+r2 by omega),nA (show 1≤10*a+r1 by omega) h2]
  split
  ·rename_i h0
   subst h0
   rw [Nat.mul_zero,Nat.zero_add,AQ h1]
   rfl
  ·rename_i h0
   rw [nA (show 1≤a by omega) h1]
   simp
 have h3:q=1∨q=2∨q=3:=by omega
 rcases h3 with rfl|rfl|rfl
 ·exact key 2 5 aC aC aC aC
 ·exact key 5 0 aC aC aC aC
 ·exact key 7 5 aC aC aC aC
theorem AS{N:Nat}(h9:N<1000000000):(ipL N).length≤9:=by
 unfold ipL
 split
 ·simp
 ·rw [decDigits_length];exact ib aC aC
theorem vc{N:Nat}(h:0<N%4):nDigits (N*250000)=(ipL N).length+6:=by rw [←decDigits_length,o5 N h,List.length_append,jr]
theorem I6(N:Nat)(h:0<N%4)(j:Nat)(hj:j<6): ∃c:UInt8,(im N)[j]? =some c∧(c.toNat=48↔kq N≤j):=by
 have h4:N%4<4:=Nat.mod_lt _ aC
 unfold im kq
 have hj6:j=0∨j=1∨j=2∨j=3∨j=4∨j=5:=by omega
 rcases(show N%4=1∨N%4=2∨N%4=3 by omega)with hq|hq|hq<;>rw [hq]<;>rcases hj6 with rfl|rfl|rfl|rfl|rfl|rfl<;>exact⟨_,rfl,by decide⟩
abbrev kV(N:Nat):List Value:=fP (ipL N++im N)++z8 (24 - ((ipL N).length+6))
theorem EU{N:Nat}(h:0<N%4){j:Nat}(hj:j<6): ∃c:UInt8,(im N)[j]? =some c∧(kV N)[(ipL N).length+j]? =some (.int .u8 (c.toNat:Int))∧(c.toNat=48↔kq N≤j):=by
 obtain⟨c,h1,h2⟩:=I6 N h j hj
 refine⟨c,h1,?_,h2⟩
 unfold kV
 rw [List.getElem?_append_left (by rw [List.length_map,List.length_append,jr];omega),List.getElem?_map,List.getElem?_append_right aC,Nat.add_sub_cancel_left,h1]
 rfl
theorem Kn{N:Nat}{j:Nat}(hj:j<(ipL N).length):(kV N)[j]? =some (.int .u8 ((ipL N)[j].toNat:Int)):=by
 unfold kV
 rw [List.getElem?_append_left (by rw [List.length_map,List.length_append];omega),List.getElem?_map,List.getElem?_append_left hj,List.getElem?_eq_getElem hj]
 rfl
theorem Nb{N m:Nat}(h:0<N%4)(h1:(ipL N).length+kq N≤m)(h2:m≤(ipL N).length+6): ∃c:UInt8,(kV N)[m - 1]? =some (.int .u8 (c.toNat:Int))∧(c.toNat=48↔(ipL N).length+kq N<m):=by
 have hk:=ES N
 obtain⟨c,_,h3,h4⟩:=EU (N:=N) h (j:=m - 1 - (ipL N).length) aC
 rw [show(ipL N).length+(m - 1 - (ipL N).length)=m - 1 by omega]at h3
 exact⟨c,h3,by rw [h4];omega⟩
theorem sS(l:List UInt8)(b:UInt8):fP l++[.int .u8 (b.toNat:Int)]=fP (l++[b]):=by simp
section rules
variable {P:Program} {n:Nat} {F:List Nat} {c:Ctx F} {k:List KI} {Q:cu} {e:dF} {M:List HA} {D:List DA}
theorem wS(i:Nat){A:Option Addr}{m cap U sz:Nat}{xs ys:List Value}(hi:M[i]? =some (.row A m cap U sz xs))(h:xs=ys)(next:Run P n c k Q e (M.set i (.row A m cap U sz ys)) D):Run P n c k Q e M D:=by
 subst h
 have:M.set i (.row A m cap U sz xs)=M:=by
  apply List.ext_getElem?
  intro j
  rw [List.getElem?_set]
  split
  ·rename_i hj
   subst hj
   split
   ·exact hi.symm
   ·rename_i h2
    rw [List.getElem?_eq_none aC]
  ·rfl
 rwa [this]at next
end rules

theorem P6(b T N:Nat)(hq:0<N%4)(h9:N<1000000000):Ct Tryz.prog 285 #[.slice (some ⟨b,0,none⟩) 24 24, .int .u64 ((N*250000:Nat):Int), .int .i64 (-6), .int .i64 (((ipL N).length+6:Nat):Int)] [.blk b (z8 24) T] [] (fun u M' D'=>u= .tuple #[.int .i64 (((ipL N).length:Nat):Int), .int .i64 (((ipL N).length+kq N:Nat):Int)]∧M'=[.blk b (kV N) T]∧D'=[]):=by
 refine Ct.of_run (args:=[.slice (some ⟨b,0,none⟩) 24 24, .int .u64 ((N*250000:Nat):Int), .int .i64 (-6), .int .i64 (((ipL N).length+6:Nat):Int)]) Tryz.func285 aF Z Tryz.ntmps285 Z (fun c=>?_)
 have hil:=AS h9
 have hk:=ES N
 refine rO 15 Z (zX dB Z Z ?_)
 refine zA (sE Z Z Z ?_)
 refine yO (wP Z (decide_eq_true aC) ?_)
 refine rO 7 Z (ia (h:=(ipL N).length+6) dB Z Z Z aC aC ?_)
 refine oO 3 Z ?_
 refine yG 0 Z Z Z (P5 b T ((ipL N).length+6) (N*250000) (vc hq).symm aC aC) Z cQ (fun u18 M18 D18 hv18=>?_)
 obtain⟨rfl,rfl,rfl⟩:=hv18
 rw [o5 N hq]
 refine oK 1 [0,2,3] Z Z (rO 7 Z ?_)
 refine xN (s:=(((ipL N).length:Nat):Int)) Z Z Z aC aC aC (oK 4 [3,8,0] Z Z ?_)
 refine xX 1 (fun(m:Nat)=>(ipL N).length+kq N≤m∧m≤(ipL N).length+6) (fun(m:Nat)=>[(3, .int .i64 ((m:Nat):Int))]) (fun(m:Nat)=>m) ((ipL N).length+6) (⟨aC,Nat.le_refl _⟩) (eC Z (eN _)) ?_ (eC Z (eC Z (eN _)))
 intro m hI K hK
 change Run _ _ _ _ _ [(3,_),(8,_),(0,_)] _ _
 obtain⟨hm1,hm2⟩:=hI
 obtain⟨cm,hc1,hc2⟩:=Nb hq hm1 hm2
 refine rO 6 Z (wO Z Z Z ?_)
 refine oS 2 Z (gV (s:=24) Z (decide_eq_true aC) ?_)
 refine oO 5 Z (xQ (s:=((m - 1:Nat):Int)) Z Z Z aC aC aC ?_)
 refine zH Z Z (xY dB Z Z Z aC ?_)
 refine zH Z Z (yR MR Z Z (fun _ h=>r5 h (j:=0) Z hc1) ?_)
 refine oK 5 [31,3,8,0] Z Z (zI Z (fun h31=>?_) (fun h31=>?_))
 ·have hlt:=hc2.1 aC
  refine rO 6 Z (xQ (s:=((m - 1:Nat):Int)) Z Z Z aC aC aC ?_)
  refine oR 4 Z ?_
  exact kQ (hK (m - 1) (⟨aC,aC⟩) (by show m - 1<m;omega))
 obtain rfl:m=(ipL N).length+kq N:=by
  rcases Nat.lt_or_eq_of_le hm1 with h|h
  ·exact absurd (hc2.2 h) aC
  ·exact h.symm
 refine rR 12 Z ?_
 exact wY Tryz.results285 Z Z ⟨rfl,rfl,rfl⟩ (List.Sublist.refl _) (fun _ h=>by cases h)
theorem G5{N:Nat}(h:0<(ipL N).length):ipL N=decDigits (N/4):=by
 unfold ipL at h⊢
 split
 ·rename_i h0;rw [if_pos h0]at h;simp at h
 ·rfl
theorem EW{N:Nat}(h: ¬ 0<(ipL N).length):decDigits (N/4)=[48]:=by
 have h0:N/4=0:=Classical.byContradiction fun h0=>h (by
  unfold ipL
  rw [if_neg h0,decDigits_length]
  exact nDigits_pos _)
 rw [h0,AQ aC]
 rfl
theorem G6{N k:Nat}(hq:0<N%4)(h1:kq N≤k)(h2:k<6):(im N).take (k+1)=(im N).take k++[48]:=by
 obtain⟨c,hf1,hf2⟩:=I6 N hq k h2
 obtain⟨hl6,hci⟩:=List.getElem?_eq_some_iff.1 hf1
 rw [List.take_succ_eq_append_getElem hl6,hci]
 have h48:c.toNat=48:=hf2.2 h1
 rw [show c=48 from UInt8.toNat_inj.1 h48]
set_option maxHeartbeats 4000000 in
theorem P7(b T N c0:Nat)(A0:Option Addr)(neg:Bool)(hq:0<N%4)(h9:N<1000000000):Ct Tryz.prog 283 #[.slice A0 0 c0, .bool neg, .slice (some ⟨b,0,none⟩) 24 24, .int .i64 (((ipL N).length:Nat):Int), .int .i64 (((ipL N).length+kq N:Nat):Int), .int .i64 6, .int .u8 102, .bool false] [.row A0 0 c0 5 1 [], .blk b (kV N) T] [] (fun u M' D'=> ∃A n c,u= .slice A n c∧M'=[.row A n c 5 1 (fP (lz neg++decDigits (N/4)++[46]++im N))]∧D'=[]):=by
 refine Ct.of_run (args:=[.slice A0 0 c0, .bool neg, .slice (some ⟨b,0,none⟩) 24 24, .int .i64 (((ipL N).length:Nat):Int), .int .i64 (((ipL N).length+kq N:Nat):Int), .int .i64 6, .int .u8 102, .bool false]) Tryz.func283 aF Z Tryz.ntmps283 Z (fun c=>?_)
 have hil:=AS h9
 have hk:=ES N
 refine rS 14 Z (wL (s:=33) Z (rfl) ?_)
 refine oK 7 [36,0,1,2,3,4,5,6,7] Z Z (rK 32 [176,0,1,2,3,4,5,6] Z Z ?_)
 refine rK 7 [178,0,2,3,4,5] Z Z (uY [2,3,4,5] (fun(⟨A1,n1,c1⟩:Option Addr×Nat×Nat)=>n1≤1) (fun(⟨A1,n1,c1⟩:Option Addr×Nat×Nat)=>[(0, .slice A1 n1 c1)]) (fun(⟨A1,n1,c1⟩:Option Addr×Nat×Nat)=>HA.row A1 n1 c1 5 1 (fP (lz neg))::HA.blk b (kV N) T::[]) (fun(⟨A1,n1,c1⟩:Option Addr×Nat×Nat)=>[]) ?_ ?_)
 ·intro K hK
  refine yC Z (fun h178=>?_) (fun h178=>?_)
  ·refine rO 4 Z (zM dB Z Z Z Z Z (fun b180=>?_))
   refine zA ?_
   refine cW 1 0 dB (fun A181 c181=>?_)
   refine oR 3 Z ?_
   subst h178
   exact kQ (hK (_,_,_) (by show _≤1;omega)) (eC Z (eC Z (eC Z (eC Z (eC Z (eN _)))))) (hD:=ba)
  refine uF ?_
  subst h178
  exact kQ (hK (_,_,_) (by show _≤1;omega)) (eC Z (eC Z (eC Z (eC Z (eC Z (eN _)))))) (hD:=ba)
 intro ⟨A1,n1,c1⟩ hI
 replace hI:n1≤1:=hI
 change Run _ _ _ _ _ [(0,_),(2,_),(3,_),(4,_),(5,_)] [_,_] ([])
 replace hI:n1≤1:=hI
 refine rO 6 Z (wO Z Z Z ?_)
 refine oK 1 [183,0,2,3,4,5] Z Z (uY [2,3,4,5] (fun(⟨A2,n2,c2⟩:Option Addr×Nat×Nat)=>n2≤11) (fun(⟨A2,n2,c2⟩:Option Addr×Nat×Nat)=>[(0, .slice A2 n2 c2)]) (fun(⟨A2,n2,c2⟩:Option Addr×Nat×Nat)=>HA.row A2 n2 c2 5 1 (fP (lz neg++decDigits (N/4)))::HA.blk b (kV N) T::[]) (fun(⟨A2,n2,c2⟩:Option Addr×Nat×Nat)=>[]) ?_ ?_)
 ·intro Kj2 hKj2
  refine zI Z (fun h183=>?_) (fun h183=>?_)
  ·have hip:ipL N=decDigits (N/4):=G5 aC
   refine rO 7 Z (rq (s:=(((ipL N).length:Nat):Int)) Z Z Z aC ?_)
   refine oO 11 Z (ia (h:=(ipL N).length) dB Z Z Z aC aC ?_)
   refine zA (zX dB Z Z ?_)
   refine oK 3 [191,190,189,23,0,2,3,4,5] Z Z (rK 1 [191,0,190,189,23,2,3,4,5] Z Z ?_)
   refine wS (ys:=fP (lz neg++(ipL N).take 0)) 0 Z aJ ?_
   refine yB 2 (fun(⟨i,A3,n3,c3⟩:Nat×Option Addr×Nat×Nat)=>i≤(ipL N).length∧n3≤1+i) (fun(⟨i,A3,n3,c3⟩:Nat×Option Addr×Nat×Nat)=>[(191, .int .i64 ((i:Nat):Int)),(0, .slice A3 n3 c3)]) (fun(⟨i,A3,n3,c3⟩:Nat×Option Addr×Nat×Nat)=>HA.row A3 n3 c3 5 1 (fP (lz neg++(ipL N).take i))::HA.blk b (kV N) T::[]) (fun(⟨i,A3,n3,c3⟩:Nat×Option Addr×Nat×Nat)=>[]) (fun(⟨i,A3,n3,c3⟩:Nat×Option Addr×Nat×Nat)=>(ipL N).length - i) (0,_,_,_) (⟨by show 0≤_;omega,by show _≤_+0;omega⟩) (eC Z (eC Z (eN _))) Z Z ?_ (eC Z (eC Z (eC Z (eC Z (eC Z (eC Z (eC Z (eN _))))))))
   intro ⟨i,A3,n3,c3⟩ hI K hK
   change Run _ _ _ _ _ [(191,_),(0,_),(190,_),(189,_),(23,_),(2,_),(3,_),(4,_),(5,_)] [_,_] ([])
   obtain⟨hi1,hi2⟩:=hI
   refine rO 3 Z (wI Z Z Z ?_)
   refine oR 2 Z (zI Z (fun h192=>?_) (fun h192=>?_))
   ·have hlt:i<(ipL N).length:=by omega
    refine rO 6 Z (xY dB Z Z Z aC ?_)
    refine zA (yR MR Z Z (fun _ h=>r5 h (j:=1) Z (Kn hlt)) ?_)
    refine oO 9 Z (zM dB Z Z Z Z Z (fun b197=>?_))
    refine zA ?_
    refine cW 1 0 dB (fun A198 c198=>?_)
    refine oK 3 [0,191,190,189,23,2,3,4,5] Z Z (rO 3 Z ?_)
    refine zN Z Z aC (oR 3 Z ?_)
    refine wS (ys:=fP (lz neg++(ipL N).take (i+1))) 1 Z (by rw [sS,List.append_assoc,←List.take_succ_eq_append_getElem hlt]) ?_
    exact kQ (hK (i+1,_,_,_) (⟨by show i+1≤_;omega,by show _≤_+(i+1);omega⟩) (by show(ipL N).length - (i+1)<(ipL N).length - i;omega)) (eC Z (eC Z (eC Z (eC Z (eC Z (eC Z (eC Z (eC Z (eC Z (eN _))))))))))
   obtain rfl:i=(ipL N).length:=by omega
   refine wS (ys:=fP (lz neg++decDigits (N/4))) 0 Z (by rw [List.take_length,hip]) (rO 8 Z ?_)
   refine xQ (s:=0) Z Z Z aC aC aC (oK 4 [203,202,0,2,3,4,5] Z Z ?_)
   refine xX 1 (fun(z:Nat)=>z=0) (fun(z:Nat)=>[(203, .int .i64 ((z:Nat):Int))]) (fun(z:Nat)=>z) 0 (rfl) (eC Z (eN _)) ?_ (eC Z (eC Z (eC Z (eC Z (eC Z (eC Z (eN _)))))))
   intro z hI K hK1
   change Run _ _ _ _ _ [(203,_),(202,_),(0,_),(2,_),(3,_),(4,_),(5,_)] _ _
   replace hI:z=0:=hI
   subst hI
   refine rO 3 Z (wI Z Z Z ?_)
   refine oR 4 Z ?_
   exact kQ (hKj2 (_,_,_) (by show _≤11;omega)) (eC Z (eC Z (eC Z (eC Z (eC Z (eN _)))))) (hD:=ba)
  have hz0:lz neg++[48]=lz neg++decDigits (N/4):=by rw [EW aC]
  refine rO 4 Z (zM dB Z Z Z Z Z (fun b210=>?_))
  refine zA ?_
  refine cW 1 0 dB (fun A211 c211=>?_)
  refine oR 3 Z (wS (ys:=fP (lz neg++decDigits (N/4))) 1 Z ((sS (lz neg) 48).trans (congrArg fP hz0)) ?_)
  exact kQ (hKj2 (_,_,_) (by show _≤11;omega)) (eC Z (eC Z (eC Z (eC Z (eC Z (eN _)))))) (hD:=ba)
 intro ⟨A2,n2,c2⟩ hI
 replace hI:n2≤11:=hI
 change Run _ _ _ _ _ [(0,_),(2,_),(3,_),(4,_),(5,_)] [_,_] ([])
 replace hI:n2≤11:=hI
 refine rO 6 Z (wO Z Z Z ?_)
 refine oO 7 Z (zM dB Z Z Z Z Z (fun b215=>?_))
 refine zA ?_
 refine cW 1 0 dB (fun A216 c216=>?_)
 refine oO 10 Z (rF (s:= -(((ipL N).length:Nat):Int)) Z Z Z aC aC ?_)
 refine zA (rr (s:=0) Z Z Z aC ?_)
 refine zA (rq (s:=0) Z Z Z aC ?_)
 refine oK 3 [26,0,2,3,4,5] Z Z (rO 7 Z ?_)
 refine xN (s:=(((ipL N).length:Nat):Int)) Z Z Z aC aC aC (oO 10 Z ?_)
 refine xQ (s:=6) Z Z Z Z aC aC (oO 5 Z ?_)
 refine xQ (s:=((kq N:Nat):Int)) Z Z Z aC aC aC (zA ?_)
 refine rr (s:=((kq N:Nat):Int)) Z Z Z aC (zA ?_)
 refine rq (s:=((kq N:Nat):Int)) Z Z Z aC (oK 3 [28,27,26,0,2,5] Z Z ?_)
 refine rO 7 Z (xQ (s:=6) Z Z Z Z aC aC ?_)
 refine oO 3 Z (xQ (s:=((6 - kq N:Nat):Int)) Z Z Z aC aC aC ?_)
 refine zA (rr (s:=((6 - kq N:Nat):Int)) Z Z Z aC ?_)
 refine oK 11 [240,239,29,28,27,0,2] Z Z (rK 1 [240,239,29,28,27,0,2] Z Z ?_)
 refine wS (ys:=fP (lz neg++decDigits (N/4)++[46])) 1 Z (sS _ 46) (xX 1 (fun(z:Nat)=>z=0) (fun(z:Nat)=>[(240, .int .i64 ((z:Nat):Int))]) (fun(z:Nat)=>z) 0 (rfl) (eC Z (eN _)) ?_ (eC Z (eC Z (eC Z (eC Z (eC Z (eC Z (eN _))))))))
 intro z hI K hK2
 change Run _ _ _ _ _ [(240,_),(239,_),(29,_),(28,_),(27,_),(0,_),(2,_)] _ _
 replace hI:z=0:=hI
 subst hI
 refine rO 3 Z (wI Z Z Z ?_)
 refine oK 13 [247,0,246,29,27,2] Z Z (wS (ys:=fP (lz neg++decDigits (N/4)++[46]++(im N).take 0)) 1 Z aJ ?_)
 refine yD (M':=[HA.row A216 (n2+1) c216 5 1 (fP (lz neg++decDigits (N/4)++[46]++(im N).take 0)),HA.blk b (kV N) T]) (zB 1 Z (zB 1 Z (zQ _))) ?_
 refine yB 2 (fun(⟨i,A3,n3,c3⟩:Nat×Option Addr×Nat×Nat)=>i≤kq N∧n3≤12+i) (fun(⟨i,A3,n3,c3⟩:Nat×Option Addr×Nat×Nat)=>[(247, .int .i64 ((i:Nat):Int)),(0, .slice A3 n3 c3)]) (fun(⟨i,A3,n3,c3⟩:Nat×Option Addr×Nat×Nat)=>HA.row A3 n3 c3 5 1 (fP (lz neg++decDigits (N/4)++[46]++(im N).take i))::HA.blk b (kV N) T::[]) (fun(⟨i,A3,n3,c3⟩:Nat×Option Addr×Nat×Nat)=>[]) (fun(⟨i,A3,n3,c3⟩:Nat×Option Addr×Nat×Nat)=>kq N - i) (0,_,_,_) (⟨by show 0≤_;omega,by show _≤_+0;omega⟩) (eC Z (eC Z (eN _))) Z Z ?_ (eC Z (eC Z (eC Z (eC Z (eN _)))))
 intro ⟨i,A3,n3,c3⟩ hI K hK3
 change Run _ _ _ _ _ [(247,_),(0,_),(246,_),(29,_),(27,_),(2,_)] [_,_] ([])
 obtain⟨hi1,hi2⟩:=hI
 refine rO 3 Z (wI Z Z Z ?_)
 refine oR 2 Z (zI Z (fun h248=>?_) (fun h248=>?_))
 ·have hlt:i<kq N:=by omega
  obtain⟨ci,hf1,hf2,hf3⟩:=EU (N:=N) hq (j:=i) aC
  obtain⟨hl6,hci⟩:=List.getElem?_eq_some_iff.1 hf1
  subst hci
  refine rO 20 Z (xN (s:=(((ipL N).length+i:Nat):Int)) Z Z Z aC aC aC ?_)
  refine zA (xY dB Z Z Z aC ?_)
  refine zA (yR MR Z Z (fun _ h=>r5 h (j:=1) Z hf2) ?_)
  refine zA (zM dB Z Z Z Z Z (fun b257=>?_))
  refine zA ?_
  refine cW 1 0 dB (fun A258 c258=>?_)
  refine oK 3 [0,247,246,29,27,2] Z Z (rO 3 Z ?_)
  refine zN Z Z aC (oR 3 Z ?_)
  refine wS (ys:=fP (lz neg++decDigits (N/4)++[46]++(im N).take (i+1))) 1 Z (by rw [sS,List.append_assoc,←List.take_succ_eq_append_getElem (by rw [jr];omega)]) ?_
  exact kQ (hK3 (i+1,_,_,_) (⟨by show i+1≤_;omega,by show _≤_+(i+1);omega⟩) (by show kq N - (i+1)<kq N - i;omega)) (eC Z (eC Z (eC Z (eC Z (eC Z (eC Z (eN _)))))))
 obtain rfl:i=kq N:=by omega
 refine rK 9 [261,0,260] Z Z ?_
 refine yB 2 (fun(⟨i,A3,n3,c3⟩:Nat×Option Addr×Nat×Nat)=>i≤(6 - kq N)∧n3≤14+i) (fun(⟨i,A3,n3,c3⟩:Nat×Option Addr×Nat×Nat)=>[(261, .int .i64 ((i:Nat):Int)),(0, .slice A3 n3 c3)]) (fun(⟨i,A3,n3,c3⟩:Nat×Option Addr×Nat×Nat)=>HA.row A3 n3 c3 5 1 (fP (lz neg++decDigits (N/4)++[46]++(im N).take (kq N+i)))::HA.blk b (kV N) T::[]) (fun(⟨i,A3,n3,c3⟩:Nat×Option Addr×Nat×Nat)=>[]) (fun(⟨i,A3,n3,c3⟩:Nat×Option Addr×Nat×Nat)=>(6 - kq N) - i) (0,_,_,_) (⟨by show 0≤_;omega,by show _≤_+0;omega⟩) (eC Z (eC Z (eN _))) Z Z ?_ (eC Z (eN _))
 intro ⟨i,A3,n3,c3⟩ hI K hK4
 change Run _ _ _ _ _ [(261,_),(0,_),(260,_)] [_,_] ([])
 obtain⟨hi1,hi2⟩:=hI
 refine rO 3 Z (wI Z Z Z ?_)
 refine oR 2 Z (zI Z (fun h262=>?_) (fun h262=>?_))
 ·have hlt:i<6 - kq N:=by omega
  have hsn:(im N).take (kq N+(i+1))=(im N).take (kq N+i)++[48]:=G6 (k:=kq N+i) hq aC aC
  refine rO 7 Z (zM dB Z Z Z Z Z (fun b264=>?_))
  refine zA ?_
  refine cW 1 0 dB (fun A265 c265=>?_)
  refine oO 6 Z (zN Z Z aC ?_)
  refine oR 3 Z (wS (ys:=fP (lz neg++decDigits (N/4)++[46]++(im N).take (kq N+(i+1)))) 1 Z ((sS _ 48).trans (by rw [List.append_assoc,←hsn])) ?_)
  exact kQ (hK4 (i+1,_,_,_) (⟨by show i+1≤_;omega,by show _≤_+(i+1);omega⟩) (by show(6 - kq N) - (i+1)<(6 - kq N) - i;omega)) (eC Z (eC Z (eC Z (eN _))))
 obtain rfl:i=6 - kq N:=by omega
 refine wS (ys:=fP (lz neg++decDigits (N/4)++[46]++im N)) 0 Z (by rw [show kq N+(6 - kq N)=(im N).length by rw [jr];omega,List.take_length]) (rR 8 Z ?_)
 exact zD Tryz.results283 Z ⟨_,_,_,rfl,rfl,rfl⟩ (.cons_cons _ nS) (fun _ h=>by cases h)
theorem P8(x:Nat)(h1:x<18446744073709551616):di Tryz.prog 206 #[.int .u64 (x:Int)] [] (.int .i64 ((Lib.bitLen x:Nat):Int)):=
  gB Ke fun w ok h=>(Tryz.bits_Len64 (x:Int) w aC aC).mono (by
    rintro e w' ⟨rfl,rfl⟩
    exact⟨rfl,Chg.refl _ _⟩)
theorem Nc{x:Nat}(h1:2^52≤x)(h2:x<2^53):Lib.bitLen x=53:=by
 obtain⟨a1,a2,a3⟩:=bitLenAux_bounds 64 x aC aC
 show bitLenAux 64 x=53
 generalize bitLenAux 64 x=l at*
 have h3:l≤53:=Classical.byContradiction fun h=>by
  have:=Nat.pow_le_pow_right (n:=2) aC (show 53≤l - 1 by omega)
  omega
 have h4:53≤l:=Classical.byContradiction fun h=>by
  have:=Nat.pow_le_pow_right (n:=2) aC (show l≤52 by omega)
  omega
 omega
structure I7(B N L:Nat)(neg:Bool)(K:Nat):Prop where
 lt:B<18446744073709551616
 sg:B/2^63=neg.toNat
 ex:B/2^52=neg.toNat*2048+(1021+L)
 mt:B%2^52=K - 2^52
 lo:2^52≤K
 hi:K<2^53
 up:K*2^11=N*2^(63 - L)
theorem Nd{n:Int}(h0:0<n.natAbs)(h9:n.natAbs<1000000000):I7 (qw n) n.natAbs n.natAbs.log2 (decide (n<0)) (n.natAbs*2^fill n.natAbs):=by
 have hL:=NY h0 h9
 have hl:=hL.l29
 have h53:n.natAbs<2^53:=by omega
 have hlo:=z1 h53 h0
 have hhi:=ll h53 h0
 have hfl:fill n.natAbs=52 - n.natAbs.log2:=rfl
 have hs:Ieee.double.signWeight=2^63:=by decide
 have hw:qw n=(if decide (n<0)=true then 2^63 else 0)+((1020+n.natAbs.log2)*2^52+n.natAbs*2^fill n.natAbs):=by
  unfold qw
  rw [gc _ h0 h53 aC aC]
  have e1:((-2:Int) - fill n.natAbs+1074).toNat=1020+n.natAbs.log2:=by rw [hfl];omega
  rw [e1]
  unfold Ieee.Format.word
  rw [hs]
  split<;>simp
 have hup:n.natAbs*2^fill n.natAbs*2^11=n.natAbs*2^(63 - n.natAbs.log2):=by
  rw [Nat.mul_assoc,←Nat.pow_add,hfl,show 52 - n.natAbs.log2+11=63 - n.natAbs.log2 by omega]
 generalize n.natAbs*2^fill n.natAbs=K at*
 generalize n.natAbs.log2=L at*
 rw [hw]
 cases decide (n<0)
 ·simp only [Bool.false_eq_true,↓reduceIte]
  exact⟨aC,by show _=0;omega,by show _=0*2048+_;omega,aC,hlo,hhi,hup⟩
 ·simp only [↓reduceIte]
  exact⟨aC,by show _=1;omega,by show _=1*2048+_;omega,aC,hlo,hhi,hup⟩
theorem G7(x:Nat)(b:Bool)(h:x<2048):(b.toNat*2048+x) &&& 2047=x:=by
 have:=Nat.and_two_pow_sub_one_eq_mod (b.toNat*2048+x) 11
 rw [show 2^11 - 1=2047 from rfl]at this
 rw [this]
 cases b<;>simp<;>omega
theorem Nf(x:Nat):x &&& 4503599627370495=x%2^52:=by
 have:=Nat.and_two_pow_sub_one_eq_mod x 52
 rwa [show 2^52 - 1=4503599627370495 from rfl]at this
theorem P9{K:Nat}(h1:2^52≤K)(h2:K<2^53):(K - 2^52)|||4503599627370496=K:=by
 have:=Nat.two_pow_add_eq_or_of_lt (i:=52) (b:=K - 2^52) aC 1
 rw [Nat.or_comm]
 rw [Nat.mul_one]at this
 have e:(4503599627370496:Nat)=2^52:=rfl
 rw [e,←this]
 omega
theorem QA(fb:Addr)(N L:Nat)(hF:FmtN N L):di Tryz.prog 286 #[.int .u64 ((N*2^(63 - L):Nat):Int), .int .i64 ((L:Int) - 65), .int .i64 ((dgOf L:Nat):Int), .int .i64 6, .int .u8 102] [jq fb] (.tuple #[.int .u64 ((N*250000:Nat):Int), .int .i64 (-6)]):=by
 rcases hF.tab.2.2.1 with h|h
 ·exact Kl fb N L hF h
 ·exact Km fb N L hF h
theorem Ko: ∃fn,Tryz.prog.funcs[280]? =some fn∧(fn.name== "runtime.NumGoroutine")=false∧fn.body.isNone=true∧Extern.findNext fn=none∧Extern.find fn=some Extern.MathFloatBits.float64bits:=⟨Tryz.f280,Tryz.func280,by kernel_rfl,rfl,by kernel_rfl,by kernel_rfl⟩

set_option maxHeartbeats 4000000 in
theorem QB(fb:Addr)(B N L K c0:Nat)(A0:Option Addr)(neg:Bool)(hF:FmtN N L)(hB:I7 B N L neg K)(hq:0<N%4):Ct Tryz.prog 261 #[.slice A0 0 c0, .float .f64 B, .int .u8 102, .int .i64 6] [.row A0 0 c0 5 1 []] [.tab,jq fb] (fun u M' D'=> ∃A m c,u= .slice A m c∧M'=[.row A m c 5 1 (fP (lz neg++decDigits (N/4)++[46]++im N))]∧D'=[]):=by
 refine Ct.of_run (args:=[.slice A0 0 c0, .float .f64 B, .int .u8 102, .int .i64 6]) Tryz.func261 aF Z Tryz.ntmps261 Z (fun c=>?_)
 obtain⟨fn,e1,e2,e3,e4,e5⟩:=Ko
 have hl:=hF.l29
 have hn9:=hF.n9
 have hk1:=hB.lo
 have hk2:=hB.hi
 have hnt:neg.toNat≤1:=by cases neg<;>decide
 obtain⟨d7a,d15,_,_,_,d6,d7⟩:=hF.tab
 refine rO 42 Z (Bv e1 e2 e3 e4 e5 Z Z Z (fun w=>rfl) ?_)
 refine oK 3 [9,0,2,3] Z Z (rO 24 Z ?_)
 refine xN (s:=63) Z Z Z Z aC aC (zA ?_)
 refine lr (m:=B) (s:=63) (r:=neg.toNat) Z Z Z aC hB.sg (zA ?_)
 refine m6 (v:= .bool neg) (fun w=>by cases neg<;>rfl) Z Z Z (oR 4 Z ?_)
 refine yW yM (zO ?_)
 refine tP 0 Z cF (zP Z) (tP 1 Z cF (zP Z) ?_)
 refine tP 4 Z cF (zP Z) (yF ?_)
 refine tM 2 Z cF (rA (mz (m:=B) (s:=52) (r:=neg.toNat*2048+(1021+L)) aC hB.ex) Z Z) (tM 3 Z cF (Bw Tryz.underlying235 Tryz.underlying3 Z (vU aC aC)) ?_)
 refine tM 5 Z cF (rA (uy (m:=1) (s:=11) (r:=2048) aC (Eq.refl _) aC) Z Z) (tM 6 Z cF (zq (s:=((2047:Nat):Int)) Z Z aC aC aC) ?_)
 refine tM 7 Z cF (rA (ux (m:=neg.toNat*2048+(1021+L)) (m':=2047) (r:=1021+L) aC aC (G7 (1021+L) neg aC)) Z Z) (zO ?_)
 refine tP 8 Z cF (yP Z) (yJ aD ?_)
 refine rK 0 [14,13,12,11,10,9,0,2,3] Z Z (rO 7 Z ?_)
 refine gk (m:=1) (s:=52) (r:=4503599627370496) Z Z Z aC Z aC (zA ?_)
 refine AJ (m:=4503599627370496) (m':=1) (r:=4503599627370495) Z Z Z aC Z aC (zA ?_)
 refine AI (m:=B) (m':=4503599627370495) (r:=K - 2^52) Z Z Z hB.lt aC ((Nf B).trans hB.mt) (oK 3 [15,14,13,12,11,10,0,2,3] Z Z ?_)
 refine rO 8 Z (m6 (uy (m:=1) (s:=11) (r:=2048) aC (Eq.refl _) aC) Z Z Z ?_)
 refine zA (xQ (s:=((2047:Nat):Int)) Z Z Z aC aC aC ?_)
 refine oR 3 Z (xA Z (decide_eq_false aC) ?_)
 refine rK 9 [78,15,14,13,12,11,0,2,3] Z Z (xA Z (decide_eq_false aC) ?_)
 refine rO 6 Z (gk (m:=1) (s:=52) (r:=4503599627370496) Z Z Z aC Z aC ?_)
 refine zA (KT (m:=K - 2^52) (m':=4503599627370496) (r:=K) Z Z Z aC aC (P9 hB.lo hB.hi) ?_)
 refine oO 10 Z (xN (s:=(L:Int) - 2) Z Z Z aC aC aC ?_)
 refine oK 3 [14,15,13,11,0,2,3] Z Z (rS 19 Z ?_)
 refine wL (s:=99) Z (rfl) (oK 7 [102,14,15,13,11,0,2,3] Z Z ?_)
 refine rR 10 Z (xA Z (decide_eq_false aC) ?_)
 refine rO 7 Z (wI Z Z Z ?_)
 refine oO 7 Z (tQ 1 0 lX Z Z Z Z ?_)
 refine oK 9 [24,14,15,13,11,0,2,3] Z Z (rK 6 [175,24,14,15,13,11,0,2,3] Z Z ?_)
 refine uY [14,15,13,11,0,2,3] (fun(u:Unit)=>True) (fun(u:Unit)=>[(24, .int .i64 ((dgOf L:Nat):Int))]) (fun(u:Unit)=>HA.row A0 0 c0 5 1 []::[]) (fun(u:Unit)=> .tab::jq fb::[]) ?_ ?_
 ·intro K hK
  refine rO 14 Z (uA Z Z Z ?_)
  refine yO (zI Z (fun h179=>?_) (fun h179=>?_))
  ·have hdg:=d6 aC
   refine rO 4 Z (xN (s:=(L:Int) - 1) Z Z Z aC aC aC ?_)
   refine zA (zL Z Z Z (G3 ((L:Int) - 1) aC aC) cQ ?_)
   refine zA (xN Z Z Z Z aC aC ?_)
   refine oO 3 Z (xN (s:=((dgOf L:Nat):Int)) Z Z Z aC aC aC ?_)
   refine oK 3 [24,14,15,13,11,0,2,3] Z Z (qK ?_)
   exact kQ (hK () trivial) (hD:=ba)
  have hdg:=d7 aC
  have hdg2:dgOf L=7:=by unfold dgOf;rw [if_neg aC]
  refine rO 4 Z (xN (s:=7) Z Z Z Z aC aC ?_)
  refine oO 3 Z (rF (s:=2 - (L:Int)) Z Z aC aC aC ?_)
  refine zA (zL Z Z Z (G3 (2 - (L:Int)) aC aC) cQ ?_)
  refine zA (xQ (s:=((dgOf L:Nat):Int)) Z Z Z aC aC aC ?_)
  refine oK 3 [24,14,15,13,11,0,2,3] Z Z (qK ?_)
  exact kQ (hK () trivial) (hD:=ba)
 intro u hI
 replace hI:True:=hI
 change Run _ _ _ _ _ [(24,_),(14,_),(15,_),(13,_),(11,_),(0,_),(2,_),(3,_)] [_] [_,_]
 refine rO 5 Z (sE Z Z Z ?_)
 refine yO (wP Z (decide_eq_true aC) ?_)
 refine rO 3 Z (yA NE Z (fun b25=>?_))
 change cG _ _ _ _ _ _ _ _ (HA.blk _ [_,_,_,_,_,_,_,_,_,_,_,_,_,_,_,_,_,_,_,_,_,_,_,_] _::_) _
 refine oO 14 Z (wO Z Z Z ?_)
 refine oK 1 [206,27,26,25,24,14,15,13,11,0,2,3] Z Z (wP Z (decide_eq_true aC) ?_)
 refine rO 5 Z (zL Z Z Z (P8 K aC) cQ ?_)
 rw [Nc hB.lo hB.hi]
 refine zA (xQ (s:=((11:Nat):Int)) Z Z Z Z aC aC ?_)
 refine oK 3 [28,27,26,25,24,14,15,13,11,0,2,3] Z Z (rO 7 Z ?_)
 refine gk (m:=K) (s:=11) (r:=N*2^(63 - L)) Z Z Z aC hB.up hF.up (oK 3 [29,28,27,26,25,24,14,13,11,0,2,3] Z Z ?_)
 refine rO 7 Z (xQ (s:=(L:Int) - 13) Z Z Z aC aC aC ?_)
 refine oK 3 [30,29,27,26,25,24,13,11,0,2,3] Z Z (rO 9 Z ?_)
 refine xQ (s:=(L:Int) - 65) Z Z Z aC aC aC (oO 7 Z ?_)
 refine zL Z Z Z (QA fb N L hF) (cO 1 Z) (oK 11 [32,31,27,26,25,13,0,2,3] Z Z ?_)
 refine rO 5 Z (uG Z Z Z ?_)
 refine yO (wP Z (decide_eq_true aC) ?_)
 refine yW yM (zO ?_)
 refine tP 1 Z cF (zP Z) (tP 2 Z cF (zP Z) ?_)
 refine tP 3 Z cF (zP Z) (yF ?_)
 refine tM 0 Z cF (u0 Tryz.underlying246 RC Z) (zS 4 aD ?_)
 refine zT (I2:=[[0],[2,1],[]]) Z cF aD (fun Kd hKd=>?_)
 refine zL Z Z Z (P2 (N*250000) aC aC) (cO 0 Z) ?_
 rw [vc hq]
 refine hKd _ _ _ (hC (hC (zE (zU)))) (zS 5 aD ?_)
 refine zT (I2:=[[],[],[]]) Z cF aD (fun Kd hKd=>?_)
 refine yG 0 Z Z Z (P6 b25 246 N hq hF.n9) Z cQ (fun u235 M235 D235 hv235=>?_)
 obtain⟨rfl,rfl,rfl⟩:=hv235
 refine hKd _ _ _ (zE (zE (zE (zU)))) (zO ?_)
 refine tP 6 Z cF (zP Z) (tP 7 Z cF (sT Z Z) ?_)
 refine tP 8 Z cF (sT Z Z) (tP 9 Z cF (yP Z) ?_)
 refine tP 10 Z cF (yP Z) (yJ aD ?_)
 refine rK 0 [27,26,25,13,0,2,3] Z Z (rO 7 Z ?_)
 refine uw Tryz.underlying246 RC Z Z (oO 9 Z ?_)
 refine pF 1 0 Z Z Z (P7 b25 246 N c0 A0 neg hq hF.n9) Z Z cQ (fun u245 M245 D245 hv245=>?_)
 obtain⟨A9,n9,c9,rfl,rfl,rfl⟩:=hv245
 refine oK 3 [8] Z Z ?_
 exact zD Tryz.results261 Z ⟨_,_,_,rfl,rfl,rfl⟩ (List.Sublist.refl _) (fun _ h=>by cases h)
theorem lD: ∀ (l r:List UInt8) (a m:Nat),decFrom a l=some m→decFrom a (l++r)=decFrom m r
  |[],r,a,m,h=>by simp only [decFrom,Option.some.injEq]at h;subst h;rfl
  |b::l,r,a,m,h=>by
    simp only [List.cons_append,decFrom]at h⊢
    split
    · rename_i d hd
      rw [hd]at h
      exact lD l r _ m h
    · rename_i hd
      rw [hd]at h
      exact absurd h aJ
theorem nB{d:Nat}(h:d<10):digitVal (UInt8.ofNat (48+d))=some d:=by
 unfold digitVal
 rw [fO h]
 rw [if_pos aC]
 congr 1
 omega
theorem vd(u:Nat):decFrom 0 (decDigits u)=some u:=by
  induction u using Nat.strongRecOn with
  |_ u ih=>
    rw [decDigits]
    split
    · rename_i h
      simp only [decFrom,nB h,Option.some.injEq]
      omega
    · rename_i h
      rw [lD _ _ _ _ (ih (u/10) aC)]
      simp only [decFrom,nB (Nat.mod_lt u (show 0<10 by omega)),Option.some.injEq]
      omega
theorem nC(u:Nat):decNat (decDigits u)=some u:=by
  unfold decNat
  have:=kT u
  cases hd:decDigits u with
  |nil=>exact absurd hd this
  |cons c r=>rw [←hd,vd];simp [hd]
theorem nD{u:Nat}(h:u<1000000000):(decDigits u).length≤9:=by
 rw [decDigits_length]
 exact ib aC aC
theorem CA(u:Nat): ∀ c r,decDigits u=c::r→Dgt c:=by
  induction u using Nat.strongRecOn with
  |_ u ih=>
    intro c r h
    rw [decDigits]at h
    split at h
    · rename_i h9
      injection h with h1 h2
      subst h1
      show 48≤_∧_
      rw [fO h9]
      omega
    · cases hd:decDigits (u/10)with
      |nil=>exact absurd hd (kT _)
      |cons c' r'=>
        rw [hd,List.cons_append]at h
        injection h with h1 h2
        subst h1
        exact ih (u/10) aC _ _ hd
theorem yc{n:Int}(h1: -1000000000<n)(h2:n<1000000000):parseIntB 64 (Lib.itoa n)= .ok n:=by
  rcases Int.lt_or_le n 0 with h|h
  · obtain⟨u,rfl⟩: ∃u:Nat,n= -(u:Int):=⟨n.natAbs,aC⟩
    rw [itoa_neg u aC,parseIntB_64,atoiAll_short _ (by have:=nD (u:=u) aC;simp only [List.length_cons];omega)]
    simp [atoi,nC,NumEnd.ofOption]
  · obtain⟨u,rfl⟩: ∃u:Nat,n=(u:Int):=⟨n.natAbs,aC⟩
    rw [itoa_nonneg,parseIntB_64,atoiAll_short _ (by have:=nD (u:=u) aC;omega)]
    cases hd:decDigits u with
    |nil=>exact absurd hd (kT u)
    |cons c r=>
      have hc:48≤c.toNat∧c.toNat≤57:=CA u c r hd
      have h45:(c==45)=false:=by
        cases hq:c==45 with
        |false=>rfl
        |true=>rw [beq_iff_eq]at hq;subst hq;exact absurd hc.1 aE
      have h43:(c==43)=false:=by
        cases hq:c==43 with
        |false=>rfl
        |true=>rw [beq_iff_eq]at hq;subst hq;exact absurd hc.1 aE
      simp only [atoi,h45,h43,Bool.false_eq_true,↓reduceIte]
      rw [←hd,nC]
      rfl
theorem Kq:zn Tryz.prog 180:=⟨_,Tryz.func180,by kernel_rfl,rfl⟩
theorem CB(w:World)(t:TypeId)(s:ByteArray):Chg [] w (Lib.bytesWorld w t s):=
 by
 unfold Lib.bytesWorld World.freeze
 rw [if_neg aC]
 refine⟨rfl,rfl,rfl,?_,fun j hj _=>?_⟩
 ·show w.heap.size≤(Array.modify _ _ _).size
  rw [Array.size_modify]
  show _≤(w.heap.push _).size
  simp
 ·show(Array.modify _ _ _)[j]? =_
  rw [Array.getElem?_modify,if_neg (by show ¬ w.heap.size=j;omega)]
  show(w.heap.push _)[j]? =_
  rw [Array.getElem?_push,if_neg aC]
theorem Kr(n:Int)(h1: -1000000000<n)(h2:n<1000000000):di Tryz.prog 180 #[.string (dm n), .int .i64 10, .int .i64 64] [] (.tuple #[.int .i64 n, .nilIface]):=
  gB Kq fun w ok h=>(Tryz.strconv_ParseInt_10_at64_ok (dm n) (by have:=vR n aC aC;omega) n (yc h1 h2) w).mono (by
    rintro e w' ⟨rfl,hw⟩
    refine⟨rfl,?_⟩
    rcases hw with rfl|⟨t,rfl⟩
    · exact Chg.refl _ _
    · exact CB _ _ _)
theorem Ks{a b:ByteArray}(h:rl a=rl b):a=b:=by
  cases a with
  |mk a=>cases b with
    |mk b=>congr 1;exact Array.ext' h
theorem EX{q:Nat}(h0:0<q)(h4:q<4):rl (Du q)=46::im q:=by
 rcases(by omega:q=1∨q=2∨q=3)with rfl|rfl|rfl<;>rfl
theorem HC(N:Nat):im (N%4)=im N:=by unfold im;rw [Nat.mod_mod]
theorem nE{n:Int}(h0:n.tmod 4≠0):bs (lz (decide (n<0))++decDigits (n.natAbs/4)++[46]++im n.natAbs)=dn n:=by
 obtain⟨a1,a2⟩:=vb h0
 apply Ks
 unfold dn
 rw [kN,kN,r3,r4,EX a1 a2,HC,List.append_assoc _ [46] (im n.natAbs)]
 rfl
theorem ve{n:Int}(h0:n.tmod 4≠0)(h1: -1000000000<n)(h2:n<1000000000):(dn n).size≤20:=by
 rw [←nE h0]
 show(lz (decide (n<0))++decDigits (n.natAbs/4)++[46]++im n.natAbs).toArray.size≤20
 have:=nD (u:=n.natAbs/4) aC
 have h6:(im n.natAbs).length=6:=jr _
 have hs:(lz (decide (n<0))).length≤1:=by unfold lz;split<;>simp
 simp only [List.size_toArray,List.length_append,h6,List.length_cons,List.length_nil]
 omega

theorem QC(fb:Addr)(n:Int)(h0:n.tmod 4≠0)(h1: -1000000000<n)(h2:n<1000000000):di Tryz.prog 246 #[.float .f64 (qw n), .int .u8 102, .int .i64 6, .int .i64 64] [.tab,jq fb] (.string (dn n)):=by
 refine Ct.of_run (args:=[.float .f64 (qw n), .int .u8 102, .int .i64 6, .int .i64 64]) Tryz.func246 aF Z Tryz.ntmps246 Z (fun c=>?_)
 obtain⟨a1,a2⟩:=vb h0
 have hn0:0<n.natAbs:=by omega
 have hn9:n.natAbs<1000000000:=by omega
 refine rO 29 Z (xN (s:=10) Z Z Z Z aC aC ?_)
 refine zA (rr (s:=((24:Nat):Int)) Z Z Z Z ?_)
 refine zA ?_
 refine oD 24 dB Z Z Z aC aC (fun b26=>?_)
 refine oO 7 Z (yG 0 Z Z Z (QB fb (qw n) n.natAbs n.natAbs.log2 (n.natAbs*2^fill n.natAbs) 24 _ (decide (n<0)) (NY hn0 hn9) (Nd hn0 hn9) (vb h0).1) Z (dP 0 1 Z Z) (fun u30 M30 D30 hv30=>?_))
 obtain⟨A9,m9,c9,rfl,rfl,rfl⟩:=hv30
 refine zA (Bp 0 Tryz.underlying142 Tryz.underlying5 Tryz.underlying9 Z Z Z ?_)
 rw [nE h0]
 refine oK 3 [8] Z Z ?_
 exact zD Tryz.results246 Z ⟨rfl,rfl,rfl⟩ nS (fun _ h=>by cases h)
theorem QD(fb:Addr)(n:Int)(h0:n.tmod 4≠0)(h1: -1000000000<n)(h2:n<1000000000):di Tryz.prog 224 #[.float .f64 (qw n), .int .u8 102, .int .i64 6, .int .i64 64] [.tab,jq fb] (.string (dn n)):=by
 refine Ct.of_run (args:=[.float .f64 (qw n), .int .u8 102, .int .i64 6, .int .i64 64]) Tryz.func224 aF Z Tryz.ntmps224 Z (fun c=>?_)
 refine rO 16 Z (zL Z Z Z (QC fb n h0 h1 h2) (dP 0 1 Z Z) ?_)
 refine oK 3 [8] Z Z ?_
 exact zD Tryz.results224 Z ⟨rfl,rfl,rfl⟩ nS (fun _ h=>by cases h)
theorem QE(fb:Addr)(n:Int)(h0:n.tmod 4≠0)(h1: -1000000000<n)(h2:n<1000000000):CtR Tryz.prog 188 #[.float .f64 (qw n)] [.tab,jq fb] (RN (cU dz (dn n))):=by
 refine Ct.of_run (args:=[.float .f64 (qw n)]) Tryz.func188 aF Z Tryz.ntmps188 Z (fun c=>?_)
 refine rO 10 Z (zL Z Z Z (QD fb n h0 h1 h2) (dP 0 1 Z Z) ?_)
 refine zA (yV Z Z (rI ..) ?_)
 refine zA (yK Z Z Z (fun b6=>?_))
 refine oR 3 Z (pG ?_)
 exact uD 0 0 Z Z aG aE (qx (ve h0 h1 h2) aE) (zD Tryz.results188 Z ⟨rfl,b6,rfl,rfl⟩ nS (cO 0 Z))
theorem Ng(fb:Addr)(sp:Value)(nb:Nat)(n:Int)(h0:n.tmod 4≠0)(h1: -1000000000<n)(h2:n<1000000000):CtR Tryz.prog 135 #[sp,ptr nb] [.node nb (cU dz (quartV n)), .tab,jq fb] (RF (.numF (qw n))):=by
 refine Ct.of_run (args:=[sp,ptr nb]) Tryz.func135 aF Z Tryz.ntmps135 Z (fun c=>?_)
 refine xT 0 Z (fun A0 cap0 ht0 hv0 hl0 hc0=>?_)
 refine rO 8 Z (yV Z Z (Im ..) ?_)
 refine zA (yK Z Z Z (fun b11=>?_))
 refine oO 11 Z (zC wD Z Z ?_)
 refine zA (zJ 0 dX Z Z Z Z ?_)
 refine oK 9 [16,5,1] Z Z (rO 8 Z ?_)
 refine zC sN Z Z (zA ?_)
 refine zJ 0 dO Z Z Z Z (oO 17 Z ?_)
 refine zC wN Z Z (zA ?_)
 refine zJ 0 dO Z Z Z Z (zA ?_)
 refine zL Z Z Z (NS fb (quartV n) n (Ka h0 h1 h2)) (cO 4 Z) (oO 7 Z ?_)
 refine yA Ma Z (fun b6=>?_)
 change cG _ _ _ _ _ _ _ _ (HA.blk _ [_] _::_) _
 refine zA (zG 0 (M':=[HA.blk _ [_] _,_]) Z Z Z Z MZ Z Z Z ?_)
 refine oK 3 [6,5] Z Z (rO 7 Z ?_)
 refine zC qn Z Z (zA ?_)
 refine zG 1 (M':=[_,HA.blk _ [_,_] _]) Z Z Z Z MY Z Z Z (oR 8 Z ?_)
 refine xJ 0 Z aG (xJ 0 Z aG ?_)
 exact yZ (.fv (ptr b11) (.numF (qw n))) (fun w ok h=>⟨_,_,rfl,dget h 0 Z,tJ (dget h 1 Z) Z⟩) (zD Tryz.results135 Z ⟨rfl,_,rfl,rfl⟩ nS (cO 0 Z))
theorem Nh(sp:Value)(nb:Nat)(n:Int)(h1: -1000000000<n)(h2:n<1000000000):CtR Tryz.prog 135 #[sp,ptr nb] [.node nb (cU iS (dm n))] (RF (.numI n)):=by
 refine Ct.of_run (args:=[sp,ptr nb]) Tryz.func135 aF Z Tryz.ntmps135 Z (fun c=>?_)
 refine xT 0 Z (fun A0 cap0 ht0 hv0 hl0 hc0=>?_)
 refine rO 8 Z (yV Z Z (Im ..) ?_)
 refine zA (yK Z Z Z (fun b11=>?_))
 refine oO 11 Z (zC wD Z Z ?_)
 refine zA (zJ 0 dX Z Z Z Z ?_)
 refine oK 9 [16,5,1] Z Z (rO 8 Z ?_)
 refine zC sN Z Z (zA ?_)
 refine zJ 0 dO Z Z Z Z (oR 9 Z ?_)
 refine xA Z (decide_eq_false aE) (rO 15 Z ?_)
 refine zC wN Z Z (zA ?_)
 refine zJ 0 dO Z Z Z Z (zA ?_)
 refine zL Z Z Z (Kr n h1 h2) cQ (oO 7 Z ?_)
 refine yA RA Z (fun b8=>?_)
 change cG _ _ _ _ _ _ _ _ (HA.blk _ [_] _::_) _
 refine zA (zG 0 (M':=[HA.blk _ [_] _,_]) Z Z Z Z Q9 Z Z Z ?_)
 refine oK 3 [8,5] Z Z (rO 7 Z ?_)
 refine zC lh Z Z (zA ?_)
 refine zG 1 (M':=[_,HA.blk _ [_,_] _]) Z Z Z Z ez Z Z Z (oR 8 Z ?_)
 refine xJ 0 Z aG (xJ 0 Z aG ?_)
 exact yZ (.fv (ptr b11) (.numI n)) (fun w ok h=>⟨_,_,rfl,dget h 0 Z,tJ (dget h 1 Z) Z⟩) (zD Tryz.results135 Z ⟨rfl,_,rfl,rfl⟩ nS (cO 0 Z))
theorem Ni(sp:Value)(nb:Nat)(n:Int)(h1: -1000000000<n)(h2:n<1000000000):CtR Tryz.prog 137 #[sp,ptr nb] [.node nb (cU iS (dm n))] (RF (.int n)):=by
 refine Ct.of_run (args:=[sp,ptr nb]) Tryz.func137 aF Z Tryz.ntmps137 Z (fun c=>?_)
 refine xT 0 Z (fun A0 cap0 ht0 hv0 hl0 hc0=>?_)
 refine rO 13 Z (zC wD Z Z ?_)
 refine zA (zJ 0 dX Z Z Z Z ?_)
 refine oO 17 Z (zC sN Z Z ?_)
 refine zA (zJ 0 dO Z Z Z Z ?_)
 refine oK 1 [19,1] Z Z (rR 8 Z ?_)
 refine xA Z (decide_eq_false aE) (rO 15 Z ?_)
 refine zC wN Z Z (zA ?_)
 refine zJ 0 dO Z Z Z Z (zA ?_)
 refine zL Z Z Z (Kr n h1 h2) cQ (oO 7 Z ?_)
 refine yA RA Z (fun b8=>?_)
 change cG _ _ _ _ _ _ _ _ (HA.blk _ [_] _::_) _
 refine zA (zG 0 (M':=[HA.blk _ [_] _]) Z Z Z Z Q9 Z Z Z ?_)
 refine oK 3 [8] Z Z (rR 5 Z ?_)
 refine xJ 0 Z aG (yZ (.fv (ptr b8) (.int n)) (fun w ok h=>⟨_,rfl,tJ (dget h 0 Z) Z⟩) ?_)
 exact zD Tryz.results137 Z ⟨rfl,_,rfl,rfl⟩ nS (cO 0 Z)
def DA.and(a b:DA):DA:=⟨fun w ok=>a.p w ok∧b.p w ok,fun h1 h2 h=>⟨a.mono h1 h2 h.1,b.mono h1 h2 h.2⟩⟩
theorem Ct.wide{P:Program}{f:FuncId}{args:Array Value}{M:List HA}{D D2:List DA}{R:Value→List HA→List DA→Prop}(h:Ct P f args M D R)(hs: ∀ (w:World) (ok:Nat→Prop),(∀ d∈D2,d.p w ok)→ ∀ d∈D,d.p w ok):Ct P f args M D2 R:=
 ⟨h.1,fun w ok hok hM hn hD=>h.2 w ok hok hM hn (hs w ok hD)⟩
def yd(fb:Addr):DA:= .and .tab (jq fb)
theorem QF(fb:Addr):Ga (yd fb):=fun n h1 h2 h0=>Ct.wide (QE fb n h0 h1 h2) (fun w ok h d hd=>by
 have:=h (yd fb) List.mem_cons_self
 simp only [List.mem_cons,List.not_mem_nil,or_false]at hd
 rcases hd with rfl|rfl
 ·exact this.1
 ·exact this.2)
theorem o6{back:Bool}{x:V}(h:x.kind=2):cv back x=cU iS (dm x.num):=by rw [vW];simp [h]
theorem vg{back:Bool}{x:V}(h:x.kind=6):cv back x=cU dz (quartV x.num):=by rw [vW];simp [h]
theorem Nj(fb:Addr):xt (yd fb):=by
  refine⟨fun back x hx hk=>?_,fun back x hx hk=>?_⟩
  · obtain⟨h1,h2⟩:=hk.num aC
    rcases hx with hx|⟨hx,h0⟩
    · exact uX (o6 hx) (fun sp nb=>Nh sp nb _ h1 h2) ⟨rfl,hx,rfl⟩
    · refine z5 fun sb nb=>?_
      rw [vg hx]
      have h3:CtR Tryz.prog 135 #[ptr sb,ptr nb] [.node nb (cU dz (quartV x.num)),yd fb] (RF (.numF (qw x.num))):=Ct.wide (Ng fb (ptr sb) nb x.num h0 h1 h2) (fun w ok h d hd=>by
        have h4:=h (yd fb) aJ
        simp only [List.mem_cons,List.not_mem_nil,or_false]at hd
        rcases hd with rfl|rfl|rfl
        · exact h _ List.mem_cons_self
        · exact h4.1
        · exact h4.2)
      exact h3.mono (by rintro u D' ⟨p,rfl,rfl⟩;exact⟨p,_,rfl,rfl,rfl,hx,rfl⟩)
  · obtain⟨h1,h2⟩:=hk.num aC
    exact uX (o6 hx) (fun sp nb=>Ni sp nb _ h1 h2) ⟨rfl,rfl⟩
end Go.Jw

namespace Go.Jw
open Go Go.RowKit Go.Proofs
set_option maxRecDepth 8000
def AU(t:V)(r:Value)(D':List DA):Prop:= ∃x,r= .tuple #[x, .bool true]∧RV t x D'
section rules
variable {P:Program} {n:Nat} {F:List Nat} {c:Ctx F} {ops:Array Oper} {d:Nat} {T:TypeId} {l:List Oper} {k:List KI} {Q:cu} {e:dF} {M:List HA} {D:List DA}
variable {x y:Operand} {S S':TypeId}
theorem EY(hS:P.underlying S=some (.interface (P.methodsAt S)))(hx:ev e x=some .nilIface):St P n c (.binOp .eql S x (.const .nilIface) S') T e M D (.bool true):=
 fun _ a w hf=>by
  have h1:=run_eql_nil_nil (P:=P) (w:=w) S hS
  have h2:a.eval (.const .nilIface)= .nilIface:=rfl
  simp only [execOp,dH,hf.ev hx,h2,eqGuard_nil_constR,Sem.run_bind,Sem.run_pure,Result.andThen_ok,h1]
end rules

theorem Nk(b:Nat)(s:ByteArray):CtR Tryz.prog 166 #[ptr b] [.node b (cU dT s)] (AU (.mk 3 0 s [] [])):=by
 refine Ct.of_run (args:=[ptr b]) Tryz.func166 aF Z Tryz.ntmps166 Z (fun c=>?_)
 refine xT 0 Z (fun A0 cap0 ht0 hv0 hl0 hc0=>?_)
 refine rO 3 Z (yA dE Z (fun b2=>?_))
 change cG _ _ _ _ _ _ _ _ (HA.blk _ [_,_,_,_,_] _::_) _
 refine oO 11 Z (zC sN Z Z ?_)
 refine zA (zJ 0 dO Z Z Z Z ?_)
 refine oO 17 Z (zC wN Z Z ?_)
 refine zA (zJ 0 dO Z Z Z Z ?_)
 refine zA (yV Z Z (DM ..) ?_)
 refine zA (zG 0 (M':=[HA.blk _ [_,_,_,_,_] _]) Z Z Z Z co Z Z Z ?_)
 refine oK 3 [3,2] Z Z (sY ?_)
 refine rV (vP 1 0 Z Z (s:=s) (q:=3) (m:=0) hv0 ?_)
 exact vI 0 Tryz.results166 Z Z Z cM ⟨rfl,_,rfl,none,0,none,0,rfl,rfl⟩ nS (cO 0 Z)
theorem Nl(b:Nat):CtR Tryz.prog 166 #[ptr b] [.node b (cU eE (ua true))] (AU (.mk 1 1 ⟨#[]⟩ [] [])):=by
 refine Ct.of_run (args:=[ptr b]) Tryz.func166 aF Z Tryz.ntmps166 Z (fun c=>?_)
 refine xT 0 Z (fun A0 cap0 ht0 hv0 hl0 hc0=>?_)
 refine rO 3 Z (yA dE Z (fun b2=>?_))
 change cG _ _ _ _ _ _ _ _ (HA.blk _ [_,_,_,_,_] _::_) _
 refine oO 11 Z (zC sN Z Z ?_)
 refine zA (zJ 0 dO Z Z Z Z ?_)
 refine oR 9 Z (xA Z (decide_eq_false aE) ?_)
 refine rK 13 [4,2,0] Z Z (rO 8 Z ?_)
 refine zC wN Z Z (zA ?_)
 refine zJ 0 dO Z Z Z Z (oR 9 Z ?_)
 refine yW yM (zO ?_)
 refine tP 0 Z cF (zP Z) (tP 2 Z cF (zP Z) ?_)
 refine tP 3 Z cF (yQ Z) (tP 4 Z cF (zZ wN Z) ?_)
 refine yF (tM 1 Z cF (qE Z (ja ..)) ?_)
 refine mG (kC 5 (xL _ _ _ _) Z cF aD aD aD Z (tU 0 dO Z Z Z) ?_)
 refine zO (tP 6 Z cF (lV Z Z) ?_)
 refine tP 7 Z cF (zP Z) (BJ (s:=34) Z (rfl) ?_)
 refine pE 8 (xL _ _ _ _) Z Z Z Z aD aD aD Z (pE 9 (xL _ _ _ _) Z Z Z Z aD aD aD Z ?_)
 refine pE 10 (xL _ _ _ _) Z Z Z Z aD aD aD Z (pE 11 (xL _ _ _ _) Z Z Z Z aD aD aD Z ?_)
 refine pE 12 (xL _ _ _ _) Z Z Z Z aD aD aD Z (tP 13 Z cF (wH Z Z) ?_)
 refine zS 14 aD ?_
 refine zT (I2:=[[13,12,11,10,9,8],[],[],[],[]]) Z cF aD (fun Kd hKd=>?_)
 refine zG 0 (M':=[HA.blk _ [_,_,_,_,_] _]) Z Z Z Z co Z Z Z (hKd _ _ _ (hC (zE (zE (zE (zE (zU)))))) ?_)
 refine tP 15 Z cF (yP Z) (yJ aD ?_)
 refine rK 0 [3,2] Z Z (sY ?_)
 refine rV (vP 1 0 Z Z (s:=⟨#[]⟩) (q:=1) (m:=1) aE ?_)
 exact vI 0 Tryz.results166 Z Z Z cM ⟨rfl,_,rfl,none,0,none,0,rfl,rfl⟩ nS (cO 0 Z)
theorem Nn(b:Nat):CtR Tryz.prog 166 #[ptr b] [.node b (cU eE (ua false))] (AU (.mk 1 0 ⟨#[]⟩ [] [])):=by
 refine Ct.of_run (args:=[ptr b]) Tryz.func166 aF Z Tryz.ntmps166 Z (fun c=>?_)
 refine xT 0 Z (fun A0 cap0 ht0 hv0 hl0 hc0=>?_)
 refine rO 3 Z (yA dE Z (fun b2=>?_))
 change cG _ _ _ _ _ _ _ _ (HA.blk _ [_,_,_,_,_] _::_) _
 refine oO 11 Z (zC sN Z Z ?_)
 refine zA (zJ 0 dO Z Z Z Z ?_)
 refine oR 9 Z (xA Z (decide_eq_false aE) ?_)
 refine rK 13 [4,2,0] Z Z (rO 8 Z ?_)
 refine zC wN Z Z (zA ?_)
 refine zJ 0 dO Z Z Z Z (oR 6 Z ?_)
 refine yW yM (zO ?_)
 refine tP 0 Z cF (zP Z) (tP 2 Z cF (zP Z) ?_)
 refine tP 3 Z cF (yQ Z) (tP 4 Z cF (zZ wN Z) ?_)
 refine yF (tM 1 Z cF (qE Z (ja ..)) ?_)
 refine mG (kC 5 (xL _ _ _ _) Z cF aD aD aD Z (tU 0 dO Z Z Z) ?_)
 refine zO (tP 6 Z cF (lV Z Z) ?_)
 refine tP 7 Z cF (zP Z) (BK (s:=34) Z (rfl) ?_)
 refine tP 8 Z (ce Z Z) (zP Z) (tP 9 Z (ce Z Z) (yQ Z) ?_)
 refine tP 10 Z (ce Z Z) (zZ wN Z) (mG ?_)
 refine kC 11 (xL _ _ _ _) Z (ce Z Z) aD aD aD Z (tU 0 dO Z Z Z) (zO ?_)
 refine tP 12 Z (ce Z Z) (lV Z Z) (tP 13 Z cF (wH Z Z) ?_)
 refine zS 14 aD ?_
 refine zT (I2:=[[13,12],[11],[10,9,8],[],[],[],[]]) Z cF aD (fun Kd hKd=>?_)
 refine zG 0 (M':=[HA.blk _ [_,_,_,_,_] _]) Z Z Z Z co Z Z Z (hKd _ _ _ (hC (hC (hC (zE (zE (zE (zE (zU)))))))) ?_)
 refine tP 15 Z cF (yP Z) (yJ aD ?_)
 refine rK 0 [3,2] Z Z (sY ?_)
 refine rV (vP 1 0 Z Z (s:=⟨#[]⟩) (q:=1) (m:=0) aE ?_)
 exact vI 0 Tryz.results166 Z Z Z cM ⟨rfl,_,rfl,none,0,none,0,rfl,rfl⟩ nS (cO 0 Z)
theorem No(b:Nat):CtR Tryz.prog 166 #[ptr b] [.node b (cU mQ mR)] (AU (.mk 0 0 ⟨#[]⟩ [] [])):=by
 refine Ct.of_run (args:=[ptr b]) Tryz.func166 aF Z Tryz.ntmps166 Z (fun c=>?_)
 refine xT 0 Z (fun A0 cap0 ht0 hv0 hl0 hc0=>?_)
 refine rO 3 Z (yA dE Z (fun b2=>?_))
 change cG _ _ _ _ _ _ _ _ (HA.blk _ [_,_,_,_,_] _::_) _
 refine oO 11 Z (zC sN Z Z ?_)
 refine zA (zJ 0 dO Z Z Z Z ?_)
 refine oR 9 Z (xA Z (decide_eq_false aE) ?_)
 refine rR 7 Z (xA Z (decide_eq_false aE) ?_)
 refine rK 7 [41,12,2,0] Z Z (rO 4 Z ?_)
 refine yV Z Z (Jt ..) (zA ?_)
 refine zG 0 (M':=[HA.blk _ [_,_,_,_,_] _]) Z Z Z Z co Z Z Z (oR 3 Z ?_)
 refine sY (rV ?_)
 exact vP 1 0 Z Z (s:=⟨#[]⟩) (q:=0) (m:=0) aE (vI 0 Tryz.results166 Z Z Z cM ⟨rfl,_,rfl,none,0,none,0,rfl,rfl⟩ nS (cO 0 Z))
theorem Np(b:Nat)(n:Int)(h1: -1000000000<n)(h2:n<1000000000):CtR Tryz.prog 166 #[ptr b] [.node b (cU iS (dm n))] (AU (.mk 2 n ⟨#[]⟩ [] [])):=by
 refine Ct.of_run (args:=[ptr b]) Tryz.func166 aF Z Tryz.ntmps166 Z (fun c=>?_)
 refine xT 0 Z (fun A0 cap0 ht0 hv0 hl0 hc0=>?_)
 refine rO 3 Z (yA dE Z (fun b2=>?_))
 change cG _ _ _ _ _ _ _ _ (HA.blk _ [_,_,_,_,_] _::_) _
 refine oO 11 Z (zC sN Z Z ?_)
 refine zA (zJ 0 dO Z Z Z Z ?_)
 refine oR 9 Z (xA Z (decide_eq_false aE) ?_)
 refine rR 7 Z (xA Z (decide_eq_false aE) ?_)
 refine rK 7 [41,12,2,0] Z Z (xA Z (decide_eq_false aE) ?_)
 refine rO 15 Z (zC wN Z Z ?_)
 refine zA (zJ 0 dO Z Z Z Z ?_)
 refine zA (zL Z Z Z (Kr n h1 h2) cQ ?_)
 refine oK 11 [6,5,2] Z Z (xD ?_)
 refine yW yM (zO ?_)
 refine tP 0 Z cF (zP Z) (tP 2 Z cF (zP Z) ?_)
 refine yF (tM 1 Z cF (qE Z (ja ..)) ?_)
 refine zO (tP 3 Z cF (EY KY Z) ?_)
 refine zS 4 aD ?_
 refine zT (I2:=[[3],[],[2],[]]) Z cF aD (fun Kd hKd=>?_)
 refine zG 0 (M':=[HA.blk _ [_,_,_,_,_] _]) Z Z Z Z co Z Z Z (hKd _ _ _ (hC (zE (hC (zE (zU))))) ?_)
 refine tP 5 Z cF (yP Z) (yJ aD ?_)
 refine sY (rV ?_)
 exact vP 1 0 Z Z (s:=⟨#[]⟩) (q:=2) (m:=n) aE (vI 0 Tryz.results166 Z Z Z cM ⟨rfl,_,rfl,none,0,none,0,rfl,rfl⟩ nS (cO 0 Z))
theorem Nq(fb:Addr)(b:Nat)(n:Int)(h0:n.tmod 4≠0)(h1: -1000000000<n)(h2:n<1000000000):CtR Tryz.prog 166 #[ptr b] [.node b (cU dz (dn n)),jq fb] (AU (.mk 6 n ⟨#[]⟩ [] [])):=by
 refine Ct.of_run (args:=[ptr b]) Tryz.func166 aF Z Tryz.ntmps166 Z (fun c=>?_)
 refine xT 0 Z (fun A0 cap0 ht0 hv0 hl0 hc0=>?_)
 have hz:n≠0:=fun h=>by subst h;exact h0 rfl
 have hd4: -1000000000<n.tdiv 4∧n.tdiv 4<1000000000:=by have:=Int.mul_tdiv_add_tmod n 4;have h5:(n.tdiv 4).natAbs=n.natAbs/4:=Int.natAbs_tdiv n 4;omega
 refine rO 3 Z (yA dE Z (fun b2=>?_))
 change cG _ _ _ _ _ _ _ _ (HA.blk _ [_,_,_,_,_] _::_) _
 refine oO 11 Z (zC sN Z Z ?_)
 refine zA (zJ 0 dO Z Z Z Z ?_)
 refine oR 9 Z (xA Z (decide_eq_false aE) ?_)
 refine rR 7 Z (xA Z (decide_eq_false aE) ?_)
 refine rK 7 [41,12,2,0] Z Z (xA Z (decide_eq_false aE) ?_)
 refine rR 7 Z (xA Z (decide_eq_false aE) ?_)
 refine rO 15 Z (zC wN Z Z ?_)
 refine zA (zJ 0 dO Z Z Z Z ?_)
 refine zA (zL Z Z Z (NS fb (dn n) n (Kb h0 h1 h2)) (cO 3 Z) ?_)
 refine oK 11 [8,7,2] Z Z (rO 6 Z ?_)
 refine u6 KY Z Z (oS 2 Z ?_)
 refine wL (s:=70) Z (rfl) (oO 3 Z ?_)
 refine Gq Z Z Z (b:=false) (by rw [←GM,Dc hz h1 h2];rfl) (oS 4 Z ?_)
 refine wL (s:=74) Z (rfl) (oO 3 Z ?_)
 refine Gs Z Z Z (b:=false) (by rw [←J2,Dc hz h1 h2];rfl) (oS 4 Z ?_)
 refine wL (s:=78) Z (rfl) (oO 3 Z ?_)
 refine rp Z Z Z bF (oO 3 Z ?_)
 refine rp Z Z Z bF (zH Z Z ?_)
 refine kS bK Tryz.underlying2 Z Z (Dd hz h1 h2) a9 bB (zH Z Z ?_)
 refine kR (by rw [Tryz.underlying2];rfl) Tryz.underlying214 Z Z (zH Z Z ?_)
 refine Gu Z Z Z (b:=false) (by rw [Mk hz h1 h2];rfl) (oK 3 [86,7,2] Z Z ?_)
 refine rO 10 Z (kS bK Tryz.underlying2 Z Z (J1 hz h1 h2) a9 bB ?_)
 refine zA (kR (by rw [Tryz.underlying2];rfl) Tryz.underlying214 Z Z ?_)
 refine zA (Gt Z Z Z (b:=false) (by rw [beq_eq_false_iff_ne];exact Ml hz h1 h2 h0) ?_)
 refine oO 8 Z (rp Z Z Z bF ?_)
 refine zA (kS bK Tryz.underlying2 Z Z (Dd hz h1 h2) a9 bB ?_)
 refine zA (yV Z Z (ja ..) ?_)
 refine zA (zG 0 (M':=[HA.blk _ [_,_,_,_,_] _]) Z Z Z Z co Z Z Z ?_)
 refine oK 3 [3,2] Z Z (sY ?_)
 refine rV (vP 1 0 Z Z (s:=⟨#[]⟩) (q:=6) (m:=n) aE ?_)
 exact vI 0 Tryz.results166 Z Z Z cM ⟨rfl,_,rfl,none,0,none,0,rfl,rfl⟩ nS (cO 0 Z)
end Go.Jw

