/- Part 4 of the proof's texts, made small by a program. -/
import Derived.Test.YtlcfillobkdnmaaGreatDoorTu3
import Derived.Deep.QuietTactic
import Derived.Lib.RowBridge
import Derived.Lib.SortBridge
import Derived.Sort.LotA
import Derived.WalkKit
import Derived.Laws.FloatArith
import Derived.Scope
import Derived.Laws.Externs
import Derived.Laws.Small
import Derived.Laws.MakeOwn
import Derived.Lib.ParseIntBTie
import Derived.Lib.AtoiTie
import Derived.Lib.ItoaMem
set_option linter.unusedVariables false
set_option linter.unusedSimpArgs false
set_option maxHeartbeats 4000000
namespace Go.Jw
open Go Go.RowKit Go.Proofs
set_option maxRecDepth 8000
theorem LG(s:ByteArray)(hs:s.size≤maxLen)(hf:dS s): ∃T:ByteArray,(T=⟨#[104,116,116,112,58,47,47,106,115,111,110,45,115,99,104,101,109,97,46,111,114,103,47,100,114,97,102,116,45,48,52,47,115,99,104,101,109,97]⟩∨T=⟨#[35]⟩∨T=⟨#[]⟩)∧dd Tryz.prog 152 #[.string s, .string ⟨#[35]⟩] [] (.string T):=by
 refine⟨_,?_,NM s hs⟩
 rcases hf with rfl|rfl|rfl|rfl|rfl
 ·exact .inl aD
 ·exact .inl aD
 ·exact .inr (.inr aD)
 ·exact .inr (.inr aD)
 ·exact .inr (.inl aD)
section rules
variable {P:Program} {n:Nat} {F:List Nat} {c:Ctx F} {k:List KI} {Q:Post} {e:dI} {M:List HA} {D:List DA} {q:Nat}
theorem BT(hq:Nm q)(j:Nat){mb:Nat}{cs:List Value}{f:Flds}(hj:D[j]? =some (.flds mb cs f))(next: ∀ p,cs[q]? =some (.pointer p)→p.isSome=(f q).isSome→Run P n c k Q e M D):Run P n c k Q e M D:=gI j q hj hq.nmok.1 hq.nmok.2.1 next
theorem pC(hq:Nm q)(j:Nat){mb mb2:Nat}{cs:List Value}{f:Flds}{G:Gr}{v:V}{p:Option Addr}{ft:DA}(hj:D[j]? =some (.flds mb cs f))(hc:cs[q]? =some (.pointer p))(hp:p.isSome=(f q).isSome)(hb:p.isSome=true)(hU: ∀ i,1≤i→i≤36→FldRel (fun b x=>Unf G x b) v i (f i))
  (HF: ∀ key x,getV v key=some x→kwIdx key≠0→Fld ft mb2 G (shIdx (kwIdx key)) x)
  (next: ∀ fv x a,p=some a→getV v (lw q)=some x→kwIdx (lw q)=q→FvRel (fun b x=>Unf G x b) (shIdx q) x fv→Fld ft mb2 G (shIdx q) x→Run P n c k Q e M (.fv (.pointer (some a)) fv::D)):Run P n c k Q e M D:=
 z9 j q hj hq.nmok.2.2.1 hq.nmok.2.1 hc hp hb hU (fun fv x a hpa _ hgx hkw hr=>next fv x a hpa hgx hkw hr (by have:=HF _ _ hgx (by rw [hkw];exact hq.nmok.2.2.1);rwa [hkw]at this))
theorem Pk(hq:Nm q){v:V}{f:Flds}{l:List Nat}{n0 m0 ca0:Nat}{A0:Option Addr}{xs0:List Value}{L0:List (ByteArray×Y)}{M1:List HA}{D1:List DA}{x:Code}{e2:dI}(hW:WI v f l L0)(hm:m0≤n0)(he:ov [3,0] e=some e2)
  (h1: ∀ K:Act→World→Prop,(∀ m A ca xs L,WI v f (q::l) L→m≤n0+2→ ∀ a w,Fits n c ((4, .slice A m ca)::e2) (HA.row A m ca 102 1 xs::M1) (.ptrs xs (L.flatMap eM)::D1) a w→K a w)→Run P n c (.code x:: .cont K::k) Q e (HA.row A0 m0 ca0 102 1 xs0::M1) (.ptrs xs0 (L0.flatMap eM)::D1))
  (h2: ∀ m A ca xs L,WI v f (q::l) L→m≤n0+2→Run P n c k Q ((4, .slice A m ca)::e2) (HA.row A m ca 102 1 xs::M1) (.ptrs xs (L.flatMap eM)::D1)):Run P n c (.code x::k) Q e (HA.row A0 m0 ca0 102 1 xs0::M1) (.ptrs xs0 (L0.flatMap eM)::D1):=
 jt (α:={y:Nat×Option Addr×Nat×List Value×List (ByteArray×Y)//WI v f (q::l) y.2.2.2.2∧y.1≤n0+2}) (fun y=>(4, .slice y.1.2.1 y.1.1 y.1.2.2.1)::e2) (fun y=>HA.row y.1.2.1 y.1.1 y.1.2.2.1 102 1 y.1.2.2.2.1::M1) (fun y=> .ptrs y.1.2.2.2.1 (y.1.2.2.2.2.flatMap eM)::D1)
  (fun K hK=>h1 K (fun m A ca xs L hW hm=>hK ⟨(m,A,ca,xs,L),hW,hm⟩)) (fun y=>h2 _ _ _ _ _ y.2.1 y.2.2)
theorem xz{x:Operand}{b:Bool}(hx:ev e x=some (.bool b))(h:Run P n c k Q e M D):Run P n c (.code (.cond x .skip .skip)::k) Q e M D:=zW hx (fun _=>xZ h) (fun _=>xZ h)
end rules
theorem iH{q:Nat}{X1 X2 A B C:Prop}(hF:cN Tryz.prog 124 q q)(sc:X1)(pn:X2)(y:C)(x:B)(hq:Nm q:=by exact rfl)(h:Nm q→cN Tryz.prog 124 q q→X1→X2→C→B→A:=by
  intro hq hF sc pn y k
  refine BT hq 2 Z (fun p hc hp=>?_)
  refine rO 8 Z ?_
  refine zC hF Z Z ?_
  refine oO 1 Z ?_
  refine zH 1 sc Z Z Z hc ?_
  refine oO 1 Z ?_
  refine yI pn Z Z ?_
  refine oR 1 Z ?_
  refine Pk hq hW hm Z (fun K hK=>?_) k
  refine zW Z (fun h=>?_) (fun h=>?_)
  · revert p hc hp K hK h
    exact y
  refine rR 1 Z ?_
  exact vX (hK _ _ _ _ _ (hW.skip (tY hp h)) (Nat.le_add_right_of_le hm)) (eC Z (eC Z (eC Z (eN _)))) (by repeat (first|exact wO _|exact zQ _|refine zB 0 Z ?_|refine zB 1 Z ?_|refine zB 2 Z ?_)) sQ):A:=h hq hF sc pn y x
theorem t1{q:Nat}{A:Prop}(hF:cN Tryz.prog 124 q q)(hq:Nm q:=by exact rfl)(h:Nm q→cN Tryz.prog 124 q q→A:=by
  intro hq hF p hc hp K hK h
  refine pC hq 2 Z hc hp h hU HF (fun fv x a hpa hgx hkw hr hL=>?_)
  subst hpa
  change FvRel _ 1 x fv at hr
  obtain rfl:=jB hr
  refine gH 0 Z (fun p hp hs=>?_)
  cases hp
  refine rO 8 Z ?_
  refine zC hF Z Z ?_
  refine oO 1 Z ?_
  refine zH 3 dP Z Z Z hc ?_
  refine oO 3 Z ?_
  refine yW 0 dK Z Z Z ?_
  refine oO 1 Z ?_
  refine zT Z Z Z (BQ _ hs) cZ (fun u D hv=>?_)
  obtain⟨b1,rfl,rfl⟩:=hv
  refine oO 1 Z ?_
  refine wE 0 Z Z Z (od _ _ _ _ _ _ aE aC) Z cZ (fun u M D hv=>?_)
  obtain⟨A1,c1,b2,rfl,rfl,rfl⟩:=hv
  refine oR 3 Z ?_
  refine uO 4 0 1 Z Z Z ?_
  exact vX (hK _ _ _ _ _ (hW.add Z hkw hq.nmok.2.2.1 hq.nmok.2.2.2 hgx (.inl ⟨rfl,rfl⟩)) bd) (eC Z (eC Z (eC Z (eN _)))) (by repeat (first|exact wO _|exact zQ _|refine zB 0 Z ?_|refine zB 1 Z ?_|refine zB 2 Z ?_)) (cl 0 Z sQ)):A:=h hq hF
theorem t2{q:Nat}{A:Prop}(hF:cN Tryz.prog 124 q q)(hq:Nm q:=by exact rfl)(h:Nm q→cN Tryz.prog 124 q q→A:=by
  intro hq hF p hc hp K hK h
  refine pC hq 2 Z hc hp h hU HF (fun fv x a hpa hgx hkw hr hL=>?_)
  subst hpa
  change FvRel _ 2 x fv at hr
  obtain rfl:=GA hr
  refine Dd 0 Z (fun p hp=>?_)
  cases hp
  refine rO 8 Z ?_
  refine zC hF Z Z ?_
  refine oO 1 Z ?_
  refine zH 3 fp Z Z Z hc ?_
  refine oO 3 Z ?_
  refine yW 0 FX Z Z Z ?_
  refine oO 1 Z ?_
  refine zT Z Z Z (Ie _) cZ (fun u D hv=>?_)
  obtain⟨b1,rfl,rfl⟩:=hv
  refine oO 1 Z ?_
  refine wE 0 Z Z Z (od _ _ _ _ _ _ aE aC) Z cZ (fun u M D hv=>?_)
  obtain⟨A1,c1,b2,rfl,rfl,rfl⟩:=hv
  refine oR 3 Z ?_
  refine uO 4 0 1 Z Z Z ?_
  exact vX (hK _ _ _ _ _ (hW.add Z hkw hq.nmok.2.2.1 hq.nmok.2.2.2 hgx (.inr (.inl ⟨rfl,rfl⟩))) bd) (eC Z (eC Z (eC Z (eN _)))) (by repeat (first|exact wO _|exact zQ _|refine zB 0 Z ?_|refine zB 1 Z ?_|refine zB 2 Z ?_)) (cl 0 Z sQ)):A:=h hq hF
theorem t4{q:Nat}{A:Prop}(hF:cN Tryz.prog 124 q q)(hq:Nm q:=by exact rfl)(h:Nm q→cN Tryz.prog 124 q q→A:=by
  intro hq hF p hc hp K hK h
  refine pC hq 2 Z hc hp h hU HF (fun fv x a hpa hgx hkw hr hL=>?_)
  subst hpa
  change FvRel _ 4 x fv at hr
  change Fld ft mb G 4 x at hL
  obtain rfl:=Io hr
  refine F2 0 Z (fun p hp=>?_)
  cases hp
  have hn:=Fld.int (.inl (by have:=hL.fit;simp [cT]at this;exact this.1)) hL.pl
  refine rO 8 Z ?_
  refine zC hF Z Z ?_
  refine oO 1 Z ?_
  refine zH 3 eV Z Z Z hc ?_
  refine oO 3 Z ?_
  refine yW 0 fM Z Z Z ?_
  refine oO 1 Z ?_
  refine zT Z Z Z (K1 _ hn.1 hn.2) (cS 6 Z) (fun u D hv=>?_)
  obtain⟨b1,rfl,rfl⟩:=hv
  refine oO 1 Z ?_
  refine wE 0 Z Z Z (od _ _ _ _ _ _ aE aC) Z cZ (fun u M D hv=>?_)
  obtain⟨A1,c1,b2,rfl,rfl,rfl⟩:=hv
  refine oR 3 Z ?_
  refine uO 4 0 1 Z Z Z ?_
  exact vX (hK _ _ _ _ _ (hW.add Z hkw hq.nmok.2.2.1 hq.nmok.2.2.2 hgx (.inr (.inr (.inr (.inr (.inl ⟨rfl,rfl⟩)))))) bd) (eC Z (eC Z (eC Z (eN _)))) (by repeat (first|exact wO _|exact zQ _|refine zB 0 Z ?_|refine zB 1 Z ?_|refine zB 2 Z ?_)) (cl 0 Z sQ)):A:=h hq hF
theorem NS{q:Nat}{A:Prop}(hF:cN Tryz.prog 124 q q)(hq:Nm q:=by exact rfl)(h:Nm q→cN Tryz.prog 124 q q→A:=by
  intro hq hF p hc hp K hK h
  refine pC hq 2 Z hc hp h hU HF (fun fv x a hpa hgx hkw hr hL=>?_)
  subst hpa
  change FvRel _ 13 x fv at hr
  obtain⟨bs,rfl,hbs⟩:=GB hr
  refine iX 0 Z (fun p sl hp=>?_)
  cases hp
  refine rO 8 Z ?_
  refine zC hF Z Z ?_
  refine oO 1 Z ?_
  refine zH 4 dm Z Z Z hc ?_
  refine oO 3 Z ?_
  refine yW 0 kK Z Z Z ?_
  refine oO 1 Z ?_
  refine zT Z Z Z (Pj hL hbs) (cl 1 Z (cl 6 Z (dC 7 8 Z Z))) (fun u D hv=>?_)
  obtain⟨z,hz,b1,rfl,rfl⟩:=hv
  refine oO 1 Z ?_
  refine wE 0 Z Z Z (od _ _ _ _ _ _ aE aC) Z cZ (fun u M D hv=>?_)
  obtain⟨A1,c1,b2,rfl,rfl,rfl⟩:=hv
  refine oR 3 Z ?_
  refine uO 5 0 1 Z Z Z ?_
  exact vX (hK _ _ _ _ _ (hW.add Z hkw hq.nmok.2.2.1 hq.nmok.2.2.2 hgx hz) bd) (eC Z (eC Z (eC Z (eN _)))) (by repeat (first|exact wO _|exact zQ _|refine zB 0 Z ?_|refine zB 1 Z ?_|refine zB 2 Z ?_)) (cl 0 Z sQ)):A:=h hq hF
theorem tG{q:Nat}{X1 X2 A:Prop}(hF:cN Tryz.prog 124 q q)(sc:X1)(w:X2)(hq:Nm q:=by exact rfl)(h:Nm q→cN Tryz.prog 124 q q→X1→X2→A:=by
  intro hq hF sc w p hc hp K hK h
  refine pC hq 2 Z hc hp h hU HF (fun fv x a hpa hgx hkw hr hL=>?_)
  subst hpa
  refine rO 8 Z ?_
  refine zC hF Z Z ?_
  refine oO 1 Z ?_
  refine zH 2 sc Z Z Z hc ?_
  refine oO 1 Z ?_
  refine zT Z Z Z (w hL hr) (cl 0 Z (cl 4 Z (dC 5 6 Z Z))) (fun u D hv=>?_)
  obtain⟨z,hz,b1,rfl,rfl⟩:=hv
  refine oO 1 Z ?_
  refine wE 0 Z Z Z (od _ _ _ _ _ _ aE aC) Z cZ (fun u M D hv=>?_)
  obtain⟨A1,c1,b2,rfl,rfl,rfl⟩:=hv
  refine oR 3 Z ?_
  refine uO 3 0 1 Z Z Z ?_
  exact vX (hK _ _ _ _ _ (hW.add Z hkw hq.nmok.2.2.1 hq.nmok.2.2.2 hgx hz) bd) (eC Z (eC Z (eC Z (eN _)))) (by repeat (first|exact wO _|exact zQ _|refine zB 0 Z ?_|refine zB 1 Z ?_|refine zB 2 Z ?_)) (cl 0 Z sQ)):A:=h hq hF sc w
theorem t0{A:Prop}(h:A:=by
 refine rO 9 Z ?_
 refine zC fO Z Z ?_
 refine oO 1 Z ?_
 refine zH 5 dP Z Z Z hc ?_
 refine oO 3 Z ?_
 refine yW 2 dK Z Z Z ?_
 refine oO 1 Z ?_
 refine zT Z Z Z (BQ _ hs) cZ (fun u D hv=>?_)
 obtain⟨b1,rfl,rfl⟩:=hv
 refine oO 1 Z ?_
 refine wE 0 Z Z Z (od _ _ _ _ _ _ aE aC) Z cZ (fun u M D hv=>?_)
 obtain⟨A1,c1,b2,rfl,rfl,rfl⟩:=hv
 refine oR 4 Z ?_
 refine uO 6 0 1 Z Z Z ?_
 exact vX (hK _ _ _ _ _ (hW.add Z hkw aE aE hgx (.inl ⟨rfl,rfl⟩)) bd) (eC Z (eC Z (eC Z (eN _)))) (by repeat (first|exact wO _|exact zQ _|refine zB 0 Z ?_|refine zB 1 Z ?_|refine zB 2 Z ?_)) (cl 0 Z sQ)):A:=h
set_option maxHeartbeats 4000000 in
theorem LH(ft:DA)(mb:Nat)(G:Gr)(v:V)(HF: ∀ key x,getV v key=some x→kwIdx key≠0→Fld ft mb G (shIdx (kwIdx key)) x)(hid: ∀ x,getV v kId=some x→ ∃u,getV v dL=some u∧dS u.text):oe ft mb G v:=by
 intro b hb
 refine Ct.of_run (args:=[cW b]) Tryz.func105 aF Z Tryz.ntmps105 Z (fun c=>?_)
 obtain⟨f,⟨cs,hg⟩,hU⟩:=(qT G v b).1 hb
 refine Ih 0 Z hg (fun mb2 hcl=>?_)
 refine gI 1 1 Z aE aE (fun p1 hc1 hp1=>?_)
 refine gI 1 4 Z aE aE (fun p4 hc4 hp4=>?_)
 have hn4:p4.isSome=false:=by rw [hp4,AA hU 4 aE aE aE aE];rfl
 refine gI 1 5 Z aE aE (fun p5 hc5 hp5=>?_)
 have hn5:p5.isSome=false:=by rw [hp5,AA hU 5 aE aE aE aE];rfl
 refine yM (.ptrs [] (([]:List (ByteArray×Y)).flatMap eM)) (fun w ok h=>rfl) (rO 8 Z ?_)
 refine yX Z Z (Fm ..) (oO 1 Z ?_)
 refine yK Z Z Z (fun b6=>?_)
 refine oO 6 Z (wI cy Z Z Z (fun b7=>?_))
 refine oR 3 Z ?_
 have hW:=WI.nil v f
 have hm:=Nat.le_refl 0
 refine iH kE dP dc ?_ ?_
 ·exact t1 kE
 intro m A ca xs L hW hm
 refine iH fO dP dc ?_ ?_
 ·intro p hc hp K hK h
  refine pC (q:=2) Z 2 Z hc hp h hU HF (fun fv x a hpa hgx hkw hr hL=>?_)
  subst hpa
  change FvRel _ 1 x fv at hr
  obtain rfl:=jB hr
  refine gH 0 Z (fun p hp hs=>?_)
  cases hp
  obtain⟨u1,hu1,hfo⟩:=hid x hgx
  have hb1:p1.isSome=true:=by
   cases hq1:p1.isSome with
   |true=>rfl
   |false=>
    have:=hU 1 aE aE
    rw [tY hp1 hq1]at this
    rw [show getV v dL=none from this dL aD]at hu1
    cases hu1
  refine z9 4 1 Z aE aE hc1 hp1 hb1 hU (fun fv1 x1 a1 hpa1 hfv1 hgx1 hkw1 hr1=>?_)
  subst hpa1
  change FvRel _ 1 x1 fv1 at hr1
  obtain rfl:=jB hr1
  refine gH 0 Z (fun p1 hq1 hs1=>?_)
  cases hq1
  rw [show getV v dL=some x1 from hgx1]at hu1
  cases hu1
  obtain⟨T,hT,hcT⟩:=LG _ hs1 hfo
  refine rO 7 Z (zC jy Z Z ?_)
  refine oO 1 Z (zH 5 dP Z Z Z hc1 ?_)
  refine oO 3 Z (yW 0 dK Z Z Z ?_)
  refine oO 1 Z (zK Z Z Z hcT cZ ?_)
  refine oR 17 Z (zN Z (fun h34=>?_) (fun h34=>?_))
  ·exact rR 3 Z (t0)
  refine rR 9 Z (zN Z (fun h36=>?_) (fun h36=>?_))
  ·exact rR 2 Z (t0)
  refine rR 8 Z (zN Z (fun h38=>?_) (fun h38=>?_))
  ·exact rR 1 Z (t0)
  exact(hT.elim h34 (fun h=>h.elim h36 h38)).elim
 intro m A ca xs L hW hm
 refine iH jy dP dc ?_ ?_
 ·exact t1 jy
 intro m A ca xs L hW hm
 refine rO 8 Z (zC Fi Z Z ?_)
 refine oO 1 Z (zH 1 fp Z Z Z hc4 ?_)
 refine oO 1 Z (yI jR Z Z ?_)
 refine oS 2 Z (vM (s:=77) Z hn4 ?_)
 refine oK 11 [4,3,0] Z Z (rO 8 Z ?_)
 refine zC Fj Z Z (oO 1 Z ?_)
 refine zH 1 fp Z Z Z hc5 (oO 1 Z ?_)
 refine yI jR Z Z (oS 2 Z ?_)
 refine vM (s:=99) Z hn5 (oK 11 [4,3,0] Z Z ?_)
 refine iH tK iL ue ?_ ?_
 ·exact tG tK iL @Pi
 intro m A ca xs L hW hm
 refine iH rX ln Db ?_ ?_
 ·exact tG rX ln @w7
 intro m A ca xs L hW hm
 refine iH kF dP dc ?_ ?_
 ·exact t1 kF
 intro m A ca xs L hW hm
 refine iH kC jw ud ?_ ?_
 ·intro p hc hp K hK h
  refine pC (q:=21) Z 2 Z hc hp h hU HF (fun fv x a hpa hgx hkw hr hL=>?_)
  subst hpa
  change FvRel _ 8 x fv at hr
  obtain rfl:=Dl hr
  refine BR 0 Z (fun p sl hp=>?_)
  cases hp
  refine rO 8 Z (zC kC Z Z ?_)
  refine oO 1 Z (zH 4 jw Z Z Z hc ?_)
  refine oO 3 Z (yW 0 dN Z Z Z ?_)
  refine oO 1 Z (zT Z Z Z (w8 hL Z) (cS 1 Z) (fun u D hv=>?_))
  obtain⟨z,hz,b1,rfl,rfl⟩:=hv
  have hq:Nm 21:=rfl
  refine oO 1 Z ?_
  refine wE 0 Z Z Z (od _ _ _ _ _ _ aE aC) Z cZ (fun u M D hv=>?_)
  obtain⟨A1,c1,b2,rfl,rfl,rfl⟩:=hv
  refine oR 3 Z (uO 5 0 1 Z Z Z ?_)
  exact kQ (hK _ _ _ _ _ (hW.add Z hkw hq.nmok.2.2.1 hq.nmok.2.2.2 hgx hz) bd) (eC Z (eC Z (eC Z (eN _)))) (hD:=(cl 0 Z sQ))
 intro m A ca xs L hW hm
 refine iH en iK nW ?_ ?_
 ·exact tG en iK @w6
 intro m A ca xs L hW hm
 refine iH fy eB kX ?_ ?_
 ·exact tG fy eB @w9
 intro m A ca xs L hW hm
 refine iH qX eB kX ?_ ?_
 ·exact tG qX eB @w9
 intro m A ca xs L hW hm
 refine iH f3 ta Dc ?_ ?_
 ·exact tG f3 ta @Pg
 intro m A ca xs L hW hm
 refine iH fP dP dc ?_ ?_
 ·exact t1 fP
 intro m A ca xs L hW hm
 refine iH mH jv pg ?_ ?_
 ·exact tG mH jv @w3
 intro m A ca xs L hW hm
 refine iH mI jv pg ?_ ?_
 ·exact tG mI jv @w3
 intro m A ca xs L hW hm
 refine iH mJ fp jR ?_ ?_
 ·exact t2 mJ
 intro m A ca xs L hW hm
 refine iH mK jv pg ?_ ?_
 ·exact tG mK jv @w3
 intro m A ca xs L hW hm
 refine iH jz fp jR ?_ ?_
 ·exact t2 jz
 intro m A ca xs L hW hm
 refine iH j0 eV fT ?_ ?_
 ·exact t4 j0
 intro m A ca xs L hW hm
 refine iH j3 eV fT ?_ ?_
 ·exact t4 j3
 intro m A ca xs L hW hm
 refine iH j4 dP dc ?_ ?_
 ·exact t1 j4
 intro m A ca xs L hW hm
 refine iH fx iK nW ?_ ?_
 ·exact tG fx iK @w6
 intro m A ca xs L hW hm
 refine iH j5 eV fT ?_ ?_
 ·exact t4 j5
 intro m A ca xs L hW hm
 refine iH j7 eV fT ?_ ?_
 ·exact t4 j7
 intro m A ca xs L hW hm
 refine iH j9 fp jR ?_ ?_
 ·exact t2 j9
 intro m A ca xs L hW hm
 refine iH kA eV fT ?_ ?_
 ·exact t4 kA
 intro m A ca xs L hW hm
 refine iH kB eV fT ?_ ?_
 ·exact t4 kB
 intro m A ca xs L hW hm
 refine iH kD Cw Hl ?_ ?_
 ·exact tG kD Cw @Ph
 intro m A ca xs L hW hm
 refine iH rY dm fU ?_ ?_
 ·exact NS rY
 intro m A ca xs L hW hm
 refine iH rZ dm fU ?_ ?_
 ·exact NS rZ
 intro m A ca xs L hW hm
 refine iH qY dm fU ?_ ?_
 ·exact NS qY
 intro m A ca xs L hW hm
 refine iH f6 dx iC ?_ ?_
 ·intro p hc hp K hK h
  refine pC (q:=31) Z 2 Z hc hp h hU HF (fun fv x a hpa hgx hkw hr hL=>?_)
  subst hpa
  change FvRel _ 5 x fv at hr
  obtain⟨q1,rfl,hbs⟩:=Ip hr
  refine vY (p:=(.pointer (some a):Value)=cW q1) (fun w ok h=>(dget h 0 Z:FvP w ok (.one q1) _)) (fun hq1=>?_)
  cases hq1
  refine rO 8 Z (zC f6 Z Z ?_)
  refine oO 1 Z (zH 2 dx Z Z Z hc ?_)
  refine oO 1 Z (zT Z Z Z (w5 hL hbs) (cl 4 Z (dC 5 6 Z Z)) (fun u D hv=>?_))
  obtain⟨z,hz,b1,rfl,rfl⟩:=hv
  have hq:Nm 31:=rfl
  refine oO 1 Z ?_
  refine wE 0 Z Z Z (od _ _ _ _ _ _ aE aC) Z cZ (fun u M D hv=>?_)
  obtain⟨A1,c1,b2,rfl,rfl,rfl⟩:=hv
  refine oR 3 Z (uO 3 0 1 Z Z Z ?_)
  exact kQ (hK _ _ _ _ _ (hW.add Z hkw hq.nmok.2.2.1 hq.nmok.2.2.2 hgx hz) bd) (eC Z (eC Z (eC Z (eN _)))) (hD:=(cl 0 Z sQ))
 intro m A ca xs L hW hm
 refine iH qZ eB kX ?_ ?_
 ·exact tG qZ eB @w9
 intro m A ca xs L hW hm
 refine gI 2 35 Z aE aE (fun p35 hc35 hp35=>?_)
 refine rO 8 Z (zC mx Z Z ?_)
 refine oO 1 Z (zH 1 dU Z Z Z hc35 ?_)
 refine oO 1 Z (yI uf Z Z ?_)
 refine oR 1 Z (xz Z ?_)
 refine iH kG dP dc ?_ ?_
 ·exact t1 kG
 intro m A ca xs L hW hm
 refine rO 9 Z (zC wS Z Z ?_)
 refine oO 1 Z (zF 1 (M':=[_,HA.blk _ [_,_,_,_,_,_,_,_,_,_,_,_] _]) Z Z Z Z zm Z Z Z ?_)
 refine oR 8 Z (sF 0 0 _ Z Z aG ?_)
 exact uN 0 0 Z Z aG aE aE (zE Tryz.results105 Z ⟨rfl,_,hW.out hU,b6,rfl,rfl⟩ nS (cS 0 Z))
end Go.Jw

namespace Go.Jw
open Go Go.RowKit Go.Proofs
theorem pD{v x:V}{key:ByteArray}(h:getV v key=some x): ∃j:Nat,v.keys[j]? =some key∧v.items[j]? =some x:=by
  unfold getV at h
  rcases eo v.keys key with hn|⟨j,hj,hlt⟩
  · rw [if_pos hn]at h;cases h
  · rw [hj,if_neg aC]at h
    simp only [Int.toNat_natCast]at h
    refine⟨j,?_,h⟩
    unfold dh at hj
    split at hj
    · rename_i hlt3
      have h4:=List.findIdx_getElem (w:=hlt3)
      have h5:v.keys.findIdx (fun x=>decide (x=key))=j:=by omega
      simp only [h5]at h4
      rw [List.getElem?_eq_getElem hlt]
      simpa using h4
    · omega
theorem Dm{sh:Int}{x z:V}(h:z∈kidsOf sh x):z=x∨z∈x.items:=by
 unfold kidsOf at h
 split at h
 ·simp at h;exact .inl h
 split at h
 ·split at h<;>simp at h
  exact .inl h
 split at h
 ·split at h
  ·simp at h;exact .inl h
  ·exact .inr (List.mem_filter.1 h).1
 split at h
 ·exact .inr (List.mem_filter.1 h).1
 ·simp at h
theorem NT(ft:DA)(mb:Nat)(G:Gr)(v:V):(F7 ft∨kW v)→Pl v→IsShape v→oe ft mb G v:=by
 refine V.indS (p:=fun v=>(F7 ft∨kW v)→Pl v→IsShape v→oe ft mb G v) (fun v IH hN hp hs=>?_) v
 have hfit:=((wQ v).1 hs).2
 refine LH ft mb G v (fun key x hx h0=>?_) (fun x hx=>?_)
 ·obtain⟨j,hj1,hj2⟩:=pD hx
  have hsh:=iS h0
  obtain⟨hf,hk,_⟩:=hfit j _ _ hj1 hj2
  have hpl:=hp.item _ (List.mem_of_getElem? hj2)
  have hnn:F7 ft∨(cM key≠3∧ ∀ z∈kidsOf (cM key) x,kW z):=hN.imp id fun h=>⟨((gG v).1 h j _ _ hj1 hj2).1,((gG v).1 h j _ _ hj1 hj2).2.2⟩
  rw [hsh]at hf hk hnn
  refine⟨hpl,hf,fun z hz=>?_,fun h3 h6=>?_⟩
  ·refine IH z (Nat.lt_of_le_of_lt (sO hz) (iN hj2)) (hnn.imp id fun h=>h.2 z hz) ?_ (hk z hz)
   rcases Dm hz with rfl|h
   ·exact hpl
   ·exact hpl.item _ h
  ·rcases hnn with h|h
   ·have:=hpl.num.num (.inr h6)
    exact h x.num this.1 this.2 (hpl.frac h6)
   ·exact absurd h3 h.1
 ·obtain⟨j,hj1,hj2⟩:=pD hx
  exact(hfit j _ _ hj1 hj2).2.2 Z
def rl(s:ByteArray):List UInt8:=s.data.toList
theorem rQ(s:ByteArray):s.toList=rl s:=ByteArray.toList_eq s
theorem x2{a b:ByteArray}(h:rl a=rl b):a=b:=by
 cases a;cases b
 simp only [rl]at h
 rw [Array.toList_inj.1 h]
theorem lM(a b:ByteArray):rl (a++b)=rl a++rl b:=by simp [rl]
def jN{α:Type}(l:List (ByteArray×α)):List (ByteArray×α):=l.mergeSort (fun a b=>decide (rl a.1≤rl b.1))
theorem gJ{α:Type}(l:List (ByteArray×α)):(jN l).Perm l:=List.mergeSort_perm _ _
theorem uk{α:Type}(l:List (ByteArray×α)):(jN l).Pairwise (fun a b=>rl a.1≤rl b.1):=by
 have:=List.pairwise_mergeSort (le:=fun(a b:ByteArray×α)=>decide (rl a.1≤rl b.1)) (fun a b c h1 h2=>decide_eq_true (List.le_trans (of_decide_eq_true h1) (of_decide_eq_true h2))) (fun a b=>by
  rcases List.le_total (rl a.1) (rl b.1)with h|h<;>simp [h]) l
 exact this.imp fun h=>of_decide_eq_true h
theorem GC{α:Type}{l:List (ByteArray×α)}(hn:(l.map Prod.fst).Nodup){a b:ByteArray×α}(ha:a∈l)(hb:b∈l)(h:a.1=b.1):a=b:=by
  induction l with
  |nil=>cases ha
  |cons x l ih=>
    rw [List.map_cons,List.nodup_cons]at hn
    rcases List.mem_cons.1 ha with h1|h1<;>rcases List.mem_cons.1 hb with h2|h2
    · rw [h1,h2]
    · exact absurd (List.mem_map.2 ⟨b,h2,by rw [←h,h1]⟩) hn.1
    · exact absurd (List.mem_map.2 ⟨a,h1,by rw [h,h2]⟩) hn.1
    · exact ih hn.2 h1 h2
theorem mQ{α:Type}{l l':List (ByteArray×α)}(hp:l'.Perm l)(hs:l'.Pairwise (fun a b=>rl a.1≤rl b.1))(hn:(l.map Prod.fst).Nodup):jN l=l':=
 List.Perm.eq_of_pairwise (le:=fun(a b:ByteArray×α)=>rl a.1≤rl b.1) (fun a b ha hb h1 h2=>GC hn ((gJ l).mem_iff.1 ha) (hp.mem_iff.1 hb) (x2 (List.le_antisymm h1 h2))) (uk l) hs ((gJ l).trans hp.symm)
theorem pi{ks:List ByteArray}(h:di ks):ks.Pairwise (fun a b=>rl a<rl b):=by
  have step: ∀ j (hj:j+1<ks.length),rl ks[j]<rl ks[j+1]:=by
    intro j hj
    have hs:=(h (j+1) hj).2 aC
    have h4: ¬ (rl ks[j+1]<rl ks[j]):=by
      have:=hs.1
      rw [fS,rQ,rQ]at this
      simpa using this
    refine Classical.byContradiction fun hc=>hs.2 (x2 (List.le_antisymm (List.not_lt.1 hc) (List.not_lt.1 h4)))
  rw [List.pairwise_iff_getElem]
  intro i j hi hj hij
  induction j with
  |zero=>omega
  |succ j ih=>
    rcases Nat.lt_or_eq_of_le (Nat.le_of_lt_succ hij)with h6|h6
    · exact List.lt_trans (ih aC h6) (step j hj)
    · subst h6;exact step i hj
theorem nY{ks:List ByteArray}(h:ks.Pairwise (fun a b=>rl a<rl b)):ks.Nodup:=h.imp fun hlt he=>by subst he;exact List.lt_irrefl _ hlt
theorem gg{α:Type}{ks:List ByteArray}{ts:List α}(h:ks.Pairwise (fun a b=>rl a<rl b)):(ks.zip ts).Pairwise (fun a b=>rl a.1<rl b.1):=by
  induction ks generalizing ts with
  |nil=>simp
  |cons k ks ih=>
    cases ts with
    |nil=>simp
    |cons t ts=>
      rw [List.pairwise_cons]at h
      rw [List.zip_cons_cons,List.pairwise_cons]
      exact⟨fun p hp=>h.1 _ (List.of_mem_zip hp).1,ih h.2⟩
theorem x3{α:Type}{l:List (ByteArray×α)}(h:l.Pairwise (fun a b=>rl a.1<rl b.1)):(l.map Prod.fst).Nodup:=by
 rw [List.nodup_iff_pairwise_ne,List.pairwise_map]
 exact h.imp fun hlt he=>by rw [he]at hlt;exact List.lt_irrefl _ hlt
theorem Dn{α:Type}{l:List (ByteArray×α)}(h:l.Pairwise (fun a b=>rl a.1<rl b.1)):l.Pairwise (fun a b=>rl a.1≤rl b.1):=h.imp fun hlt=>List.le_of_lt hlt
noncomputable def cz:V→V:=V.fix (α:=V) (fun t f=>if t.kind=5 then .mk 5 t.num t.text ((jN (t.keys.zip (t.items.map f))).map Prod.fst) ((jN (t.keys.zip (t.items.map f))).map Prod.snd)else .mk t.kind t.num t.text t.keys (t.items.map f))
theorem kY(t:V):cz t=if t.kind=5 then .mk 5 t.num t.text ((jN (t.keys.zip (t.items.map cz))).map Prod.fst) ((jN (t.keys.zip (t.items.map cz))).map Prod.snd)else .mk t.kind t.num t.text t.keys (t.items.map cz):=
 V.fix_eq (α:=V) (G:=fun t f=>if t.kind=5 then .mk 5 t.num t.text ((jN (t.keys.zip (t.items.map f))).map Prod.fst) ((jN (t.keys.zip (t.items.map f))).map Prod.snd)else .mk t.kind t.num t.text t.keys (t.items.map f)) (fun t g g' h=>by
  have:t.items.map g=t.items.map g':=List.map_congr_left fun x hx=>h x (xB hx)
  simp only [this]) t
theorem kZ{n:Int}{s:ByteArray}{ks:List ByteArray}{ts:List V}{l:List (ByteArray×V)}(h:jN (ks.zip (ts.map cz))=l):cz (.mk 5 n s ks ts)= .mk 5 n s (l.map Prod.fst) (l.map Prod.snd):=by
 rw [kY]
 simp only [V.kind,V.num,V.text,V.keys,V.items,if_true,h]
theorem mR{q n:Int}{s:ByteArray}{ks:List ByteArray}{ts:List V}(h:q≠5):cz (.mk q n s ks ts)= .mk q n s ks (ts.map cz):=by
 rw [kY]
 simp only [V.kind,V.num,V.text,V.keys,V.items]
 exact if_neg h
noncomputable def dW:V→Y:=V.fix (α:=Y) (fun t f=>if t.kind=1 then cc eJ (tu (decide (t.num=1)))else if t.kind=2 then cc jX (dj t.num)else if t.kind=6 then cc d3 (dl t.num)else if t.kind=3 then cc dV t.text
  else if t.kind=4 then dG 2 (t.items.map f)else if t.kind=5 then dG 4 ((t.keys.zip (t.items.map f)).flatMap eM)else cc nH nI)
theorem pL(t:V):dW t=if t.kind=1 then cc eJ (tu (decide (t.num=1)))else if t.kind=2 then cc jX (dj t.num)else if t.kind=6 then cc d3 (dl t.num)else if t.kind=3 then cc dV t.text
  else if t.kind=4 then dG 2 (t.items.map dW)else if t.kind=5 then dG 4 ((t.keys.zip (t.items.map dW)).flatMap eM)else cc nH nI:=
 V.fix_eq (G:=fun t f=>if t.kind=1 then cc eJ (tu (decide (t.num=1)))else if t.kind=2 then cc jX (dj t.num)else if t.kind=6 then cc d3 (dl t.num)else if t.kind=3 then cc dV t.text
  else if t.kind=4 then dG 2 (t.items.map f)else if t.kind=5 then dG 4 ((t.keys.zip (t.items.map f)).flatMap eM)else cc nH nI) (fun t g g' h=>by
  have:t.items.map g=t.items.map g':=List.map_congr_left fun x hx=>h x (xB hx)
  simp only [this]) t
def lN(key:ByteArray):Bool:=eD key && !gZ key
noncomputable def wr:V→V:=V.fix (α:=V) (fun t g=>dD 5 0 ⟨#[]⟩ lN (fun k v=>cQ (cM k) g v) t)
theorem AB(t:V):wr t=dD 5 0 ⟨#[]⟩ lN (fun k v=>cQ (cM k) wr v) t:=
 V.fix_eq (G:=fun t g=>dD 5 0 ⟨#[]⟩ lN (fun k v=>cQ (cM k) g v) t) (fun t g g' h=>qR fun k v hv=>pB fun x hx=>h x (Nat.lt_of_le_of_lt hx (xB hv))) t
theorem GD(t:V):(wr t).kind=5:=by rw [AB];rfl
theorem rT(t:V):(cO t).kind=5:=by rw [rD];rfl
theorem iY{k m k' m':Int}{s s':ByteArray}{q q':ByteArray→Bool}{f f':ByteArray→V→V}{t:V}:dD k m s q f (dD k' m' s' q' f' t)=dD k m s (fun x=>q' x && q x) (fun x v=>f x (f' x v)) t:=by
  obtain⟨tk,tn,ts,ks,its⟩:=t
  unfold dD
  simp only [V.keys,V.items]
  have hz:(((ks.zip its).filter (fun p=>q' p.1)).map (·.1)).zip (((ks.zip its).filter (fun p=>q' p.1)).map (fun p=>f' p.1 p.2))=((ks.zip its).filter (fun p=>q' p.1)).map (fun p=>(p.1,f' p.1 p.2)):=by
    rw [List.zip_map,]
    generalize (ks.zip its).filter (fun p=>q' p.1)=l
    induction l with
    |nil=>rfl
    |cons a l ih=>simp [ih]
  rw [hz]
  have hf:(((ks.zip its).filter (fun p=>q' p.1)).map (fun p=>(p.1,f' p.1 p.2))).filter (fun p=>q p.1)=((ks.zip its).filter (fun p=>q' p.1 && q p.1)).map (fun p=>(p.1,f' p.1 p.2)):=by
    rw [List.filter_map,List.filter_filter]
    congr 1
    apply List.filter_congr
    intro p hp
    simp [Function.comp,Bool.and_comm]
  rw [hf,List.map_map,List.map_map]
  rfl
theorem pj{sh:Int}{b g:V→V}{x:V}(hk: ∀ y,(g y).kind=5):cQ sh b (cQ sh g x)=cQ sh (fun y=>if y.kind=5 then b (g y)else if sh=5 then b (g y)else b y) x:=by
 have hm: ∀ y,cp b (cp g y)=cp (fun y=>if y.kind=5 then b (g y)else if sh=5 then b (g y)else b y) y:=by
  intro y
  by_cases h:y.kind=5
  ·rw [xV h,xV (hk y),xV h,if_pos h]
  ·rw [uH h,uH h,uH h]
 have ha:ce b (ce g x)=ce (fun y=>if y.kind=5 then b (g y)else if sh=5 then b (g y)else b y) x:=by
  unfold ce
  simp only [V.kind,V.keys,V.items,List.map_map]
  congr 1
  exact List.map_congr_left fun y _=>hm y
 unfold cQ
 by_cases h5:sh=5
 ·simp [h5]
 by_cases h6:sh=6
 ·by_cases hx:x.kind=5<;>simp [h6,hx,hk]
 by_cases h7:sh=7
 ·by_cases hx:x.kind=5
  ·simp [h7,hx,hk]
  ·have hkk: ¬ (ce g x).kind=5:=hx
   subst h7
   simp only [hx,if_false,if_neg hkk,show ¬ ((7:Int)=5)from by decide,show ¬ ((7:Int)=6)from by decide,if_true]at ha⊢
   exact ha
 by_cases h9:sh=9∨sh=13
 ·simp only [if_neg h5,if_neg h6,if_neg h7,if_pos h9]at ha⊢
  exact ha
 ·simp only [if_neg h5,if_neg h6,if_neg h7,if_neg h9]
theorem GE(v:V):eI (wr v)=eI (cO v):=by
 refine V.indS (p:=fun v=>eI (wr v)=eI (cO v)) (fun v IH=>?_) v
 rw [AB,rD,nE,nE,iY,iY]
 have h1: ∀ x∈v.items,∀ k,cQ (cM k) eI (cQ (cM k) wr x)=cQ (cM k) eI (cQ (cM k) cO x):=by
  intro x hx k
  rw [pj GD,pj rT]
  refine pB fun y hy=>?_
  have hlt:=Nat.lt_of_le_of_lt hy (xB hx)
  rw [IH y hlt]
 have h2:(fun x=>lN x && !gZ x)=(fun x=>eD x && !gZ x):=by
  funext x
  unfold lN
  cases eD x<;>cases gZ x<;>rfl
 rw [h2]
 exact qR fun k x hx=>h1 x hx k
theorem gh{x:V}(hp:Pl x)(h4:x.kind≠4)(h5:x.kind≠5):dR x.kind x.num x.text x.keys x.items:=by
 obtain⟨d,h⟩:=hp
 obtain⟨q,m,s,ks,ts⟩:=x
 exact(xR h4 h5).1 h
theorem AC{x:V}(hp:Pl x)(h:x.kind=4∨x.kind=5):eK x.kind x.num x.text x.keys x.items:=by
  obtain⟨d,hd⟩:=hp
  obtain⟨q,m,s,ks,ts⟩:=x
  cases d with
  |zero=>exact absurd hd (uY h)
  |succ d=>exact((wX h).1 hd).1
theorem gK{x:V}(hp:Pl x)(h:x.kind=3):x= .mk 3 0 x.text [] []:=by
 have:=gh hp aC aC
 obtain⟨q,m,s,ks,ts⟩:=x
 simp only [V.kind]at h
 subst h
 simp [dR,V.kind,V.num,V.text,V.keys,V.items]at this
 obtain⟨h1,h2,h3,_⟩:=this
 subst h1;subst h2;subst h3;rfl
theorem jC{x:V}(hp:Pl x)(h:x.kind=1):x= .mk 1 x.num ⟨#[]⟩ [] []∧(x.num=0∨x.num=1):=by
 have:=gh hp aC aC
 obtain⟨q,m,s,ks,ts⟩:=x
 simp only [V.kind]at h
 subst h
 simp [dR,V.kind,V.num,V.text,V.keys,V.items]at this
 obtain⟨h1,h2,h3,h4⟩:=this
 subst h1;subst h2;subst h4;exact⟨rfl,h3⟩
theorem nZ{x:V}(hp:Pl x)(h:x.kind=2):x= .mk 2 x.num ⟨#[]⟩ [] []:=by
 have:=gh hp aC aC
 obtain⟨q,m,s,ks,ts⟩:=x
 simp only [V.kind]at h
 subst h
 simp [dR,V.kind,V.num,V.text,V.keys,V.items]at this
 obtain⟨h1,h2,h3,h4,h5⟩:=this
 subst h1;subst h2;subst h5;rfl
theorem Do{x:V}(hp:Pl x)(h:x.kind=6):x= .mk 6 x.num ⟨#[]⟩ [] []:=by
 have:=gh hp aC aC
 obtain⟨q,m,s,ks,ts⟩:=x
 simp only [V.kind]at h
 subst h
 simp [dR,V.kind,V.num,V.text,V.keys,V.items]at this
 obtain⟨h1,h2,h3,h4,h5,h6⟩:=this
 subst h1;subst h2;subst h6;rfl
theorem rp{x:V}(hp:Pl x)(h:x.kind=4):x= .mk 4 0 ⟨#[]⟩ [] x.items:=by
 have:=AC hp (.inl h)
 obtain⟨q,m,s,ks,ts⟩:=x
 simp only [V.kind]at h
 subst h
 simp [eK,V.kind,V.num,V.text,V.keys,V.items]at this
 obtain⟨h1,h2,h3⟩:=this
 subst h1;subst h2;subst h3;rfl
theorem qE{x:V}(hp:Pl x)(h:x.kind=5):x= .mk 5 0 ⟨#[]⟩ x.keys x.items∧x.keys.length=x.items.length∧x.keys.Pairwise (fun a b=>rl a<rl b):=by
 have:=AC hp (.inr h)
 obtain⟨q,m,s,ks,ts⟩:=x
 simp only [V.kind]at h
 subst h
 simp [eK,V.kind,V.num,V.text,V.keys,V.items]at this
 obtain⟨h1,h2,h3,h4⟩:=this
 subst h1;subst h2;exact⟨rfl,h3,pi h4⟩
inductive Eql:V→Prop where
  |mk {q m:Int} {s:ByteArray} {ks:List ByteArray} {ts:List V}:(q=5→ks.length=ts.length)→(∀ x∈ts,Eql x)→Eql (.mk q m s ks ts)
theorem Eql.of_wf(x:V):Wf x→Eql x:=by
 refine V.indS (p:=fun x=>Wf x→Eql x) (fun x IH h=>?_) x
 obtain⟨q,m,s,ks,ts⟩:=x
 exact .mk (fun hq=>h.eq hq) fun y hy=>IH y (xB hy) (h.item y hy)
theorem Eql.item{x:V}(h:Eql x): ∀ y∈x.items,Eql y:=by cases h;assumption
theorem Eql.len{x:V}(h:Eql x):x.kind=5→x.keys.length=x.items.length:=by cases h;assumption
theorem x4{ks:List ByteArray}{α:Type}{ts:List α}(h:ks.Pairwise (fun a b=>rl a<rl b)):jN (ks.zip ts)=ks.zip ts:=mQ (.refl _) (Dn (gg h)) (x3 (gg h))
theorem vR{α β:Type}{l:List α}{l':List β}(h:l.length≤l'.length):(l.zip l').map Prod.fst=l:=List.map_fst_zip h
theorem uZ{α β:Type}{l:List α}{l':List β}(h:l'.length≤l.length):(l.zip l').map Prod.snd=l':=List.map_snd_zip h
theorem lO(x:V):Pl x→cz x=x:=by
 refine V.indS (p:=fun x=>Pl x→cz x=x) (fun x IH hp=>?_) x
 have hit:x.items.map cz=x.items:=by
  conv=>rhs;rw [←List.map_id x.items]
  exact List.map_congr_left fun y hy=>IH y (xB hy) (hp.item y hy)
 rw [kY,hit]
 by_cases h:x.kind=5
 ·obtain⟨he,hl,hs⟩:=qE hp h
  rw [if_pos h,x4 hs,vR aC,uZ aC]
  refine V.ext (by simp only [V.kind];exact h.symm) Z Z Z Z
 ·rw [if_neg h]
  exact V.ext Z Z Z Z Z
theorem fW{α β:Type}{R:α→β→Prop}: ∀ {l:List α},(∀ a∈l,∃b,R a b)→ ∃l',All2 R l l'
  |[],_=>⟨[],All2.nil R⟩
  |a::l,h=>by
    obtain⟨b,hb⟩:=h a List.mem_cons_self
    obtain⟨l',hl'⟩:=fW (l:=l) fun a ha=>h a (List.mem_cons_of_mem _ ha)
    refine⟨b::l',by simp [hl'.1],fun i x y hx hy=>?_⟩
    cases i with
    |zero=>simp at hx hy;subst hx;subst hy;exact hb
    |succ i=>exact hl'.2 i x y (by simpa using hx) (by simpa using hy)
theorem All2.map_eq{α β γ:Type}{R:α→β→Prop}{f:α→γ}{g:β→γ}{l:List α}{l':List β}(h:All2 R l l')(he: ∀ a b,a∈l→b∈l'→R a b→f a=g b):l.map f=l'.map g:=by
  apply List.ext_getElem?
  intro i
  rw [List.getElem?_map,List.getElem?_map]
  cases ha:l[i]? with
  |none=>
    have:l'[i]? =none:=by rw [List.getElem?_eq_none_iff]at ha⊢;rw [←h.1];exact ha
    rw [this];rfl
  |some a=>
    have hlt:=(List.getElem?_eq_some_iff.1 ha).1
    have hb:l'[i]? =some (l'[i]'(by rw [←h.1];exact hlt)):=List.getElem?_eq_getElem _
    rw [hb]
    simp only [Option.map_some]
    rw [he a _ (List.mem_of_getElem? ha) (List.mem_of_getElem? hb) (h.2 i _ _ ha hb)]
theorem ja{α β:Type}{R:α→β→Prop}{p:β→Prop}{l:List α}{l':List β}(h:All2 R l l')(hp: ∀ a b,R a b→p b): ∀ b∈l',p b:=by
 intro b hb
 obtain⟨i,hi,rfl⟩:=List.getElem_of_mem hb
 exact hp _ _ (h.2 i _ _ (List.getElem?_eq_getElem (by rw [h.1];exact hi)) (List.getElem?_eq_getElem hi))
theorem na{α β γ:Type}(l:List α)(f:α→β)(g:α→γ):(l.map f).zip (l.map g)=l.map fun a=>(f a,g a):=by
  induction l with
  |nil=>rfl
  |cons a l ih=>simp [ih]
theorem gL(s:ByteArray):dW (.mk 3 0 s [] [])=cc dV s:=by rw [pL];simp [V.kind,V.text]
theorem jD(n:Int):dW (.mk 1 n ⟨#[]⟩ [] [])=cc eJ (tu (decide (n=1))):=by rw [pL];exact if_pos rfl
theorem nc(n:Int):dW (.mk 2 n ⟨#[]⟩ [] [])=cc jX (dj n):=by rw [pL];simp [V.kind,V.num]
theorem Dp(n:Int):dW (.mk 6 n ⟨#[]⟩ [] [])=cc d3 (dl n):=by rw [pL];simp [V.kind,V.num]
theorem x5(ts:List V):dW (.mk 4 0 ⟨#[]⟩ [] ts)=dG 2 (ts.map dW):=by rw [pL];simp [V.kind,V.items]
theorem rr(ks:List ByteArray)(ts:List V):dW (.mk 5 0 ⟨#[]⟩ ks ts)=dG 4 ((ks.zip (ts.map dW)).flatMap eM):=by rw [pL];simp [V.kind,V.keys,V.items]
theorem pk{x:V}(h:x.kind=4):dW x=dG 2 (x.items.map dW):=by rw [pL];simp [h]
theorem nf{ts:List V}(hp: ∀ x∈ts,Pl x)(h3: ∀ x∈ts,x.kind=3):ts.map dW=(ts.map V.text).map (cc dV):=by
 rw [List.map_map]
 refine List.map_congr_left fun x hx=>?_
 rw [gK (hp x hx) (h3 x hx),gL]
 rfl
theorem ke{ps:List (ByteArray×V)}{ws:List V}{x:V}{g:V→V}(hx:x.keys.Pairwise (fun a b=>rl a<rl b))(hl:x.keys.length=x.items.length)(hp:ps.Perm (x.keys.zip x.items))(h:All2 (fun w p=>cz w=g p.2) ws ps):cz (.mk 5 0 ⟨#[]⟩ (ps.map Prod.fst) ws)= .mk 5 0 ⟨#[]⟩ x.keys (x.items.map g):=by
 have e1:ws.map cz=ps.map (fun p=>g p.2):=h.map_eq fun w p _ _ hr=>hr
 have e2:(ps.map Prod.fst).zip (ws.map cz)=ps.map fun p=>(p.1,g p.2):=by rw [e1,na]
 have e3:x.keys.zip (x.items.map g)=(x.keys.zip x.items).map fun p=>(p.1,g p.2):=by
  rw [List.zip_map_right];rfl
 have hs:jN ((ps.map Prod.fst).zip (ws.map cz))=x.keys.zip (x.items.map g):=by
  refine mQ ?_ (Dn (gg hx)) ?_
  ·rw [e2,e3];exact(hp.map _).symm
  ·rw [e2,List.map_map]
   have:(ps.map (Prod.fst∘fun p:ByteArray×V=>(p.1,g p.2)))=ps.map Prod.fst:=List.map_congr_left fun _ _=>rfl
   rw [this]
   have hn:((x.keys.zip x.items).map Prod.fst).Nodup:=x3 (gg hx)
   exact(hp.map Prod.fst).nodup_iff.2 hn
 rw [kZ hs,vR cI,uZ cI]
theorem ly{g:V→V}{ts:List V}(h5: ∀ x∈ts,x.kind=5):ts.map (cp g)=ts.map g:=List.map_congr_left fun x hx=>xV (h5 x hx)
theorem lP{sh:Int}{g:V→V}{x:V}(h:sh≠5∧sh≠6∧sh≠7∧sh≠9∧sh≠13):cQ sh g x=x:=by
 unfold cQ
 simp [h.1,h.2.1,h.2.2.1,h.2.2.2.1,h.2.2.2.2]
theorem GF{sh:Int}{x:V}{z:Y}(hp:Pl x)(hf:cT sh x)(IH: ∀ y,y=x∨y∈x.items→y∈kidsOf sh x→ ∀ z,eE y z→ ∃w,z=dW w∧cz w=wr y∧Eql w)(hi:ItemR eE sh x z): ∃w,z=dW w∧cz w=cQ sh wr x∧Eql w:=by
  have self: ∀ (h:sh≠5∧sh≠6∧sh≠7∧sh≠9∧sh≠13) (z:Y),z=dW x→ ∃w,z=dW w∧cz w=cQ sh wr x∧Eql w:=fun h z hz=>⟨x,hz,by rw [lP h,lO x hp], .of_wf x hp.wf⟩
  have texts:x.kind=4→(∀ y∈x.items,y.kind=3)→dW x=dG 2 ((x.items.map V.text).map (cc dV)):=fun h4 h3=>by
    rw [pk h4,nf hp.item h3]
  have lst: ∀ (zs:List Y),(∀ y∈x.items,y.kind=5∧y∈kidsOf sh x)→x.kind=4→All2 (fun z x=>eE x z) zs x.items→ ∃w,dG 2 zs=dW w∧cz w=ce wr x∧Eql w:=by
    intro zs hk h4 hz
    have h2: ∀ p∈zs.zip x.items,∃w,p.1=dW w∧cz w=wr p.2∧Eql w:=fun p hpm=>by
      obtain⟨i,hi,rfl⟩:=List.getElem_of_mem hpm
      simp only [List.length_zip]at hi
      have hlt:i<x.items.length:=by omega
      rw [List.getElem_zip]
      exact IH x.items[i] (.inr (List.getElem_mem hlt)) (hk _ (List.getElem_mem hlt)).2 _ (hz.2 i _ _ (List.getElem?_eq_getElem aC) (List.getElem?_eq_getElem hlt))
    obtain⟨ws,hws⟩:=fW h2
    refine⟨.mk 4 0 ⟨#[]⟩ [] ws,?_,?_, .mk (fun h=>absurd h aE) (ja hws fun p w h=>h.2.2)⟩
    · rw [x5]
      congr 1
      have:=hws.map_eq (f:=Prod.fst) (g:=dW) fun p w _ _ h=>h.1
      rw [vR (by rw [hz.1];exact Nat.le_refl _)]at this
      exact this
    · rw [mR aE]
      have:=hws.map_eq (f:=fun p=>wr p.2) (g:=cz) fun p w _ _ h=>h.2.1.symm
      have e:(zs.zip x.items).map (fun p=>wr p.2)=x.items.map wr:=by
        have:=congrArg (List.map wr) (uZ (l:=zs) (l':=x.items) (by rw [hz.1];exact Nat.le_refl _))
        rw [List.map_map]at this
        exact this
      unfold ce
      rw [←this,e,ly fun y hy=>(hk y hy).1,rp hp h4]
      rfl
  unfold ItemR at hi
  rcases hi with ⟨rfl,rfl⟩|⟨rfl,rfl⟩|⟨rfl,hk,rfl⟩|⟨rfl,hk,rfl⟩|⟨rfl,rfl⟩|⟨rfl,hr⟩|⟨rfl,hk,rfl⟩|⟨rfl,hk,hr⟩|⟨rfl,hk,hr⟩|⟨rfl,hk,zs,rfl,hz⟩|⟨rfl,rfl⟩|⟨rfl,ps,L,rfl,hpm,hz⟩|⟨rfl,ps,hpm,rfl⟩|⟨rfl,rfl⟩|⟨rfl,hk,rfl⟩|⟨rfl,hk,rfl⟩|⟨rfl,zs,rfl,hz⟩
  · have hk:x.kind=3:=by simpa [cT]using hf
    refine self aE _ ?_
    conv=>rhs;rw [gK hp hk,gL]
  · have hk:x.kind=1:=by simpa [cT]using hf
    refine self aE _ ?_
    conv=>rhs;rw [(jC hp hk).1,jD]
  · refine self aE _ ?_
    conv=>rhs;rw [nZ hp hk,nc]
  · refine self aE _ ?_
    conv=>rhs;rw [Do hp hk,Dp]
  · have hk:x.kind=2:=by
                               have:x.kind=2∧0≤x.num:=by simpa [cT]using hf
                               exact this.1
    refine self aE _ ?_
    conv=>rhs;rw [nZ hp hk,nc]
  · obtain⟨w,h1,h2,h3⟩:=IH x (.inl rfl) cG z hr
    exact⟨w,h1,by rw [h2];simp [cQ],h3⟩
  · refine⟨x,?_,?_, .of_wf x hp.wf⟩
    · conv=>rhs;rw [(jC hp hk).1,jD]
    · rw [lO x hp];simp [cQ,hk]
  · obtain⟨w,h1,h2,h3⟩:=IH x (.inl rfl) bi z hr
    exact⟨w,h1,by rw [h2];simp [cQ,hk],h3⟩
  · obtain⟨w,h1,h2,h3⟩:=IH x (.inl rfl) bj z hr
    exact⟨w,h1,by rw [h2];simp [cQ,hk],h3⟩
  · have h5: ∀ y∈x.items,y.kind=5:=by
      simp [cT,hk]at hf
      exact hf
    obtain⟨w,h1,h2,h3⟩:=lst zs (fun y hy=>⟨h5 y hy,by rw [gf hk h5];exact hy⟩) hk hz
    exact⟨w,h1,by rw [h2];simp [cQ,hk],h3⟩
  · have h:x.kind=4∧ ∀ y∈x.items,y.kind=3:=by simpa [cT]using hf
    exact self aE _ (texts h.1 h.2).symm
  · have h:x.kind=5∧ ∀ y∈x.items,y.kind=5:=by simpa [cT]using hf
    obtain⟨he,hl,hs⟩:=qE hp h.1
    have h2: ∀ q∈L.zip ps,∃w,q.1.2=dW w∧cz w=wr q.2.2∧Eql w:=fun q hq=>by
      obtain⟨i,hi,rfl⟩:=List.getElem_of_mem hq
      simp only [List.length_zip]at hi
      have hlt:i<ps.length:=by omega
      rw [List.getElem_zip]
      have hm:=(List.of_mem_zip (hpm.mem_iff.1 (List.getElem_mem hlt))).2
      exact IH ps[i].2 (.inr hm) (by rw [kU h.2];exact hm) _ (hz.2 i _ _ (List.getElem?_eq_getElem aC) (List.getElem?_eq_getElem hlt)).2
    obtain⟨ws,hws⟩:=fW h2
    have hll:L.length=ps.length:=hz.1
    have e1:L.map Prod.fst=ps.map Prod.fst:=hz.map_eq fun a b _ _ h=>h.1
    have e2:L.map Prod.snd=ws.map dW:=by
      have:=hws.map_eq (f:=fun q=>q.1.2) (g:=dW) fun p w _ _ h=>h.1
      rw [←this]
      have:=congrArg (List.map Prod.snd) (vR (l:=L) (l':=ps) aC)
      rw [List.map_map]at this
      exact this.symm
    have e3:All2 (fun w p=>cz w=wr p.2) ws ps:=by
      refine⟨by have:=hws.1;rw [List.length_zip]at this;omega,fun i w p hw hpp=>?_⟩
      have hlt:=(List.getElem?_eq_some_iff.1 hpp).1
      have hq:(L.zip ps)[i]? =some (L[i]'aC,p):=by
        rw [List.getElem?_eq_getElem cI,List.getElem_zip]
        rw [List.getElem?_eq_getElem hlt]at hpp
        cases hpp
        rfl
      exact(hws.2 i _ w hq hw).2.1
    refine⟨.mk 5 0 ⟨#[]⟩ (ps.map Prod.fst) ws,?_,?_, .mk (fun _=>by rw [List.length_map];exact e3.1.symm) (ja hws fun p w h=>h.2.2)⟩
    · rw [rr,←e1,←e2]
      congr 2
      exact List.zip_of_prod Z Z
    · rw [ke hs hl hpm e3]
      simp only [cQ,ce,show ¬ ((9:Int)=5)from by decide,show ¬ ((9:Int)=6)from by decide,show ¬ ((9:Int)=7)from by decide,if_false,true_or,if_true]
      rw [ly h.2,h.1]
  · have h:x.kind=5∧ ∀ y∈x.items,y.kind=4∧ ∀ z∈y.items,z.kind=3:=by simpa [cT]using hf
    obtain⟨he,hl,hs⟩:=qE hp h.1
    refine⟨.mk 5 0 ⟨#[]⟩ (ps.map Prod.fst) (ps.map Prod.snd),?_,?_, .mk (fun _=>by simp) (fun y hy=>by
      obtain⟨p,hpp,rfl⟩:=List.mem_map.1 hy
      exact .of_wf _ (hp.item _ (List.of_mem_zip (hpm.mem_iff.1 hpp)).2).wf)⟩
    · rw [rr,List.map_map]
      congr 2
      rw [na]
      refine List.map_congr_left fun p hpp=>?_
      have hm:=(List.of_mem_zip (hpm.mem_iff.1 hpp)).2
      have hpl:=hp.item p.2 hm
      simp only [Function.comp]
      rw [rp hpl (h.2 p.2 hm).1,x5,nf hpl.item (h.2 p.2 hm).2]
      rfl
    · rw [lP aE,ke (g:=id) hs hl hpm,List.map_id]
      · exact he.symm
      · refine⟨by simp,fun i w p hw hpp=>?_⟩
        rw [List.getElem?_map,hpp]at hw
        cases hw
        exact lO _ (hp.item _ (List.of_mem_zip (hpm.mem_iff.1 (List.mem_of_getElem? hpp))).2)
  · have h:x.kind=4∧ ∀ y∈x.items,y.kind=3∨y.kind=1:=by simpa [cT]using hf
    refine self aE _ ?_
    rw [pk h.1]
    congr 1
    rw [List.map_map]
    refine List.map_congr_left fun y hy=>?_
    simp only [Function.comp]
    unfold DR
    rcases h.2 y hy with h1|h1
    · rw [if_pos h1,gK (hp.item y hy) h1,gL];rfl
    · rw [if_neg aC,(jC (hp.item y hy) h1).1,jD];rfl
  · refine self aE _ ?_
    conv=>rhs;rw [gK hp hk,gL]
  · have h:x.kind=3∨(x.kind=4∧ ∀ y∈x.items,y.kind=3):=by simpa [cT]using hf
    rcases h with h|h
    · omega
    · exact self aE _ (texts h.1 h.2).symm
  · have h:x.kind=4∧ ∀ y∈x.items,y.kind=5:=by simpa [cT]using hf
    obtain⟨w,h1,h2,h3⟩:=lst zs (fun y hy=>⟨h.2 y hy,by rw [eO h.2];exact hy⟩) h.1 hz
    exact⟨w,h1,by rw [h2];simp [cQ],h3⟩
def shKeys:List ByteArray:=[⟨#[36,115,99,104,101,109,97]⟩,⟨#[105,100]⟩,⟨#[36,114,101,102]⟩,⟨#[112,97,116,116,101,114,110]⟩,⟨#[116,105,116,108,101]⟩,⟨#[100,101,115,99,114,105,112,116,105,111,110]⟩,⟨#[102,111,114,109,97,116]⟩,⟨#[114,101,97,100,79,110,108,121]⟩,⟨#[119,114,105,116,101,79,110,108,121]⟩,⟨#[101,120,99,108,117,115,105,118,101,77,97,120,105,109,117,109]⟩,⟨#[101,120,99,108,117,115,105,118,101,77,105,110,105,109,117,109]⟩,⟨#[117,110,105,113,117,101,73,116,101,109,115]⟩,⟨#[109,117,108,116,105,112,108,101,79,102]⟩,⟨#[109,97,120,105,109,117,109]⟩,⟨#[109,105,110,105,109,117,109]⟩,⟨#[109,97,120,76,101,110,103,116,104]⟩,⟨#[109,105,110,76,101,110,103,116,104]⟩,⟨#[109,97,120,73,116,101,109,115]⟩,⟨#[109,105,110,73,116,101,109,115]⟩,⟨#[109,97,120,80,114,111,112,101,114,116,105,101,115]⟩,⟨#[109,105,110,80,114,111,112,101,114,116,105,101,115]⟩,⟨#[110,111,116]⟩,⟨#[97,100,100,105,116,105,111,110,97,108,73,116,101,109,115]⟩,⟨#[97,100,100,105,116,105,111,110,97,108,80,114,111,112,101,114,116,105,101,115]⟩,⟨#[105,116,101,109,115]⟩,⟨#[114,101,113,117,105,114,101,100]⟩,⟨#[112,114,111,112,101,114,116,105,101,115]⟩,⟨#[112,97,116,116,101,114,110,80,114,111,112,101,114,116,105,101,115]⟩,⟨#[100,101,102,105,110,105,116,105,111,110,115]⟩,⟨#[100,101,112,101,110,100,101,110,99,105,101,115]⟩,⟨#[101,110,117,109]⟩,⟨#[116,121,112,101]⟩,⟨#[97,108,108,79,102]⟩,⟨#[97,110,121,79,102]⟩,⟨#[111,110,101,79,102]⟩,⟨#[100,101,102,97,117,108,116]⟩]
theorem AD{key:ByteArray}(h:cM key≠0):key∈shKeys:=by
 unfold cM at h
 by_cases e0:key=⟨#[36,115,99,104,101,109,97]⟩
 ·exact List.mem_of_getElem? (l:=shKeys) (i:=0) (by rw [e0];rfl)
 rw [if_neg e0]at h
 by_cases e1:key=⟨#[105,100]⟩
 ·exact List.mem_of_getElem? (l:=shKeys) (i:=1) (by rw [e1];rfl)
 rw [if_neg e1]at h
 by_cases e2:key=⟨#[36,114,101,102]⟩
 ·exact List.mem_of_getElem? (l:=shKeys) (i:=2) (by rw [e2];rfl)
 rw [if_neg e2]at h
 by_cases e3:key=⟨#[112,97,116,116,101,114,110]⟩
 ·exact List.mem_of_getElem? (l:=shKeys) (i:=3) (by rw [e3];rfl)
 rw [if_neg e3]at h
 by_cases e4:key=⟨#[116,105,116,108,101]⟩
 ·exact List.mem_of_getElem? (l:=shKeys) (i:=4) (by rw [e4];rfl)
 rw [if_neg e4]at h
 by_cases e5:key=⟨#[100,101,115,99,114,105,112,116,105,111,110]⟩
 ·exact List.mem_of_getElem? (l:=shKeys) (i:=5) (by rw [e5];rfl)
 rw [if_neg e5]at h
 by_cases e6:key=⟨#[102,111,114,109,97,116]⟩
 ·exact List.mem_of_getElem? (l:=shKeys) (i:=6) (by rw [e6];rfl)
 rw [if_neg e6]at h
 by_cases e7:key=⟨#[114,101,97,100,79,110,108,121]⟩
 ·exact List.mem_of_getElem? (l:=shKeys) (i:=7) (by rw [e7];rfl)
 rw [if_neg e7]at h
 by_cases e8:key=⟨#[119,114,105,116,101,79,110,108,121]⟩
 ·exact List.mem_of_getElem? (l:=shKeys) (i:=8) (by rw [e8];rfl)
 rw [if_neg e8]at h
 by_cases e9:key=⟨#[101,120,99,108,117,115,105,118,101,77,97,120,105,109,117,109]⟩
 ·exact List.mem_of_getElem? (l:=shKeys) (i:=9) (by rw [e9];rfl)
 rw [if_neg e9]at h
 by_cases e10:key=⟨#[101,120,99,108,117,115,105,118,101,77,105,110,105,109,117,109]⟩
 ·exact List.mem_of_getElem? (l:=shKeys) (i:=10) (by rw [e10];rfl)
 rw [if_neg e10]at h
 by_cases e11:key=⟨#[117,110,105,113,117,101,73,116,101,109,115]⟩
 ·exact List.mem_of_getElem? (l:=shKeys) (i:=11) (by rw [e11];rfl)
 rw [if_neg e11]at h
 by_cases e12:key=⟨#[109,117,108,116,105,112,108,101,79,102]⟩
 ·exact List.mem_of_getElem? (l:=shKeys) (i:=12) (by rw [e12];rfl)
 rw [if_neg e12]at h
 by_cases e13:key=⟨#[109,97,120,105,109,117,109]⟩
 ·exact List.mem_of_getElem? (l:=shKeys) (i:=13) (by rw [e13];rfl)
 rw [if_neg e13]at h
 by_cases e14:key=⟨#[109,105,110,105,109,117,109]⟩
 ·exact List.mem_of_getElem? (l:=shKeys) (i:=14) (by rw [e14];rfl)
 rw [if_neg e14]at h
 by_cases e15:key=⟨#[109,97,120,76,101,110,103,116,104]⟩
 ·exact List.mem_of_getElem? (l:=shKeys) (i:=15) (by rw [e15];rfl)
 rw [if_neg e15]at h
 by_cases e16:key=⟨#[109,105,110,76,101,110,103,116,104]⟩
 ·exact List.mem_of_getElem? (l:=shKeys) (i:=16) (by rw [e16];rfl)
 rw [if_neg e16]at h
 by_cases e17:key=⟨#[109,97,120,73,116,101,109,115]⟩
 ·exact List.mem_of_getElem? (l:=shKeys) (i:=17) (by rw [e17];rfl)
 rw [if_neg e17]at h
 by_cases e18:key=⟨#[109,105,110,73,116,101,109,115]⟩
 ·exact List.mem_of_getElem? (l:=shKeys) (i:=18) (by rw [e18];rfl)
 rw [if_neg e18]at h
 by_cases e19:key=⟨#[109,97,120,80,114,111,112,101,114,116,105,101,115]⟩
 ·exact List.mem_of_getElem? (l:=shKeys) (i:=19) (by rw [e19];rfl)
 rw [if_neg e19]at h
 by_cases e20:key=⟨#[109,105,110,80,114,111,112,101,114,116,105,101,115]⟩
 ·exact List.mem_of_getElem? (l:=shKeys) (i:=20) (by rw [e20];rfl)
 rw [if_neg e20]at h
 by_cases e21:key=⟨#[110,111,116]⟩
 ·exact List.mem_of_getElem? (l:=shKeys) (i:=21) (by rw [e21];rfl)
 rw [if_neg e21]at h
 by_cases e22:key=⟨#[97,100,100,105,116,105,111,110,97,108,73,116,101,109,115]⟩
 ·exact List.mem_of_getElem? (l:=shKeys) (i:=22) (by rw [e22];rfl)
 rw [if_neg e22]at h
 by_cases e23:key=⟨#[97,100,100,105,116,105,111,110,97,108,80,114,111,112,101,114,116,105,101,115]⟩
 ·exact List.mem_of_getElem? (l:=shKeys) (i:=23) (by rw [e23];rfl)
 rw [if_neg e23]at h
 by_cases e24:key=⟨#[105,116,101,109,115]⟩
 ·exact List.mem_of_getElem? (l:=shKeys) (i:=24) (by rw [e24];rfl)
 rw [if_neg e24]at h
 by_cases e25:key=⟨#[114,101,113,117,105,114,101,100]⟩
 ·exact List.mem_of_getElem? (l:=shKeys) (i:=25) (by rw [e25];rfl)
 rw [if_neg e25]at h
 by_cases e26:key=⟨#[112,114,111,112,101,114,116,105,101,115]⟩
 ·exact List.mem_of_getElem? (l:=shKeys) (i:=26) (by rw [e26];rfl)
 rw [if_neg e26]at h
 by_cases e27:key=⟨#[112,97,116,116,101,114,110,80,114,111,112,101,114,116,105,101,115]⟩
 ·exact List.mem_of_getElem? (l:=shKeys) (i:=27) (by rw [e27];rfl)
 rw [if_neg e27]at h
 by_cases e28:key=⟨#[100,101,102,105,110,105,116,105,111,110,115]⟩
 ·exact List.mem_of_getElem? (l:=shKeys) (i:=28) (by rw [e28];rfl)
 rw [if_neg e28]at h
 by_cases e29:key=⟨#[100,101,112,101,110,100,101,110,99,105,101,115]⟩
 ·exact List.mem_of_getElem? (l:=shKeys) (i:=29) (by rw [e29];rfl)
 rw [if_neg e29]at h
 by_cases e30:key=⟨#[101,110,117,109]⟩
 ·exact List.mem_of_getElem? (l:=shKeys) (i:=30) (by rw [e30];rfl)
 rw [if_neg e30]at h
 by_cases e31:key=⟨#[116,121,112,101]⟩
 ·exact List.mem_of_getElem? (l:=shKeys) (i:=31) (by rw [e31];rfl)
 rw [if_neg e31]at h
 by_cases e32:key=⟨#[97,108,108,79,102]⟩
 ·exact List.mem_of_getElem? (l:=shKeys) (i:=32) (by rw [e32];rfl)
 rw [if_neg e32]at h
 by_cases e33:key=⟨#[97,110,121,79,102]⟩
 ·exact List.mem_of_getElem? (l:=shKeys) (i:=33) (by rw [e33];rfl)
 rw [if_neg e33]at h
 by_cases e34:key=⟨#[111,110,101,79,102]⟩
 ·exact List.mem_of_getElem? (l:=shKeys) (i:=34) (by rw [e34];rfl)
 rw [if_neg e34]at h
 by_cases e35:key=⟨#[100,101,102,97,117,108,116]⟩
 ·exact List.mem_of_getElem? (l:=shKeys) (i:=35) (by rw [e35];rfl)
 rw [if_neg e35]at h
 exact absurd Z h
theorem LI{key:ByteArray}(h0:kwIdx key=0):cM key=0∨gZ key=true:=by
  by_cases h:cM key=0
  · exact .inl h
  · have: ∀ k∈shKeys,kwIdx k=0→gZ k=true:=by decide+kernel
    exact .inr (this key (AD h) h0)
theorem isWr_kw{key:ByteArray}:lN key=true↔kwIdx key≠0∧kwIdx key≠35:=by
 by_cases h0:kwIdx key=0
 ·have hk:lN key=false:=by
   unfold lN eD
   rcases LI h0 with h|h<;>simp [h]
  rw [hk];simp [h0]
 ·have hk:=lI (key:=key) rfl h0
  have hm:=tr h0
  generalize hq:kwIdx key=q at*
  subst hk
  have: ∀ q∈List.range 37,kwIdx (lw q)=q→q≠0→(lN (lw q)=true↔q≠0∧q≠35):=by decide+kernel
  exact this q (List.mem_range.2 aC) hq h0
theorem gi{α β:Type}{f:α→β}{l:List α}(h:(l.map f).Nodup):l.Nodup:=by
 rw [List.nodup_iff_pairwise_ne,List.pairwise_map]at h
 rw [List.nodup_iff_pairwise_ne]
 exact h.imp fun h e=>h (congrArg f e)
theorem xD{v x:V}{key:ByteArray}(hp:Pl v)(hk:v.kind=5):(key,x)∈v.keys.zip v.items↔getV v key=some x:=by
 constructor
 ·intro h
  exact rn (back:=false) hp.wf hk (hp.keys hk) (p:=(key,x)) h
 ·intro h
  exact z0 (back:=false) hp.wf hk h
theorem Iq(v:V):Pl v→IsShape v→ ∀ y,eE v y→ ∃u,y=dW u∧cz u=wr v∧Eql u:=by
  refine V.indS (p:=fun v=>Pl v→IsShape v→ ∀ y,eE v y→ ∃u,y=dW u∧cz u=wr v∧Eql u) (fun v IH hp hs y ho=>?_) v
  obtain⟨L,rfl,hnd,hmem,hall⟩:=(uh v y).1 ho
  have hk5:=hs.kind
  have hfit:=((wQ v).1 hs).2
  obtain⟨he,hl,hsort⟩:=qE hp hk5
  have hit: ∀ p∈L,∃w,∃x,getV v p.1=some x∧p.2=dW w∧cz w=cQ (cM p.1) wr x∧Eql w:=by
    intro p hpm
    obtain⟨h0,h35,x,hx,hi⟩:=hmem p hpm
    obtain⟨j,hj1,hj2⟩:=pD hx
    obtain⟨hf,hkid,_⟩:=hfit j _ _ hj1 hj2
    have hxm:x∈v.items:=List.mem_of_getElem? hj2
    have hpl:=hp.item x hxm
    rw [←iS h0]at hi
    obtain⟨w,h1,h2,h3⟩:=GF hpl hf (fun y hy hyk z hz=>by
      refine IH y ?_ ?_ (hkid y hyk) z hz
      · exact Nat.lt_of_le_of_lt (sO hyk) (xB hxm)
      · rcases hy with rfl|hy
        · exact hpl
        · exact hpl.item y hy) hi
    exact⟨w,x,hx,h1,h2,h3⟩
  obtain⟨ws,hws⟩:=fW hit
  have hkeys:(L.map Prod.fst).Nodup:=by
    have:(L.map fun p=>kwIdx p.1)=(L.map Prod.fst).map kwIdx:=by rw [List.map_map];rfl
    rw [this]at hnd
    exact gi hnd
  refine⟨.mk 5 0 ⟨#[]⟩ (L.map Prod.fst) ws,?_,?_, .mk (fun _=>by rw [List.length_map];exact hws.1) (ja hws fun p w ⟨_,_,_,_,h⟩=>h)⟩
  · rw [rr]
    have:L.map Prod.snd=ws.map dW:=hws.map_eq fun p w _ _ ⟨x,_,h,_,_⟩=>h
    rw [←this]
    congr 2
    exact List.zip_of_prod Z Z
  · have hsrt:jN ((L.map Prod.fst).zip (ws.map cz))=((v.keys.zip v.items).filter (fun p=>lN p.1)).map (fun p=>(p.1,cQ (cM p.1) wr p.2)):=by
      have hzl:L.length=ws.length:=hws.1
      have hpw:(((v.keys.zip v.items).filter (fun p=>lN p.1)).map (fun p=>(p.1,cQ (cM p.1) wr p.2))).Pairwise (fun a b=>rl a.1<rl b.1):=by
        rw [List.pairwise_map]
        exact(gg hsort).sublist List.filter_sublist
      have hn1:(((L.map Prod.fst).zip (ws.map cz)).map Prod.fst).Nodup:=by
        rw [vR cI];exact hkeys
      refine mQ ?_ (Dn hpw) hn1
      refine(List.perm_ext_iff_of_nodup (gi (x3 hpw)) (gi hn1)).2 fun q=>?_
      constructor
      · intro hq
        obtain⟨p,hpm,rfl⟩:=List.mem_map.1 hq
        obtain⟨hz,hw⟩:=List.mem_filter.1 hpm
        have hx:=(xD hp hk5).1 (show(p.1,p.2)∈_ from hz)
        obtain⟨h0,h35⟩:=isWr_kw.1 hw
        obtain⟨r,hr,hre⟩:=hall p.1 p.2 hx h0 h35
        obtain⟨i,hi,rfl⟩:=List.getElem_of_mem hr
        obtain⟨x,hx',_,h2,_⟩:=hws.2 i _ _ (List.getElem?_eq_getElem hi) (List.getElem?_eq_getElem aC)
        rw [hre]at hx' h2
        rw [hx]at hx'
        cases hx'
        have:((L.map Prod.fst).zip (ws.map cz))[i]'cI=(p.1,cQ (cM p.1) wr p.2):=by
          rw [List.getElem_zip,List.getElem_map,List.getElem_map,hre,h2]
        rw [←this]
        exact List.getElem_mem _
      · intro hq
        obtain⟨i,hi,rfl⟩:=List.getElem_of_mem hq
        simp only [List.length_zip,List.length_map]at hi
        rw [List.getElem_zip,List.getElem_map,List.getElem_map]
        obtain⟨x,hx',_,h2,_⟩:=hws.2 i _ _ (List.getElem?_eq_getElem aC) (List.getElem?_eq_getElem aC)
        rw [h2]
        obtain⟨h0,h35,_⟩:=hmem L[i] (List.getElem_mem _)
        exact List.mem_map.2 ⟨(L[i].1,x),List.mem_filter.2 ⟨(xD hp hk5).2 hx',isWr_kw.2 ⟨h0,h35⟩⟩,rfl⟩
    rw [kZ hsrt,AB]
    unfold dD
    rw [List.map_map,List.map_map]
    rfl
end Go.Jw

namespace Go.Jw
open Go Go.RowKit Go.Proofs
set_option maxRecDepth 8000
def bs(l:List UInt8):ByteArray:=⟨l.toArray⟩
theorem Hr(s:ByteArray):s.size=(rl s).length:=rfl
instance:Inhabited (List UInt8→List UInt8):=⟨fun _=>[]⟩
def Dq:V:= .mk 0 0 ⟨#[]⟩ [] []
theorem gM(u:V):(cz u).kind=u.kind:=by
 rw [kY]
 split
 ·rename_i h;exact h.symm
 ·rfl
theorem ul{u x:V}(he:Eql u)(h:x∈u.items):cz x∈(cz u).items:=by
 rw [kY]
 split
 ·rename_i h5
  have hl:=he.len h5
  simp only [V.items]
  rw [((gJ _).map Prod.snd).mem_iff,uZ (by rw [List.length_map];exact Nat.le_of_eq hl.symm)]
  exact List.mem_map.2 ⟨x,h,rfl⟩
 ·exact List.mem_map.2 ⟨x,h,rfl⟩
theorem GG{u:V}(hp:Pl (cz u))(h4:u.kind≠4)(h5:u.kind≠5):Pl u∧cz u=u:=by
 have hs:=gh hp (by rw [gM];exact h4) (by rw [gM];exact h5)
 obtain⟨q,m,s,ks,ts⟩:=u
 simp only [V.kind]at h4 h5
 rw [mR h5]at hs hp⊢
 simp only [dR,V.kind,V.num,V.text,V.keys,V.items]at hs
 have:ts=[]:=by simpa using hs.2.1
 subst this
 exact⟨hp,rfl⟩
theorem NU{u:V}(hp:Pl (cz u))(he:Eql u)(h:u.kind=4):u= .mk 4 0 ⟨#[]⟩ [] u.items∧u.items.length≤60∧ ∀ x∈u.items,Pl (cz x)∧Eql x:=by
 have h1:=rp hp (by rw [gM];exact h)
 have h2:=hp.len
 have hit: ∀ x∈u.items,Pl (cz x)∧Eql x:=fun x hx=>⟨hp.item _ (ul he hx),he.item x hx⟩
 obtain⟨q,m,s,ks,ts⟩:=u
 simp only [V.kind]at h
 subst h
 rw [mR aE]at h1 h2
 simp only [V.items,List.length_map]at h1 h2
 injection h1 with _ a b c _
 subst a;subst b;subst c
 exact⟨rfl,h2,hit⟩
theorem NV{u:V}(hp:Pl (cz u))(he:Eql u)(h:u.kind=5):u= .mk 5 0 ⟨#[]⟩ u.keys u.items∧u.keys.length=u.items.length∧u.items.length≤60∧u.keys.Nodup∧(∀ k∈u.keys,du k∧k∈(cz u).keys)∧ ∀ x∈u.items,Pl (cz x)∧Eql x:=by
 have h0:=hp.keys (by rw [gM];exact h)
 obtain⟨h1,hl,hs⟩:=qE hp (by rw [gM];exact h)
 have h2:=hp.len
 have hle:=he.len h
 have hit: ∀ x∈u.items,Pl (cz x)∧Eql x:=fun x hx=>⟨hp.item _ (ul he hx),he.item x hx⟩
 obtain⟨q,m,s,ks,ts⟩:=u
 simp only [V.kind]at h
 subst h
 simp only [V.keys,V.items]at hle hit⊢
 have hpk:((jN (ks.zip (ts.map cz))).map Prod.fst).Perm ks:=by
  have:=(gJ (ks.zip (ts.map cz))).map Prod.fst
  rw [vR cI]at this
  exact this
 have hpi:((jN (ks.zip (ts.map cz))).map Prod.snd).length=ts.length:=by
  rw [List.length_map,(gJ _).length_eq,List.length_zip,List.length_map];omega
 rw [kZ rfl]at h0 h1 h2 hs⊢
 simp only [V.keys,V.items]at h0 h1 h2 hs⊢
 injection h1 with _ a b _ _
 subst a;subst b
 refine⟨rfl,hle,aC,hpk.nodup_iff.1 (nY hs),fun k hk=>?_,hit⟩
 have hk':=hpk.mem_iff.2 hk
 obtain⟨i,hi,rfl⟩:=List.getElem_of_mem hk'
 exact⟨(h0 i hi).1,hk'⟩
noncomputable def ng:V→Nat:=V.fix (α:=Nat) (fun t f=>1+(t.items.map f).sum)
theorem um(t:V):ng t=1+(t.items.map ng).sum:=V.fix_eq (α:=Nat) (G:=fun t f=>1+(t.items.map f).sum) (fun t g g' h=>by
 have:t.items.map g=t.items.map g':=List.map_congr_left fun x hx=>h x (xB hx)
 simp only [this]) t
theorem NW{q m:Int}{s:ByteArray}{ks:List ByteArray}{ts:List V}:(V.mk q m s ks ts).items=ts:=rfl
theorem Pm{q m:Int}{s:ByteArray}{ks:List ByteArray}{ts:List V}:(V.mk q m s ks ts).kind=q:=rfl
theorem Pn{q m:Int}{s:ByteArray}{ks:List ByteArray}{ts:List V}:(V.mk q m s ks ts).keys=ks:=rfl
theorem GH{u:V}(hp:Pl (cz u)):0≤u.kind∧u.kind≤6:=by
  rw [←gM u]
  by_cases h:(cz u).kind=4∨(cz u).kind=5
  · omega
  · have:=gh hp aC aC
    simp only [dR]at this
    omega
theorem BU{u:V}(h0:0≤u.kind)(h6:u.kind≤6):(dW u).kind=if u.kind=4 then 2 else if u.kind=5 then 4 else 8:=by
 rw [pL]
 split
 ·rename_i h;first|rfl|(rw [h];rfl)
 split
 ·rename_i h;first|rfl|(rw [h];rfl)
 split
 ·rename_i h;first|rfl|(rw [h];rfl)
 split
 ·rename_i h;first|rfl|(rw [h];rfl)
 split
 ·rename_i h;first|rfl|(rw [h];rfl)
 split
 ·rename_i h;first|rfl|(rw [h];rfl)
 ·rfl
theorem tZ{α:Type}{l:List α}{i:Nat}{d:α}(h:i<l.length):l.getD i d=l[i]:=by rw [List.getD_eq_getElem?_getD,List.getElem?_eq_getElem h,Option.getD_some]
theorem pm{ks:List ByteArray}(hw: ∀ k∈ks,du k)(h:ks.Pairwise (fun a b=>rl a<rl b)):di ks:=by
 intro i hi
 refine⟨hw _ (List.getElem_mem hi),fun h0=>?_⟩
 have hlt:=(List.pairwise_iff_getElem.1 h) (i - 1) i aC hi aC
 refine⟨?_,fun e=>?_⟩
 ·rw [fS,rQ,rQ]
  exact decide_eq_false fun h2=>List.lt_irrefl _ (List.lt_trans hlt h2)
 ·rw [e]at hlt
  exact List.lt_irrefl _ hlt
theorem iZ{ks:List ByteArray}(h:di ks): ∀ k∈ks,du k:=by
 intro k hk
 obtain⟨i,hi,rfl⟩:=List.getElem_of_mem hk
 exact(h i hi).1
theorem lQ{d:Nat}{g:V→V}{x:V}(h: ∀ y∈x.items,y.kind=5→ ∀ d,IsPlain d y→IsPlain d (g y))(hx:IsPlain d x)(hk:x.kind=4∨x.kind=5):IsPlain d (ce g x):=by
  obtain⟨q,m,s,ks,ts⟩:=x
  cases d with
  |zero=>exact absurd hx (uY hk)
  |succ d=>
    obtain⟨⟨h1,h2,h3⟩,h4,h5⟩:=(wX hk).1 hx
    unfold ce
    simp only [Pm,Pn,NW]at h hk⊢
    refine(wX hk).2 ⟨⟨rfl,rfl,?_⟩,by simpa using h4,fun y hy=>?_⟩
    · rw [List.length_map];exact h3
    · obtain⟨z,hz,rfl⟩:=List.mem_map.1 hy
      unfold cp
      split
      · rename_i hk5
        exact h z hz hk5 d (h5 z hz)
      · exact h5 z hz
theorem jb{d:Nat}{sh:Int}{g:V→V}{x:V}(hf:cT sh x)(h: ∀ y∈kidsOf sh x,∀ d,IsPlain d y→IsPlain d (g y))(hx:IsPlain d x):IsPlain d (cQ sh g x):=by
 unfold cQ
 split
 ·rename_i h5
  exact h x br d hx
 split
 ·rename_i h6
  split
  ·rename_i hk
   exact h x (by rw [h6,pf hk];simp) d hx
  ·exact hx
 split
 ·rename_i h7
  subst h7
  split
  ·rename_i hk
   exact h x bj d hx
  ·rename_i hk
   have hf':x.kind=5∨(x.kind=4∧ ∀ x'∈x.items,x'.kind=5):=by simpa [cT]using hf
   have h4:x.kind=4∧ ∀ x'∈x.items,x'.kind=5:=hf'.elim (fun e=>absurd e hk) id
   exact lQ (fun y hy _=>h y bG) hx (.inl h4.1)
 split
 ·rename_i h9
  rcases h9 with h9|h9
  ·subst h9
   have hf':x.kind=5∧ ∀ x'∈x.items,x'.kind=5:=by simpa [cT]using hf
   exact lQ (fun y hy _=>h y bU) hx (.inr hf'.1)
  ·subst h9
   have hf':x.kind=4∧ ∀ x'∈x.items,x'.kind=5:=by simpa [cT]using hf
   exact lQ (fun y hy _=>h y bS) hx (.inl hf'.1)
 ·exact hx
theorem Dr(v:V):IsShape v→ ∀ d,IsPlain d v→IsPlain d (wr v):=by
  refine V.indS (p:=fun v=>IsShape v→ ∀ d,IsPlain d v→IsPlain d (wr v)) (fun v IH hs d hp=>?_) v
  have hk5:=hs.kind
  have hfit:=((wQ v).1 hs).2
  have hPl:Pl v:=⟨d,hp⟩
  have hko:=hPl.keys hk5
  obtain⟨he,hl,hsort⟩:=qE hPl hk5
  rw [AB]
  unfold dD
  cases d with
  |zero=>
    obtain⟨q,m,s,ks,ts⟩:=v
    exact absurd hp (uY (.inr hk5))
  |succ d=>
    have hpi:v.items.length≤60∧ ∀ x∈v.items,IsPlain d x:=by
      obtain⟨q,m,s,ks,ts⟩:=v
      exact((wX (.inr hk5)).1 hp).2
    have hfl:((v.keys.zip v.items).filter (fun p=>lN p.1)).length≤v.items.length:=by
      have:=List.length_filter_le (fun p:ByteArray×V=>lN p.1) (v.keys.zip v.items)
      rw [List.length_zip]at this
      omega
    refine(wX (.inr Z)).2 ⟨⟨rfl,rfl, .inr ⟨rfl,by simp,?_⟩⟩,by rw [List.length_map];omega,fun x hx=>?_⟩
    · refine pm (fun k hk=>?_) ?_
      · obtain⟨p,hpm,rfl⟩:=List.mem_map.1 hk
        exact iZ hko _ (List.of_mem_zip (List.mem_filter.1 hpm).1).1
      · rw [List.pairwise_map]
        exact(gg hsort).sublist List.filter_sublist
    · obtain⟨p,hpm,rfl⟩:=List.mem_map.1 hx
      have hz:=(List.mem_filter.1 hpm).1
      obtain⟨j,hj1,hj2⟩:=pD ((xD hPl hk5).1 (show(p.1,p.2)∈_ from hz))
      obtain⟨hf,hkid,_⟩:=hfit j _ _ hj1 hj2
      have hm:=List.mem_of_getElem? hj2
      exact jb hf (fun y hy d hd=>IH y (Nat.lt_of_le_of_lt (sO hy) (xB hm)) (hkid y hy) d hd) (hpi.2 _ hm)
theorem Hs{v:V}(hs:IsShape v)(hp:Pl v):Pl (wr v):=hp.elim fun d h=>⟨d,Dr v hs d h⟩
end Go.Jw

namespace Go.Jw
open Go Go.RowKit Go.Proofs Go.Sort
set_option maxRecDepth 20000
abbrev encN(p:Nat):Value:= .int .i64 (p:Int)
theorem Po(n:Nat)(h2:2≤n):Lib.swapperK n Tryz.t3 2=5:=by
 have a:Tryz.t3.hasPointers=false:=by kernel_rfl
 have b:Tryz.t3.bytes=8:=by kernel_rfl
 have c:(n==0)=false:=by simp;omega
 have d:(n==1)=false:=by simp;omega
 simp [Lib.swapperK,a,b,c,d]
theorem Ir:ww Tryz.prog 130:=⟨_,Tryz.func130,by kernel_rfl,rfl⟩
theorem ia{α:Type}[Inhabited α](encN:α→Value)(w:World)(m b:Nat)(d:Array α)(os:Array Obj){k:Nat}(hk:k<w.heap.size)(hb:k≠b):(grow (putRow encN (Sort.ahead w m) b 0 d) os).heap[k]? =w.heap[k]? :=by
 have h1:(putRow encN (Sort.ahead w m) b 0 d).heap[k]? =w.heap[k]? :=by
  unfold putRow mapBlock
  simp only [heap_ahead]
  rw [Array.getElem?_modify]
  split
  ·rename_i h;exact absurd h.symm hb
  ·rfl
 show((putRow encN (Sort.ahead w m) b 0 d).heap++os)[k]? =_
 rw [Array.getElem?_append_left (by rw [Go.Sort.size_putRow];exact hk)]
 exact h1
theorem nh{α:Type}[Inhabited α](encN:α→Value)(w:World)(m b:Nat)(d:Array α)(os:Array Obj){cur:Array Value}(hb:w.heap[b]? =some (.cells cur 3 (0,0)))(hl:d.size≤cur.size):
  ∃cur',(grow (putRow encN (Sort.ahead w m) b 0 d) os).heap[b]? =some (.cells cur' 3 (0,0))∧cur'.size=cur.size∧cur'.toList.take d.size=d.toList.map encN:=by
 have hlt:=rA hb
 refine⟨putCells encN 0 d cur,?_,by simp [putCells],?_⟩
 ·show((putRow encN (Sort.ahead w m) b 0 d).heap++os)[b]? =_
  rw [Array.getElem?_append_left (by rw [Go.Sort.size_putRow];exact hlt)]
  unfold putRow mapBlock
  simp only [heap_ahead]
  rw [Array.getElem?_modify,if_pos rfl,hb]
  rfl
 ·apply List.ext_getElem?
  intro i
  rw [List.getElem?_take]
  by_cases hi:i<d.size
  ·rw [if_pos hi]
   have:i<cur.size:=by omega
   simp [putCells,hi,this]
  ·rw [if_neg hi,List.getElem?_eq_none cI]
theorem NX(g:FuncId)(lb:Array Value)(b n c N:Nat)(ds:List Nat)(hds: ∀ x∈ds,x<N)(lt:Nat→Nat→Bool)(hO:SWO lt)(M2:List HA)(D:List DA)(hsz:n<4611686018427387904)(eg: ∀ args w,(callFunc g args).run Tryz.prog w= .ok (.enter g args) w)
    (hless: ∀ (W:World) (dk:List Nat),dk.length=n→(∀ x∈dk,x<N)→(∀ x∈M2,x.holds W)→(∀ j x,dk[j]? =some x→W.cell? ⟨b,j,none⟩=some (encN x))→(∃ok,∀ d∈D,d.p W ok)→ ∀ (i j:Nat) (hi:i<dk.length) (hj:j<dk.length),
      Calls Tryz.prog g (#[.int .i64 i, .int .i64 j]++lb) W fun e w'=>e= .returned (.bool (lt dk[i] dk[j]))∧ ∃q,w'=W.drewN q):
    Ct Tryz.prog 130 #[.iface 139 (.slice (some ⟨b,0,none⟩) n c), .func (.func g) #[] lb] (.row (some ⟨b,0,none⟩) n c 3 1 (ds.map encN)::M2) D
      (fun u M' D'=>u= .tuple #[]∧(∃ds':List Nat,ds'.Perm ds∧ds'.Pairwise (fun x y=>lt y x=false)∧M'= .row (some ⟨b,0,none⟩) n c 3 1 (ds'.map encN)::M2)∧D'=[]):=by
  refine⟨Ir,fun w ok hok hM hn hD=>?_⟩
  have hrow:w.ownsRow 0 3 1 (.slice (some ⟨b,0,none⟩) n c) n (ds.map encN):=hM _ List.mem_cons_self
  obtain⟨h1,h2⟩:=hrow
  have hdl:ds.length=n:=by simpa using h1
  obtain⟨cur,hb,hnc,hcm,hcs,hct⟩: ∃cur,w.heap[b]? =some (.cells cur 3 (0,0))∧n≤c∧c≤maxLen∧cur.size=c*1∧cur.toList.take (n*1)=ds.map encN:=by
    rcases h2 with ⟨h,_⟩|⟨g',cap,cur,hv,_,a1,a2,a3,a4,a5⟩
    · cases h
    · injection hv with e1 _ e3
      injection e1 with e1
      injection e1 with e1
      subst e1;subst e3
      exact⟨cur,a1,a2,a3,a4,a5⟩
  have hblk:b<w.heap.size:=rA hb
  have hfoot:foots (.row (some ⟨b,0,none⟩) n c 3 1 (ds.map encN)::M2)=b::foots M2:=rfl
  rw [hfoot]at hn
  have hb2:b∉foots M2:=(List.nodup_cons.1 hn).1
  have hfin: ∀ (w':World) (ds':List Nat),ds'.Perm ds→ds'.Pairwise (fun x y=>lt y x=false)→Chg [b] w w'→(HA.row (some ⟨b,0,none⟩) n c 3 1 (ds'.map encN)).holds w'→
      ∃(v:Value) (M':List HA) (D':List DA),(Ending.returned (.tuple #[]))= .returned v∧(v= .tuple #[]∧(∃ds':List Nat,ds'.Perm ds∧ds'.Pairwise (fun x y=>lt y x=false)∧M'=HA.row (some ⟨b,0,none⟩) n c 3 1 (ds'.map encN)::M2)∧D'=[])∧Chg (b::foots M2) w w'∧(∀ h∈M',h.holds w')∧(foots M').Nodup∧(∀ q∈foots M',q∈b::foots M2∨w.heap.size≤q)∧
      ∀ d∈D',d.p w' (fun k=>(ok k∨w.heap.size≤k)∧k<w'.heap.size∧k∉foots M'):=by
    intro w' ds' hp hs hc hh
    refine⟨_,HA.row (some ⟨b,0,none⟩) n c 3 1 (ds'.map encN)::M2,[],rfl,⟨rfl,⟨ds',hp,hs,rfl⟩,rfl⟩,hc.mono (fun k _ hk=>by rw [List.mem_singleton.1 hk];exact List.mem_cons_self),?_,hn,fun q hq=> .inl hq,by simp⟩
    intro x hx
    rcases List.mem_cons.1 hx with rfl|hx2
    · exact hh
    · have hx0:=hM x (List.mem_cons_of_mem _ hx2)
      exact HA.move hx0 fun q hq=>hc.block q (HA.foot_lt hx0 q hq) (by
        intro hqb
        rw [List.mem_singleton.1 hqb]at hq
        exact hb2 (rG.2 ⟨x,hx2,hq⟩))
  rcases Nat.lt_or_ge n 2 with h2n|h2n
  · have hK:Lib.swapperK n Tryz.t3 2=n+1:=by
      rcases Nat.eq_zero_or_pos n with h|h
      · subst h;simp [Lib.swapperK]
      · obtain rfl:n=1:=by omega
        simp [Lib.swapperK]
    have hS:=Any.sort_Slice_tiny Tryz.laysGg6 139 3 Tryz.t139 Tryz.t3 (zU Tryz.typeInfo139) aF aF (zU Tryz.typeInfo3) 2 (fun _=>by kernel_rfl) (some ⟨b,0,none⟩) n c aC (196+n) (by
      rw [hK]
      rcases Nat.eq_zero_or_pos n with h|h
      · subst h;kernel_rfl
      · obtain rfl:n=1:=by omega
        kernel_rfl) (.func g) #[] lb w
    refine Calls.mono hS ?_
    rintro e w' ⟨rfl,os,rfl⟩
    refine hfin _ ds (.refl _) ?_ ⟨rfl,rfl,rfl,by simp [grow],fun k hk _=>?_⟩ ?_
    · match ds,hdl with
      |[],_=>exact .nil
      |[x],_=>simp
      |_::_::_,h=>simp at h;omega
    · show(w.heap++os)[k]? =_
      exact Array.getElem?_append_left hk
    · refine⟨h1, .inr ⟨b,c,cur,rfl,Nat.zero_le _,?_,hnc,hcm,hcs,hct⟩⟩
      show(w.heap++os)[b]? =_
      rw [Array.getElem?_append_left hblk]
      exact hb
  · have hcell: ∀ j x,ds[j]? =some x→w.cell? ⟨b,j,none⟩=some (encN x):=by
      intro j x hj
      have hlt:=(List.getElem?_eq_some_iff.1 hj).1
      have h3:(cur.toList.take (n*1))[j]? =some (encN x):=by rw [hct,List.getElem?_map,hj];rfl
      rw [List.getElem?_take,if_pos aC]at h3
      simp only [World.cell?,hb]
      simpa using h3
    have hN:0<N:=by
      match ds,hdl,hds with
      |[],h,_=>simp at h;omega
      |x::_,_,h=>exact Nat.lt_of_le_of_lt (Nat.zero_le _) (h x List.mem_cons_self)
    letI:Inhabited (Fin N):=⟨⟨0,hN⟩⟩
    let encF:Fin N→Value:=fun x=>encN x.1
    let fs:List (Fin N):=ds.pmap (fun x h=>⟨x,h⟩) hds
    have hfs:fs.map (fun x=>x.1)=ds:=by
      show(ds.pmap (fun x h=>(⟨x,h⟩:Fin N)) hds).map (fun x=>x.1)=ds
      rw [List.map_pmap]
      simp
    have hfl:fs.length=n:=by rw [←hdl,←hfs,List.length_map]
    have hval: ∀ l:List (Fin N),(l.map fun x=>x.1).map encN=l.map encF:=fun l=>by rw [List.map_map];rfl
    have hlto: ∀ l:List (Fin N),∀ x∈l.map (fun x=>x.1),x<N:=fun l x hx=>by
      obtain⟨y,_,rfl⟩:=List.mem_map.1 hx
      exact y.2
    have hH:Holds encF w b 0 fs.toArray:=by
      intro j hj
      have hj':j<fs.length:=by simpa using hj
      refine⟨?_,?_⟩
      · rw [Nat.zero_add,hcell j fs[j].1 (by rw [←hfs,List.getElem?_map,List.getElem?_eq_getElem hj'];rfl)]
        simp [hj',encF]
      · simp [World.frozen?,hb]
    have hL:LessReads Tryz.prog g lb encF (fun x y=>lt x.1 y.1) b 0 fs.toArray.size w:=by
      intro m os dk hs i j hi hj
      have hs':dk.size=n:=by rw [hs];simpa using hfl
      obtain⟨cur',a1,a2,a3⟩:=nh encF w m b dk os hb aC
      have key:=hless (sortWorld encF w b 0 m dk os) (dk.toList.map fun x=>x.1) (by simpa using hs') (hlto _) (fun x hx=>by
        have hx0:=hM x (List.mem_cons_of_mem _ hx)
        exact HA.move hx0 fun q hq=>ia encF w m b dk os (HA.foot_lt hx0 q hq) (by rintro rfl;exact hb2 (rG.2 ⟨x,hx,hq⟩))) (fun q x hq=>by
        have hlt:=(List.getElem?_eq_some_iff.1 hq).1
        have h3:(cur'.toList.take dk.size)[q]? =some (encN x):=by rw [a3,←hval,List.getElem?_map,hq];rfl
        rw [List.getElem?_take,if_pos (by simpa using hlt)]at h3
        show World.cell? (grow (putRow encF (Sort.ahead w m) b 0 dk) os) _=_
        simp only [World.cell?,a1]
        simpa using h3) ⟨ok,fun d hd=>d.mono (fun k hk=>hk) (fun k hk=>ia encF w m b dk os (hok k hk).1 (by rintro rfl;exact(hok k hk).2 (by rw [hfoot];exact List.mem_cons_self))) (hD d hd)⟩ i j (by simp at hi⊢;omega) (by simp at hj⊢;omega)
      have hi':i<dk.size:=by simp at hi;omega
      have hj':j<dk.size:=by simp at hj;omega
      have e1:dk[i]! =dk.toList[i]'(by simpa using hi'):=by simp [hi']
      have e2:dk[j]! =dk.toList[j]'(by simpa using hj'):=by simp [hj']
      rw [e1,e2]
      simpa using key
    have hO':SWO (fun x y:Fin N=>lt x.1 y.1):=⟨fun x=>hO.irrefl _,fun x y z=>hO.trans _ _ _,fun x y z=>hO.ntrans _ _ _⟩
    have hS:=Any.sort_Slice_sorted Tryz.laysGg6 139 3 Tryz.t139 Tryz.t3 (zU Tryz.typeInfo139) aF aF (zU Tryz.typeInfo3) 2 (fun _=>by kernel_rfl) aF (fun _=>by kernel_rfl) encF (fun _=>rfl) (fun x y=>lt x.1 y.1) hO' g lb eg b 0 c fs.toArray cI cI 200
      (by rw [Po _ cI];kernel_rfl) true (fun args W=>run_callFunc_extern Tryz.func200 aF aF aF (e:=Extern.ReflectliteSwapper.swap true) aF args W) w hL hH hblk
    have e0:fs.toArray.size=n:=by simpa using hfl
    rw [e0]at hS
    refine Calls.mono hS ?_
    rintro e w' ⟨rfl,d',m,os,hp,hs,rfl⟩
    have hd':d'.size=n:=by rw [hp.1,e0]
    obtain⟨cur',a1,a2,a3⟩:=nh encF w m b d' os hb aC
    refine hfin _ (d'.toList.map fun x=>x.1) ?_ ?_ ⟨rfl,rfl,rfl,by simp [grow],fun k hk hkb=>ia encF w m b d' os hk (by simpa using hkb)⟩ ?_
    · have:=hp.2.2
      have e3:d'.extract 0 n=d':=by rw [←hd'];simp
      have e4:fs.toArray.extract 0 n=fs.toArray:=by rw [←e0];simp
      rw [e3,e4]at this
      have h2:=this.map (fun x:Fin N=>x.1)
      simp only []at h2
      rw [hfs]at h2
      exact h2
    · rw [List.pairwise_map,List.pairwise_iff_getElem]
      intro i j hi hj hij
      have:=hs i j (Nat.zero_le _) hij (by simp at hj;omega)
      have e1:d'[i]! =d'.toList[i]:=by simp at hi;simp [hi]
      have e2:d'[j]! =d'.toList[j]:=by simp at hj;simp [hj]
      rw [e1,e2]at this
      exact this
    · refine⟨by simp [hd'], .inr ⟨b,c,cur',rfl,Nat.zero_le _,a1,hnc,hcm,by rw [a2,hcs],?_⟩⟩
      rw [Nat.mul_one,←hd',hval]
      exact a3
end Go.Jw

namespace Go.Jw
open Go Go.RowKit Go.Proofs
set_option maxRecDepth 8000
section rules
variable {P:Program} {n:Nat} {F:List Nat} {c:Ctx F} {ops:Array Oper} {d:Nat} {T:TypeId} {l:List Oper} {k:List KI} {Q:Post} {e:dI} {M:List HA} {D:List DA}
theorem vI{fn:Func}{R:Value→List HA→List DA→Prop}{M':List HA}{D':List DA}(hr:fn.results= #[])(hR:R (.tuple #[]) M' D')(hM:List.Sublist M' M)(hD: ∀ d∈D',d∈D):Run P n c [] (mC P c fn R) e M D:=by
 intro a w hf
 have hsub:=iw hM
 have hres:(results fn a.tmps).run P w= .ok (.tuple #[]) w:=by simp [results,hr]
 refine⟨hf.defers, .tuple #[],hres, .tuple #[],M',D',rfl,hR,hf.chg,fun x hx=>hf.own x (hM.mem hx),hf.nodup.sublist hsub,fun b hb=>hf.foot b (hsub.mem hb),fun x hx=>?_⟩
 exact x.mono (fun q hq=>⟨hq.1,hq.2.1,fun h'=>hq.2.2 (hsub.mem h')⟩) (fun _ _=>rfl) (hf.dat x (hD x hx))
end rules
def Sf(S:ByteArray)(p:Nat)(l:List UInt8):Prop:=(rl S).drop p=l∧p≤S.size
theorem Sf.size{S:ByteArray}{p:Nat}{l:List UInt8}(h:Sf S p l):S.size=p+l.length:=by
 have h1:=congrArg List.length h.1
 rw [List.length_drop,←Hr]at h1
 have:=h.2
 omega
theorem Sf.get{S:ByteArray}{p:Nat}{l:List UInt8}(h:Sf S p l){i:Nat}(hi:i<l.length)(hs:p+i<S.size):S[p+i]=l[i]:=by
 have h1:((rl S).drop p)[i]? =l[i]? :=by rw [h.1]
 rw [List.getElem?_drop,List.getElem?_eq_getElem hi]at h1
 have h2:(rl S)[p+i]? =some S[p+i]:=by
  have h3:p+i<(rl S).length:=by rw [←Hr];exact hs
  rw [List.getElem?_eq_getElem h3]
  rfl
 rw [h2]at h1
 exact Option.some.inj h1
def NY(b:UInt8):Prop:=b.toNat=32∨b.toNat=10∨b.toNat=9∨b.toNat=13
theorem un(s:List UInt8):strOfNums (s.map fun b=>(b.toNat:Int))=bs s:=by
 unfold strOfNums bs
 congr 1
 apply Array.ext'
 simp only [List.map_toArray,List.map_map]
 conv=>rhs;rw [←List.map_id s]
 refine List.map_congr_left fun b _=>?_
 simp
section rules
variable {P:Program} {n:Nat} {F:List Nat} {c:Ctx F} {ops:Array Oper} {d:Nat} {T:TypeId} {l:List Oper} {k:List KI} {Q:Post} {e:dI} {M:List HA} {D:List DA}
theorem BV(i:Nat){x:Operand}{A:Option Addr}{m cap:Nat}{S S' E:TypeId}{s:List UInt8}(hs:P.underlying S=some (.slice E))(he:P.underlying E=some (.int .u8))(hd':P.underlying S'=some .string)(hd:Nat.blt d n=true)(hx:ev e x=some (.slice A m cap))(hi:M[i]? =some (.row A m cap E 1 (s.map fun b=> .int .u8 (b.toNat:Int))))
    (next:cL P n c ops l k Q ((d, .string (bs s))::e) M D):cR P n c ops (some d) (.convert S S' x) T l k Q e M D:=
  xW hd (fun a w hf=>by
    have hrow:=hf.toFitsW.mem hi
    obtain⟨h1,h2,h3⟩:=tR hrow
    have hm:s.length=m:=by have:=hrow.1;simpa using this
    have hcv:(convert S S' (.slice A m cap)).run P w= .ok (.string (bs s)) w:=by
      rcases hrow.2 with ⟨h,h0⟩|⟨g,cap',cur,hv,_,hc,hn,hmm,hcs,ht⟩
      · injection h with h4 h5 h6
        subst h4
        rw [run_convert_bytes_nil w S E hs he m cap S' hd']
        have:s=[]:=List.eq_nil_of_length_eq_zero aC
        subst this
        rfl
      · injection hv with h4 h5 h6
        subst h4;subst h6
        rw [run_convert_bytes_arg w S E hs he g 0 m cap (s.map fun b=>(b.toNat:Int)) (by simpa using hm) (fun j hj=>by
          obtain⟨a',ha,_,hcell⟩:=h3 j (.int .u8 ((s[j]'aC).toNat:Int)) (by rw [List.getElem?_map,List.getElem?_eq_getElem aC];rfl)
          cases ha
          rw [vD]at hcell
          rw [hcell]
          simp [List.getD_eq_getElem?_getD,List.getElem?_map,List.getElem?_eq_getElem (show j<s.length by omega)]) S' hd',un]
    simp [execOp,dM,hf.ev hx,hcv]) next
end rules
end Go.Jw

namespace Go.Jw
open Go Go.RowKit Go.Proofs Go.Sort
set_option maxRecDepth 20000
def FY(keys:List ByteArray)(a b:Nat):Bool:=decide (rl (keys.getD a ⟨#[]⟩)<rl (keys.getD b ⟨#[]⟩))
theorem GI(keys:List ByteArray):SWO (FY keys):=by
 refine⟨fun x=>?_,fun x y z h1 h2=>?_,fun x y z h1 h2=>?_⟩
 ·exact decide_eq_false (List.lt_irrefl _)
 ·exact decide_eq_true (List.lt_trans (of_decide_eq_true h1) (of_decide_eq_true h2))
 ·have h3:=List.not_lt.1 (of_decide_eq_false h1)
  have h4:=List.not_lt.1 (of_decide_eq_false h2)
  exact decide_eq_false (List.not_lt.2 (List.le_trans h4 h3))
end Go.Jw

namespace Go.Jw
open Go Go.RowKit Go.Proofs
set_option maxRecDepth 8000
theorem x6{α:Type}(dflt:α)(ks:List ByteArray)(vs:List α)(ds:List Nat)(hl:ks.length=vs.length)(hn:ks.Nodup)(hp:ds.Perm (List.range ks.length))(hs:ds.Pairwise (fun x y=>FY ks y x=false)):
  jN (ks.zip vs)=ds.map (fun i=>(ks.getD i ⟨#[]⟩,vs.getD i dflt)):=by
 have hall:(List.range ks.length).map (fun i=>(ks.getD i ⟨#[]⟩,vs.getD i dflt))=ks.zip vs:=by
  apply List.ext_getElem
  ·simp;omega
  ·intro i h1 h2
   simp only [List.length_map,List.length_range]at h1
   rw [List.getElem_map,List.getElem_range,List.getElem_zip,tZ h1,tZ aC]
 refine mQ ?_ ?_ ?_
 ·rw [←hall]
  exact hp.map _
 ·rw [List.pairwise_map]
  exact hs.imp fun h=>List.not_lt.1 (of_decide_eq_false h)
 ·rw [vR aC];exact hn
theorem jE{n:Nat}{ds:List Nat}(hp:ds.Perm (List.range n)): ∀ x∈ds,x<n:=fun x hx=>List.mem_range.1 (hp.mem_iff.1 hx)
theorem BW{ks:List ByteArray}{ds:List Nat}(hn:ks.Nodup)(hp:ds.Perm (List.range ks.length)){i j:Nat}(hij:i<j)(hj:j<ds.length):ks.getD (ds[i]'aC) ⟨#[]⟩≠ks.getD ds[j] ⟨#[]⟩:=by
  have h1:=jE hp _ (List.getElem_mem (show i<ds.length by omega))
  have h2:=jE hp _ (List.getElem_mem hj)
  rw [tZ h1,tZ h2]
  intro he
  have hnd:ds.Nodup:=hp.nodup_iff.2 List.nodup_range
  have h3:=(List.getElem_inj hn).1 he
  have h4:=(List.getElem_inj hnd).1 h3
  omega
end Go.Jw

namespace Go.Jw
open Go Go.RowKit Go.Proofs
set_option maxRecDepth 8000
open Go.Sort (SWO)
section rules
variable {P:Program} {n:Nat} {F:List Nat} {c:Ctx F} {ops:Array Oper} {d:Nat} {T:TypeId} {l:List Oper} {k:List KI} {Q:Post} {e:dI} {M:List HA} {D:List DA}
theorem kf{x:Operand}{v:Value}{S:TypeId}(hS:P.concrete S=true)(hd:Nat.blt d n=true)(hx:ev e x=some v)(next:cL P n c ops l k Q ((d, .iface S v)::e) M D):cR P n c ops (some d) (.makeInterface S x) T l k Q e M D:=
 xW hd (fun a w hf=>by
  have:=run_makeInterface (P:=P) (w:=w) S v hS
  simp [execOp,dM,hf.ev hx,this]) next
theorem Ds(i:Nat){A:Option Addr}{m cap U sz:Nat}{xs:List Value}(hi:M[i]? =some (.row A m cap U sz xs))(h0:m≠0)(next: ∀ b,A=some ⟨b,0,none⟩→Run P n c k Q e M D):Run P n c k Q e M D:=by
 intro a w hf
 have hrow:=hf.toFitsW.mem hi
 rcases hrow.2 with ⟨_,h⟩|⟨g,cap',cur,hv,_⟩
 ·exact absurd h h0
 ·injection hv with h4
  exact next g h4 a w hf
theorem Is{w:World}(h:FitsW c M D w){i j:Nat}{A:Addr}{m cap U:Nat}{xs:List Value}{v:Value}(hi:M[i]? =some (.row (some A) m cap U 1 xs))(hv:xs[j]? =some v):w.cell? (A.add (j*1))=some v:=by
 obtain⟨_,_,h3⟩:=tR (h.mem hi)
 obtain⟨a,ha,_,hc⟩:=h3 j v hv
 cases ha
 rw [Nat.mul_one]
 exact hc
theorem AE{w:World}(h:FitsW c M D w){i j:Nat}{A:Option Addr}{m cap U:Nat}{xs:List Value}{v:Value}(hi:M[i]? =some (.row A m cap U 1 xs))(hv:xs[j]? =some v):w.cell? (At A (j*1))=some v:=by
 obtain⟨_,_,h3⟩:=tR (h.mem hi)
 obtain⟨a,ha,_,hc⟩:=h3 j v hv
 subst ha
 rw [Nat.mul_one]
 exact hc
end rules
theorem uE{α β:Type}{f:α→β}{ts:List α}{i:Nat}{x:β}(hi:i<ts.length)(hx:x=f ts[i]):(ts.take i).map f++[x]=(ts.take (i+1)).map f:=by
 subst hx;exact sX hi
theorem Dt{α β:Type}{f:α→β}{ds:List α}{i j:Nat}(h:j<i)(hj:j<ds.length):((ds.take i).map f)[j]? =some (f ds[j]):=by
 rw [List.getElem?_map,List.getElem?_take,if_pos h,List.getElem?_eq_getElem hj];rfl
section rules
variable {P:Program} {n:Nat} {F:List Nat} {c:Ctx F} {ops:Array Oper} {k:List KI} {Q:Post} {e:dI} {M:List HA} {D:List DA} {I:List (List Nat)} {S:List (List HA×List DA)} {listed:Array Bool} {fuel:Nat}
end rules

end Go.Jw

namespace Go.Jw
open Go Go.RowKit Go.Proofs
set_option maxRecDepth 8000
def Ht(l:List UInt8):UInt8:=match l with
  |[]=>0
  |b::_=>b
structure Pp(R:Nat→List UInt8)(j:Nat):Prop where
 ne:R j≠[]
 bl: ¬ NY (Ht (R j))
 n93:Ht (R j)≠93

theorem x7(v:V):IsShape v→ ∀ d,IsPlain d v→IsPlain d (cO v):=by
  refine V.indS (p:=fun v=>IsShape v→ ∀ d,IsPlain d v→IsPlain d (cO v)) (fun v IH hs d hp=>?_) v
  have hk5:=hs.kind
  have hfit:=((wQ v).1 hs).2
  have hPl:Pl v:=⟨d,hp⟩
  have hko:=hPl.keys hk5
  obtain⟨he,hl,hsort⟩:=qE hPl hk5
  rw [rD]
  unfold dD
  cases d with
  |zero=>
    obtain⟨q,m,s,ks,ts⟩:=v
    exact absurd hp (uY (.inr hk5))
  |succ d=>
    have hpi:v.items.length≤60∧ ∀ x∈v.items,IsPlain d x:=by
      obtain⟨q,m,s,ks,ts⟩:=v
      exact((wX (.inr hk5)).1 hp).2
    have hfl:((v.keys.zip v.items).filter (fun p=>eD p.1)).length≤v.items.length:=by
      have:=List.length_filter_le (fun p:ByteArray×V=>eD p.1) (v.keys.zip v.items)
      rw [List.length_zip]at this
      omega
    refine(wX (.inr Z)).2 ⟨⟨rfl,rfl, .inr ⟨rfl,by simp,?_⟩⟩,by rw [List.length_map];omega,fun x hx=>?_⟩
    · refine pm (fun k hk=>?_) ?_
      · obtain⟨p,hpm,rfl⟩:=List.mem_map.1 hk
        exact iZ hko _ (List.of_mem_zip (List.mem_filter.1 hpm).1).1
      · rw [List.pairwise_map]
        exact(gg hsort).sublist List.filter_sublist
    · obtain⟨p,hpm,rfl⟩:=List.mem_map.1 hx
      have hz:=(List.mem_filter.1 hpm).1
      obtain⟨j,hj1,hj2⟩:=pD ((xD hPl hk5).1 (show(p.1,p.2)∈_ from hz))
      obtain⟨hf,hkid,_⟩:=hfit j _ _ hj1 hj2
      have hm:=List.mem_of_getElem? hj2
      exact jb hf (fun y hy d hd=>IH y (Nat.lt_of_le_of_lt (sO hy) (xB hm)) (hkid y hy) d hd) (hpi.2 _ hm)
end Go.Jw

namespace Go.Jw
open Go Go.RowKit
theorem tQ{m:Nat}(h:m<18446744073709551616):IntKind.u64.wrap (m:Int)=m:=by
 have:((m:Int)%18446744073709551616)=m:=by omega
 simpa [IntKind.wrap,IntKind.bits,IntKind.signed]using this
theorem og(op:BinOp)(t:TypeId)(x y:Operand)(kd kd':FloatKind)(m n:Nat)(P:Program)(w:World):(eqGuard op t x y (.float kd m) (.float kd' n)).run P w= .ok () w:=by
 cases op<;>rfl
section rules
variable {P:Program} {n:Nat} {F:List Nat} {c:Ctx F} {ops:Array Oper} {d:Nat} {T:TypeId} {l:List Oper} {k:List KI} {Q:Post} {e:dI} {M:List HA} {D:List DA}
variable {x y:Operand} {S S':TypeId}
theorem po{op:BinOp}{m m':Nat}{v:Value}(hd:Nat.blt d n=true)(hx:ev e x=some (.float .f64 m))(hy:ev e y=some (.float .f64 m'))(hr: ∀ w,(binOp op S (.float .f64 m) (.float .f64 m')).run P w= .ok v w)(next:cL P n c ops l k Q ((d,v)::e) M D):
  cR P n c ops (some d) (.binOp op S x y S') T l k Q e M D:=
 xW hd (fun a w hf=>by simp [execOp,dM,hf.ev hx,hf.ev hy,og,hr]) next
theorem AF{m m' r:Nat}(hd:Nat.blt d n=true)(hx:ev e x=some (.float .f64 m))(hy:ev e y=some (.float .f64 m'))(hr:Ieee.double.div m m'=some r)(next:cL P n c ops l k Q ((d, .float .f64 r)::e) M D):cR P n c ops (some d) (.binOp .quo S x y S') T l k Q e M D:=
 po hd hx hy (fun w=>run_float_arith w .quo S .f64 m m' r hr) next
theorem rt{m m' r:Nat}(hd:Nat.blt d n=true)(hx:ev e x=some (.float .f64 m))(hy:ev e y=some (.float .f64 m'))(hr:Ieee.double.mul m m'=some r)(next:cL P n c ops l k Q ((d, .float .f64 r)::e) M D):cR P n c ops (some d) (.binOp .mul S x y S') T l k Q e M D:=
 po hd hx hy (fun w=>run_float_arith w .mul S .f64 m m' r hr) next
theorem GJ{m m':Nat}{b:Bool}(hd:Nat.blt d n=true)(hx:ev e x=some (.float .f64 m))(hy:ev e y=some (.float .f64 m'))(hr:(Ieee.double.order m m'==some .lt)=b)(next:cL P n c ops l k Q ((d, .bool b)::e) M D):cR P n c ops (some d) (.binOp .lss S x y S') T l k Q e M D:=
 po hd hx hy (fun w=>by subst hr;simp [binOp,Op.floatCmp,FloatKind.format]) next
theorem GK{m m':Nat}{b:Bool}(hd:Nat.blt d n=true)(hx:ev e x=some (.float .f64 m))(hy:ev e y=some (.float .f64 m'))(hr:(Ieee.double.order m m'==some .gt)=b)(next:cL P n c ops l k Q ((d, .bool b)::e) M D):cR P n c ops (some d) (.binOp .gtr S x y S') T l k Q e M D:=
 po hd hx hy (fun w=>by subst hr;simp [binOp,Op.floatCmp,FloatKind.format]) next
theorem GL{m m':Nat}{b:Bool}(hd:Nat.blt d n=true)(hx:ev e x=some (.float .f64 m))(hy:ev e y=some (.float .f64 m'))(hr:(Ieee.double.order m m'==some .eq)=b)(next:cL P n c ops l k Q ((d, .bool b)::e) M D):cR P n c ops (some d) (.binOp .eql S x y S') T l k Q e M D:=
 po hd hx hy (fun w=>by subst hr;simp [binOp,Op.floatCmp,FloatKind.format]) next
theorem GM{m m':Nat}{b:Bool}(hd:Nat.blt d n=true)(hx:ev e x=some (.float .f64 m))(hy:ev e y=some (.float .f64 m'))(hr:(Ieee.double.order m m' !=some .eq)=b)(next:cL P n c ops l k Q ((d, .bool b)::e) M D):cR P n c ops (some d) (.binOp .neq S x y S') T l k Q e M D:=
 po hd hx hy (fun w=>by subst hr;simp [binOp,Op.floatCmp,FloatKind.format]) next
theorem GN{m r:Nat}(hd:Nat.blt d n=true)(hx:ev e x=some (.float .f64 m))(hr:m^^^2^63=r)(next:cL P n c ops l k Q ((d, .float .f64 r)::e) M D):cR P n c ops (some d) (.unOp .neg S x) T l k Q e M D:=
 xW hd (fun a w hf=>by
  subst hr
  simp [execOp,dM,hf.ev hx,Op.unary,Op.negFloat,FloatKind.format,Ieee.double]) next
theorem lR{kd:IntKind}{m:Int}(hS:(P.underlying S).isSome=true)(hS':P.underlying S'=some (.float .f64))(hd:Nat.blt d n=true)(hx:ev e x=some (.int kd m))(next:cL P n c ops l k Q ((d, .float .f64 (dT (decide (m<0)) m.natAbs 0))::e) M D):
  cR P n c ops (some d) (.convert S S' x) T l k Q e M D:=
 xW hd (fun a w hf=>by
  have:=run_convert_int_float (P:=P) (w:=w) S S' kd .f64 m hS hS'
  simp [execOp,dM,hf.ev hx,this]
  rfl) next
theorem lS{kd:IntKind}{m:Nat}{r:Int}(hS:(P.underlying S).isSome=true)(hS':P.underlying S'=some (.int kd))(hd:Nat.blt d n=true)(hx:ev e x=some (.float .f64 m))(hr:(Ieee.double.read m).toInt .zero=some r)(h1:kd.min≤r)(h2:r≤kd.max)
  (next:cL P n c ops l k Q ((d, .int kd r)::e) M D):cR P n c ops (some d) (.convert S S' x) T l k Q e M D:=
 xW hd (fun a w hf=>by
  have:=run_convert_float_int (P:=P) w S S' .f64 kd m r hS hS' (by unfold floatToIntVal;show(match (Ieee.double.read m).toInt .zero with|some n=>if kd.min≤n∧n≤kd.max then some n else none|none=>none)=_;rw [hr];simp [h1,h2])
  simp [execOp,dM,hf.ev hx,this]) next
theorem pu{kd kd':IntKind}{m r:Int}(hS:P.underlying S=some (.int kd))(hS':P.underlying S'=some (.int kd'))(hd:Nat.blt d n=true)(hx:ev e x=some (.int kd m))(hr:kd'.wrap m=r)
  (next:cL P n c ops l k Q ((d, .int kd' r)::e) M D):cR P n c ops (some d) (.convert S S' x) T l k Q e M D:=
 xW hd (fun a w hf=>by
  subst hr
  have:(convert S S' (.int kd m)).run P w= .ok (.int kd' (kd'.wrap m)) w:=by simp [convert,run_underlying hS,run_underlying hS',Conv.intToInt]
  simp [execOp,dM,hf.ev hx,this]) next
theorem op_int'{op:BinOp}{kd kd':IntKind}{m m':Int}{v:Value}(hd:Nat.blt d n=true)(hx:ev e x=some (.int kd m))(hy:ev e y=some (.int kd' m'))(hr: ∀ w,(binOp op S (.int kd m) (.int kd' m')).run P w= .ok v w)(next:cL P n c ops l k Q ((d,v)::e) M D):
  cR P n c ops (some d) (.binOp op S x y S') T l k Q e M D:=
 xW hd (fun a w hf=>by simp [execOp,dM,hf.ev hx,hf.ev hy,fI,hr]) next
theorem sZ{m:Nat}(h:m<18446744073709551616):(BitVec.ofInt 64 (m:Int)).toNat=m:=by
 rw [BitVec.ofInt_natCast,BitVec.toNat_ofNat];exact Nat.mod_eq_of_lt h
theorem AG{m m' r:Nat}(hd:Nat.blt d n=true)(hx:ev e x=some (.int .u64 (m:Int)))(hy:ev e y=some (.int .u64 (m':Int)))(hm:m<18446744073709551616)(hm':m'<18446744073709551616)(hr:m &&& m'=r)(next:cL P n c ops l k Q ((d, .int .u64 (r:Int))::e) M D):
  cR P n c ops (some d) (.binOp .and S x y S') T l k Q e M D:=
 op_int' hd hx hy (fun w=>by
  subst hr
  have h1:m &&& m'<18446744073709551616:=Nat.lt_of_le_of_lt Nat.and_le_left hm
  have h2:(BitVec.ofInt IntKind.u64.bits (m:Int) &&& BitVec.ofInt IntKind.u64.bits (m':Int)).toNat=m &&& m':=by
   have e1:=sZ hm;have e2:=sZ hm';rw [BitVec.toNat_and];show(BitVec.ofInt 64 _).toNat &&& (BitVec.ofInt 64 _).toNat=_;rw [e1,e2]
  simp only [binOp,Op.intBits,h2,tQ h1]
  rfl) next
theorem It{m m' r:Nat}(hd:Nat.blt d n=true)(hx:ev e x=some (.int .u64 (m:Int)))(hy:ev e y=some (.int .u64 (m':Int)))(hm:m<18446744073709551616)(hm':m'<18446744073709551616)(hr:m|||m'=r)(next:cL P n c ops l k Q ((d, .int .u64 (r:Int))::e) M D):
  cR P n c ops (some d) (.binOp .or S x y S') T l k Q e M D:=
 op_int' hd hx hy (fun w=>by
  subst hr
  have h1:m|||m'<18446744073709551616:=Nat.or_lt_two_pow (n:=64) hm hm'
  have h2:(BitVec.ofInt IntKind.u64.bits (m:Int)|||BitVec.ofInt IntKind.u64.bits (m':Int)).toNat=m|||m':=by
   have e1:=sZ hm;have e2:=sZ hm';rw [BitVec.toNat_or];show(BitVec.ofInt 64 _).toNat|||(BitVec.ofInt 64 _).toNat=_;rw [e1,e2]
  simp only [binOp,Op.intBits,h2,tQ h1]
  rfl) next
theorem jF{yk:IntKind}{m s r:Nat}(hd:Nat.blt d n=true)(hx:ev e x=some (.int .u64 (m:Int)))(hy:ev e y=some (.int yk (s:Int)))(hs:s≤64)(hr:m*2^s=r)(hr':r<18446744073709551616)(next:cL P n c ops l k Q ((d, .int .u64 (r:Int))::e) M D):
  cR P n c ops (some d) (.binOp .shl S x y S') T l k Q e M D:=
 op_int' hd hx hy (fun w=>by
  subst hr
  have h1:min s IntKind.u64.bits=s:=Nat.min_eq_left hs
  have h2:((m:Int)*2^s)=((m*2^s:Nat):Int):=by push_cast;rfl
  simp only [binOp,Op.shift,if_neg (show ¬ ((s:Int)<0)by omega),Int.toNat_natCast,h1,h2,tQ hr']
  rfl) next
theorem mS{yk:IntKind}{m s r:Nat}(hd:Nat.blt d n=true)(hx:ev e x=some (.int .u64 (m:Int)))(hy:ev e y=some (.int yk (s:Int)))(hs:s≤64)(hr:m/2^s=r)(next:cL P n c ops l k Q ((d, .int .u64 (r:Int))::e) M D):
  cR P n c ops (some d) (.binOp .shr S x y S') T l k Q e M D:=
 op_int' hd hx hy (fun w=>by
  subst hr
  have h1:min s IntKind.u64.bits=s:=Nat.min_eq_left hs
  have h2:(m:Int).fdiv (2^s)=((m/2^s:Nat):Int):=by
   rw [Int.fdiv_eq_ediv_of_nonneg _ (by exact_mod_cast Nat.zero_le (2^s))];push_cast;rfl
  simp only [binOp,Op.shift,if_neg (show ¬ ((s:Int)<0)by omega),Int.toNat_natCast,h1,h2]
  rfl) next
end rules
theorem mT(P:Program)(Q:Post)(g:Nat)(a:Act)(w:World): ∀ (k:List KI),Kp P k Q (.goto g) a w→Q (.goto g) a w
  |[],h=>h
  | .code _::k,h=>mT P Q g a w k h
  | .cont _::k,h=>mT P Q g a w k h
  | .blk _::k,h=>mT P Q g a w k h
theorem BX{F:List Nat}(P:Program)(c:Ctx F)(fn:Func)(R:Value→List HA→List DA→Prop): ∀ g a w,¬ mC P c fn R (.goto g) a w:=fun g a w h=>h
section rules
variable {P:Program} {n:Nat} {F:List Nat} {c:Ctx F} {ops:Array Oper} {d:Nat} {T:TypeId} {l:List Oper} {k:List KI} {Q:Post} {e:dI} {M:List HA} {D:List DA}
variable {x y:Operand} {S S':TypeId}
theorem BY{z:Code}(hQ: ∀ g a w,¬ Q (.goto g) a w)(h:Run P n c (.code z::k) Q e M D):Run P n c (.code (.scope z)::k) Q e M D:=fun a w hf=>
  wp_scope_straight (wp_mono (h a w hf) (fun e' a' w' h'=>by
    cases e' with
    |goto g=>exact(hQ g a' w' (mT P Q g a' w' k h')).elim
    |_=>exact h'))
theorem BZ{g:Nat}(h:Run P n c k Q e M D):Run P n c (.code (.label g)::k) Q e M D:=fun a w hf=>wp_label (h a w hf)
theorem x8{b:Bool}(hS:P.underlying S=some .bool)(hd:Nat.blt d n=true)(hx:ev e x=some (.bool true))(hy:ev e y=some (.bool b))(next:cL P n c ops l k Q ((d, .bool b)::e) M D):cR P n c ops (some d) (.binOp .eql S x y S') T l k Q e M D:=
 xW hd (fun a w hf=>by
  have h1:(eqGuard .eql S x y (.bool true) (.bool b)).run P w= .ok () w:=rfl
  have h2:(binOp .eql S (.bool true) (.bool b)).run P w= .ok (.bool b) w:=by rw [run_eql_bool w S true b hS];simp
  simp [execOp,dM,hf.ev hx,hf.ev hy,h1,h2]) next
theorem ru{m m' s:Int}{ts:Array TypeId}(hd:Nat.blt d n=true)(hx:ev e x=some (.int .i64 m))(hy:ev e y=some (.int .i64 m'))(hs:min m m'=s)(next:cL P n c ops l k Q ((d, .int .i64 s)::e) M D):
  cR P n c ops (some d) (.call {callee:= .builtin .min,args:= #[x,y],argTypes:=ts}) T l k Q e M D:=
 xW hd (fun a w hf=>by
  subst hs
  have h1:(if m'<m then m' else m)=min m m':=by split<;>omega
  simp [execOp,dM,resolve,invoke,builtin,hf.ev hx,hf.ev hy,run_min_int2,h1]) next
theorem rv{m m' s:Int}{ts:Array TypeId}(hd:Nat.blt d n=true)(hx:ev e x=some (.int .i64 m))(hy:ev e y=some (.int .i64 m'))(hs:max m m'=s)(next:cL P n c ops l k Q ((d, .int .i64 s)::e) M D):
  cR P n c ops (some d) (.call {callee:= .builtin .max,args:= #[x,y],argTypes:=ts}) T l k Q e M D:=
 xW hd (fun a w hf=>by
  subst hs
  have h1:(if m<m' then m' else m)=max m m':=by split<;>omega
  simp [execOp,dM,resolve,invoke,builtin,hf.ev hx,hf.ev hy,run_max_int2,h1]) next
theorem mU{m m' r:Nat}(hd:Nat.blt d n=true)(hx:ev e x=some (.int .u64 (m:Int)))(hy:ev e y=some (.int .u64 (m':Int)))(hr:m+m'=r)(hr':r<18446744073709551616)(next:cL P n c ops l k Q ((d, .int .u64 (r:Int))::e) M D):
  cR P n c ops (some d) (.binOp .add S x y S') T l k Q e M D:=by
 refine qr hd hx hy ?_
 subst hr
 rw [show((m:Int)+m')=((m+m':Nat):Int)by omega,tQ hr']
 exact next
theorem AH{m m' r:Nat}(hd:Nat.blt d n=true)(hx:ev e x=some (.int .u64 (m:Int)))(hy:ev e y=some (.int .u64 (m':Int)))(hle:m'≤m)(hr:m - m'=r)(hr':r<18446744073709551616)(next:cL P n c ops l k Q ((d, .int .u64 (r:Int))::e) M D):
  cR P n c ops (some d) (.binOp .sub S x y S') T l k Q e M D:=by
 refine qt hd hx hy ?_
 subst hr
 rw [show((m:Int) - m')=((m - m':Nat):Int)by omega,tQ hr']
 exact next
theorem AI{m m' r:Nat}(hd:Nat.blt d n=true)(hx:ev e x=some (.int .u64 (m:Int)))(hy:ev e y=some (.int .u64 (m':Int)))(hr:m*m'=r)(hr':r<18446744073709551616)(next:cL P n c ops l k Q ((d, .int .u64 (r:Int))::e) M D):
  cR P n c ops (some d) (.binOp .mul S x y S') T l k Q e M D:=by
 refine wv hd hx hy ?_
 subst hr
 rw [←Int.natCast_mul,tQ hr']
 exact next
theorem GO{m:Nat}(h:m<256):IntKind.u8.wrap (m:Int)=m:=by
 have:((m:Int)%256)=m:=by omega
 simpa [IntKind.wrap,IntKind.bits,IntKind.signed]using this
theorem uo{m m' r:Nat}(hd:Nat.blt d n=true)(hx:ev e x=some (.int .u8 (m:Int)))(hy:ev e y=some (.int .u8 (m':Int)))(hle:m'≤m)(hr:m - m'=r)(hr':r<256)(next:cL P n c ops l k Q ((d, .int .u8 (r:Int))::e) M D):
  cR P n c ops (some d) (.binOp .sub S x y S') T l k Q e M D:=by
 refine qt hd hx hy ?_
 subst hr
 rw [show((m:Int) - m')=((m - m':Nat):Int)by omega,GO hr']
 exact next
theorem Ba{fo:Operand}{ags:Array Operand}{ts:Array TypeId}{f:FuncId}{fn:Func}{ent:Array Value→Sem Value}{vs:List Value}{v:Value}(hF:P.funcs[f]? =some fn)(hname:(fn.name== "runtime.NumGoroutine")=false)(hb:fn.body.isNone=true)(hn:Extern.findNext fn=none)(he:Extern.find fn=some ent)
  (hd:Nat.blt d n=true) (hfo:ev e fo=some (.func (.func f) #[] #[])) (has:ags.toList.mapM (ev e)=some vs) (hr: ∀ w,(ent vs.toArray).run P w= .ok v w) (next:cL P n c ops l k Q ((d,v)::e) M D):
  cR P n c ops (some d) (.call {callee:= .value fo,args:=ags,argTypes:=ts}) T l k Q e M D:=
 xW hd (fun a w hf=>by
  have hargs:ags.map a.eval=vs.toArray:=by
   apply Array.ext'
   simpa using zg hf has
  have h1:=run_callFunc_extern hF hname hb hn he vs.toArray w
  rw [hr w]at h1
  simp [execOp,dM,resolve,hf.ev hfo,Deferred.ofValue,invoke,hargs,h1]) next
theorem oh(m:Nat){E sz by_:Nat}(hS:cd P S E sz by_)(hd:Nat.blt d n=true)(hx:ev e x=some (.int .i64 0))(hy:ev e y=some (.int .i64 (m:Nat)))(hm:m≤1000000)(hby:m*by_≤1000000)
  (next: ∀ b,cL P n c ops l k Q ((d, .slice (some ⟨b,0,none⟩) 0 m)::e) (.row (some ⟨b,0,none⟩) 0 m E sz []::M) D):cR P n c ops (some d) (.makeSlice S x y) T l k Q e M D:=by
 obtain⟨ti,z,hu,hinf,hs1,hb1,hz,hzs,hsz0⟩:=hS
 intro a w hf
 subst hs1;subst hb1
 have h63:m≤maxLen:=by unfold maxLen;omega
 have hbb:(ti.bytes:Int)*(m:Int)≤281474976710656:=by
  have h1:((ti.bytes*m:Nat):Int)≤281474976710656:=by rw [Nat.mul_comm];omega
  rwa [Int.natCast_mul]at h1
 have hr:=run_make (P:=P) w S E ti z hu hinf hz .i64 .i64 0 (m:Int) (Int.le_refl _) aC hbb aC
 simp only [Int.toNat_zero,Int.toNat_natCast]at hr
 have hrun:(execOp a.eval (dM (some d) (.makeSlice S x y) T)).run P w= .ok (.value (.slice (some ⟨w.heap.size,0,none⟩) 0 m)) (w.alloc (.cells (madeCells z.cells (m*ti.size)) E)):=by
  simp only [execOp,dM,hf.ev hx,hf.ev hy,Sem.run_bind,hr,Result.andThen_ok,Sem.run_pure]
 unfold Oper.wp
 rw [hrun]
 have hx2:(HA.row (some ⟨w.heap.size,0,none⟩) 0 m E ti.size []).holds (w.alloc (.cells (madeCells z.cells (m*ti.size)) E)):=World.ownsRow_made w _ m (Nat.zero_le _) h63 (size_madeCells _ _)
 exact next w.heap.size _ _ ((hf.world (hf.toFitsW.new _ hx2 Z)).put hd _)
end rules
def DA.cs(l:List (Addr×Value)):DA:=⟨fun w ok=> ∀ q∈l,ok q.1.block∧w.cell? q.1=some q.2,fun {w w' ok ok'} h1 h2 h q hq=>⟨h1 _ (h q hq).1,by
 rw [rJ (w:=w) (w':=w') (a:=q.1) (h2 _ (h q hq).1)];exact(h q hq).2⟩⟩
section rules
variable {P:Program} {n:Nat} {F:List Nat} {c:Ctx F} {ops:Array Oper} {d:Nat} {T:TypeId} {l:List Oper} {k:List KI} {Q:Post} {e:dI} {M:List HA} {D:List DA}
theorem sR(j i:Nat){x:Operand}{p:Addr}{v:Value}{q:List (Addr×Value)}(hT:cb P T)(hd:Nat.blt d n=true)(hx:ev e x=some (.pointer (some p)))(hj:D[j]? =some (.cs q))(hi:q[i]? =some (p,v))
  (next:cL P n c ops l k Q ((d,v)::e) M D) {T':TypeId}:cR P n c ops (some d) (.load T x) T' l k Q e M D:=
 yH hT hd hx (fun _ h=>((h.dt hj:_) _ (List.mem_of_getElem? hi)).2) next
end rules
def rx(P:Program)(E sz:Nat):Prop:= ∃ti,P.info? E=some ti∧ti.size=sz
section rules
variable {P:Program} {n:Nat} {F:List Nat} {c:Ctx F} {ops:Array Oper} {d:Nat} {T:TypeId} {l:List Oper} {k:List KI} {Q:Post} {e:dI} {M:List HA} {D:List DA}
variable {x y:Operand} {S S':TypeId}
theorem pV{A:Addr}{i N E sz:Nat}{kd:IntKind}(hS:P.underlying S=some (.array N E))(hE:rx P E sz)(hd:Nat.blt d n=true)(hx:ev e x=some (.pointer (some A)))(hy:ev e y=some (.int kd (i:Nat)))(hi:i<N)
  (next:cL P n c ops l k Q ((d, .pointer (some (A.add (i*sz))))::e) M D):cR P n c ops (some d) (.indexAddr S x y) T l k Q e M D:=by
 obtain⟨ti,hinf,hs⟩:=hE
 refine xW hd (fun a w hfit=>?_) next
 simp [execOp,dM,hfit.ev hx,hfit.ev hy,Instr.indexAt,Instr.sureAddr,asIntOf,run_underlying hS,wB hinf,hs,hi]
theorem uq{A:Addr}{N E sz:Nat}(hS:P.underlying S=some (.array N E))(hE:rx P E sz)(hd:Nat.blt d n=true)(hx:ev e x=some (.pointer (some A)))
  (next:cL P n c ops l k Q ((d, .slice (some A) N N)::e) M D):cR P n c ops (some d) (.slice S x none none none) T l k Q e M D:=by
 obtain⟨ti,hinf,hs⟩:=hE
 refine xW hd (fun a w hfit=>?_) next
 have h0:A.add 0=A:=by simp [Addr.add]
 simp [execOp,dM,hfit.ev hx,Instr.sliceAt,Instr.sureAddr,Instr.sliceBounds,run_underlying hS,wB hinf,h0]
theorem ni{A:Option Addr}{m cap h E sz by_:Nat}{kd:IntKind}(hS:cd P S E sz by_)(hd:Nat.blt d n=true)(hx:ev e x=some (.slice A m cap))(hy:ev e y=some (.int kd (h:Nat)))(hh:h≤cap)(h0:0<cap)
  (next:cL P n c ops l k Q ((d, .slice A h cap)::e) M D):cR P n c ops (some d) (.slice S x none (some y) none) T l k Q e M D:=by
 obtain⟨ti,z,hu,hinf,hs,_⟩:=hS
 refine xW hd (fun a w hfit=>?_) next
 have hmap:A.map (fun q=>q.add 0)=A:=by cases A<;>simp [Addr.add]
 simp [execOp,dM,hfit.ev hx,hfit.ev hy,Instr.sliceAt,Instr.slice,Instr.sliceBounds,Instr.sliceBound,asIntOf,run_underlying hu,wB hinf,hh,hmap]
theorem AJ{yk:IntKind}{m r:Int}{s:Nat}(hd:Nat.blt d n=true)(hx:ev e x=some (.int .i64 m))(hy:ev e y=some (.int yk (s:Nat)))(hs:s≤64)(hr:m.fdiv (2^s)=r)(next:cL P n c ops l k Q ((d, .int .i64 r)::e) M D):
  cR P n c ops (some d) (.binOp .shr S x y S') T l k Q e M D:=
 op_int' hd hx hy (fun w=>by
  subst hr
  have h1:min s IntKind.i64.bits=s:=Nat.min_eq_left hs
  simp only [binOp,Op.shift,if_neg (show ¬ ((s:Int)<0)by omega),Int.toNat_natCast,h1]
  rfl) next
end rules
section bins
variable {P:Program} {S:TypeId}
theorem Du{m m' r:Nat}(h0:m'≠0)(hr:m/m'=r)(hr':r<18446744073709551616)(w:World):(binOp .quo S (.int .u64 (m:Int)) (.int .u64 (m':Int))).run P w= .ok (.int .u64 (r:Int)) w:=by
 subst hr
 have h1:((m':Int)=0)=False:=eq_false aC
 have h2:(m:Int).tdiv m'=((m/m':Nat):Int):=(Int.ofNat_tdiv ..).symm
 simp [binOp,Op.intDiv,h0,h2]
 simpa using tQ hr'
theorem Dv{m m' r:Nat}(h0:m'≠0)(hr:m%m'=r)(w:World):(binOp .rem S (.int .u64 (m:Int)) (.int .u64 (m':Int))).run P w= .ok (.int .u64 (r:Int)) w:=by
 subst hr
 have h2:(m:Int).tmod m'=((m%m':Nat):Int):=(Int.ofNat_tmod ..).symm
 simp [binOp,Op.intDiv,h0,h2]
theorem Dw{m m' r:Nat}(hm:m<18446744073709551616)(hm':m'<18446744073709551616)(hr:m &&& m'=r)(w:World):(binOp .and S (.int .u64 (m:Int)) (.int .u64 (m':Int))).run P w= .ok (.int .u64 (r:Int)) w:=by
 subst hr
 have h1:m &&& m'<18446744073709551616:=Nat.lt_of_le_of_lt Nat.and_le_left hm
 have h2:(BitVec.ofInt IntKind.u64.bits (m:Int) &&& BitVec.ofInt IntKind.u64.bits (m':Int)).toNat=m &&& m':=by
  have e1:=sZ hm;have e2:=sZ hm';rw [BitVec.toNat_and];show(BitVec.ofInt 64 _).toNat &&& (BitVec.ofInt 64 _).toNat=_;rw [e1,e2]
 simp only [binOp,Op.intBits,h2,tQ h1]
 rfl
theorem ry{m m' r:Nat}(hm:m<18446744073709551616)(hm':m'<18446744073709551616)(hr:m|||m'=r)(w:World):(binOp .or S (.int .u64 (m:Int)) (.int .u64 (m':Int))).run P w= .ok (.int .u64 (r:Int)) w:=by
 subst hr
 have h1:m|||m'<18446744073709551616:=Nat.or_lt_two_pow (n:=64) hm hm'
 have h2:(BitVec.ofInt IntKind.u64.bits (m:Int)|||BitVec.ofInt IntKind.u64.bits (m':Int)).toNat=m|||m':=by
  have e1:=sZ hm;have e2:=sZ hm';rw [BitVec.toNat_or];show(BitVec.ofInt 64 _).toNat|||(BitVec.ofInt 64 _).toNat=_;rw [e1,e2]
 simp only [binOp,Op.intBits,h2,tQ h1]
 rfl
theorem ur{m m' r:Nat}(hm:m<4294967296)(hm':m'<4294967296)(hr:m &&& m'=r)(w:World):(binOp .and S (.int .i64 (m:Int)) (.int .i64 (m':Int))).run P w= .ok (.int .i64 (r:Int)) w:=by
 subst hr
 have h1:m &&& m'<4294967296:=Nat.lt_of_le_of_lt Nat.and_le_left hm
 have h2:(BitVec.ofInt IntKind.i64.bits (m:Int) &&& BitVec.ofInt IntKind.i64.bits (m':Int)).toNat=m &&& m':=by
  have e1:=sZ (m:=m) aC;have e2:=sZ (m:=m') aC;rw [BitVec.toNat_and];show(BitVec.ofInt 64 _).toNat &&& (BitVec.ofInt 64 _).toNat=_;rw [e1,e2]
 simp only [binOp,Op.intBits,h2,tJ (show -9223372036854775808≤((m &&& m':Nat):Int)by omega) aC]
 rfl
theorem nj{yk:IntKind}{m s r:Nat}(hs:s≤64)(hr:m/2^s=r)(w:World):(binOp .shr S (.int .u64 (m:Int)) (.int yk (s:Int))).run P w= .ok (.int .u64 (r:Int)) w:=by
 subst hr
 have h1:min s IntKind.u64.bits=s:=Nat.min_eq_left hs
 have h2:(m:Int).fdiv (2^s)=((m/2^s:Nat):Int):=by
  rw [Int.fdiv_eq_ediv_of_nonneg _ (by exact_mod_cast Nat.zero_le (2^s))];push_cast;rfl
 simp only [binOp,Op.shift,if_neg (show ¬ ((s:Int)<0)by omega),Int.toNat_natCast,h1,h2]
 rfl
theorem ut{yk:IntKind}{m s r:Nat}(hs:s≤64)(hr:m*2^s=r)(hr':r<4294967296)(w:World):(binOp .shl S (.int .i64 (m:Int)) (.int yk (s:Int))).run P w= .ok (.int .i64 (r:Int)) w:=by
 subst hr
 have h1:min s IntKind.i64.bits=s:=Nat.min_eq_left hs
 have h2:((m:Int)*2^s)=((m*2^s:Nat):Int):=by push_cast;rfl
 simp only [binOp,Op.shift,if_neg (show ¬ ((s:Int)<0)by omega),Int.toNat_natCast,h1,h2,tJ (show -9223372036854775808≤((m*2^s:Nat):Int)by omega) aC]
 rfl
theorem uu{m m' r:Nat}(hle:m'≤m)(hr:m - m'=r)(hr':r<18446744073709551616)(w:World):(binOp .sub S (.int .u64 (m:Int)) (.int .u64 (m':Int))).run P w= .ok (.int .u64 (r:Int)) w:=by
 subst hr
 have:IntKind.u64.wrap ((m:Int) - m')=((m - m':Nat):Int):=by rw [show((m:Int) - m')=((m - m':Nat):Int)by omega,tQ hr']
 simp [binOp,Op.intArith,this]
end bins
section rules
variable {P:Program} {n:Nat} {F:List Nat} {c:Ctx F} {ops:Array Oper} {d:Nat} {T:TypeId} {l:List Oper} {k:List KI} {Q:Post} {e:dI} {M:List HA} {D:List DA}
variable {x y:Operand} {S S':TypeId}
theorem nl{op:BinOp}{kd kd':IntKind}{m m':Int}{v:Value}(hr: ∀ w,(binOp op S (.int kd m) (.int kd' m')).run P w= .ok v w)(hd:Nat.blt d n=true)(hx:ev e x=some (.int kd m))(hy:ev e y=some (.int kd' m'))(next:cL P n c ops l k Q ((d,v)::e) M D):
  cR P n c ops (some d) (.binOp op S x y S') T l k Q e M D:=op_int' hd hx hy hr next
theorem qK{op:BinOp}{kd kd':IntKind}{m m':Int}{v:Value}(hr: ∀ w,(binOp op S (.int kd m) (.int kd' m')).run P w= .ok v w)(hx:ev e x=some (.int kd m))(hy:ev e y=some (.int kd' m')):
  St P n c (.binOp op S x y S') T e M D v:=
 fun _ a w hf=>by simp [execOp,dM,hf.ev hx,hf.ev hy,fI,hr]
theorem Bb{kd kd':IntKind}{m r:Int}(hS:P.underlying S=some (.int kd))(hS':P.underlying S'=some (.int kd'))(hx:ev e x=some (.int kd m))(hr:kd'.wrap m=r):St P n c (.convert S S' x) T e M D (.int kd' r):=
 fun _ a w hf=>by
  subst hr
  have:(convert S S' (.int kd m)).run P w= .ok (.int kd' (kd'.wrap m)) w:=by simp [convert,run_underlying hS,run_underlying hS',Conv.intToInt]
  simp [execOp,dM,hf.ev hx,this]
theorem uv{A:Addr}{N E sz:Nat}(hS:P.underlying S=some (.array N E))(hE:rx P E sz)(hx:ev e x=some (.pointer (some A))):St P n c (.slice S x none none none) T e M D (.slice (some A) N N):=by
 obtain⟨ti,hinf,hs⟩:=hE
 intro _ a w hfit
 have h0:A.add 0=A:=by simp [Addr.add]
 simp [execOp,dM,hfit.ev hx,Instr.sliceAt,Instr.sureAddr,Instr.sliceBounds,run_underlying hS,wB hinf,h0]
end rules
end Go.Jw

namespace Go.Jw
open Go Go.Lib
abbrev KH:=Nat×Nat×Int×Bool
def dO(st:KH)(c:UInt8):KH:=
 if c=46 then(st.1,st.2.1,(st.2.1:Int),true)else if c=48∧st.2.1=0 then(st.1,st.2.1,st.2.2.1 - 1,st.2.2.2)else(st.1*10+(c.toNat - 48),st.2.1+1,st.2.2.1,st.2.2.2)
def rf(l:List UInt8):KH:=l.foldl dO (0,0,0,false)
theorem mV(l:List UInt8)(c:UInt8):rf (l++[c])=dO (rf l) c:=by unfold rf;rw [List.foldl_append];rfl
theorem mW{l:List UInt8}{i:Nat}(h:i<l.length):rf (l.take (i+1))=dO (rf (l.take i)) l[i]:=by
 rw [List.take_succ_eq_append_getElem h,mV]
def Dgt(c:UInt8):Prop:=48≤c.toNat∧c.toNat≤57
theorem Dgt.ne{c:UInt8}(h:Dgt c):c≠46:=by rintro rfl;exact absurd h.1 aE
structure Dec(l:List UInt8):Prop where
 all: ∀ c∈l,c=46∨Dgt c
 one:l.count 46≤1
 len:l.length≤18
theorem GP{α:Type}{p:List α→Prop}(h0:p [])(h1: ∀ l a,p l→p (l++[a]))(l:List α):p l:=by
  have: ∀ r:List α,p r.reverse:=fun r=>by
    induction r with
    |nil=>exact h0
    |cons a r ih=>rw [List.reverse_cons];exact h1 _ _ ih
  have h:=this l.reverse
  rwa [List.reverse_reverse]at h
theorem px: ∀ (l:List UInt8) (h: ∀ c∈l,c=46∨Dgt c),(rf l).1<10^(rf l).2.1∧(rf l).2.1≤l.length∧((rf l).2.2.2=decide (46∈l))∧ -(l.length:Int)≤(rf l).2.2.1∧(rf l).2.2.1≤l.length:=by
  refine GP (fun _=>by simp [rf]) (fun l c ih h=>?_)
  · obtain⟨h1,h2,h3,h4,h5⟩:=ih fun x hx=>h x (by simp [hx])
    rw [mV]
    unfold dO
    rcases h c aJ with rfl|hd
    · rw [if_pos rfl]
      refine⟨h1,by simp;omega,by simp,?_,?_⟩<;>simp<;>omega
    · rw [if_neg hd.ne]
      have hne:(46:UInt8)≠c:=fun e=>hd.ne e.symm
      split
      · refine⟨h1,by simp;omega,by simp [h3,hne],?_,?_⟩<;>simp<;>omega
      · refine⟨?_,by simp;omega,by simp [h3,hne],?_,?_⟩
        · simp only [Nat.pow_succ]
          have:=hd.2
          omega
        · simp;omega
        · simp;omega
theorem Dec.take{l:List UInt8}(h:Dec l)(i:Nat): ∀ c∈l.take i,c=46∨Dgt c:=fun c hc=>h.all c (List.mem_of_mem_take hc)
theorem Dec.lt{l:List UInt8}(h:Dec l)(i:Nat):(rf (l.take i)).1<1000000000000000000∧(rf (l.take i)).2.1≤18∧ -18≤(rf (l.take i)).2.2.1∧(rf (l.take i)).2.2.1≤18:=by
 obtain⟨h1,h2,_,h4,h5⟩:=px _ (h.take i)
 have h6:(l.take i).length≤18:=by rw [List.length_take];have:=h.len;omega
 have h7:10^(rf (l.take i)).2.1≤10^18:=Nat.pow_le_pow_right aC aC
 exact⟨aC,aC,aC,aC⟩
theorem Dec.nodot{l:List UInt8}(h:Dec l){i:Nat}(hi:i<l.length)(hc:l[i]=46):(rf (l.take i)).2.2.2=false:=by
 rw [(px _ (h.take i)).2.2.1]
 simp only [decide_eq_false_iff_not]
 intro hm
 have h1:l.count 46=(l.take i).count 46+(l.drop i).count 46:=by rw [←List.count_append,List.take_append_drop]
 have h2:0<(l.take i).count 46:=List.count_pos_iff.2 hm
 have h3:0<(l.drop i).count 46:=List.count_pos_iff.2 (by rw [List.drop_eq_getElem_cons hi,hc];exact List.mem_cons_self)
 have:=h.one
 omega
theorem gj{d:Nat}(h:d<10):(UInt8.ofNat (48+d)).toNat=48+d:=by
 rw [UInt8.toNat_ofNat'];omega
theorem mX{d:Nat}(h:d<10):Dgt (UInt8.ofNat (48+d)):=by unfold Dgt;rw [gj h];omega
theorem fe(u:Nat): ∀ c∈decDigits u,Dgt c:=by
  induction u using Nat.strongRecOn with
  |_ u ih=>
    rw [decDigits]
    split
    · rename_i h
      intro c hc
      rw [List.mem_singleton]at hc
      subst hc
      exact mX h
    · rename_i h
      intro c hc
      rcases List.mem_append.1 hc with hc|hc
      · exact ih (u/10) aC c hc
      · rw [List.mem_singleton]at hc
        subst hc
        exact mX (Nat.mod_lt _ aC)
theorem Iu(u:Nat):rf (decDigits u)=if u=0 then(0,0, -1,false)else(u,nDigits u,0,false):=by
  induction u using Nat.strongRecOn with
  |_ u ih=>
    rw [decDigits]
    split
    · rename_i h
      rw [nDigits_small h,←List.nil_append [_],mV]
      unfold dO
      rw [if_neg (mX h).ne]
      by_cases h0:u=0
      · subst h0
        rfl
      · rw [if_neg (fun hh=>h0 (by have:=congrArg UInt8.toNat hh.1;rw [gj h]at this;have h48:(48:UInt8).toNat=48:=rfl;omega)),if_neg h0,gj h]
        simp [rf]
    · rename_i h
      rw [mV,ih (u/10) aC,if_neg aC,if_neg aC,nDigits_big h]
      have hm:u%10<10:=Nat.mod_lt _ aC
      unfold dO
      rw [if_neg (mX hm).ne,if_neg (fun hh=>by have:=nDigits_pos (u/10);have h2:nDigits (u/10)=0:=hh.2;omega),gj hm]
      simp only [Prod.mk.injEq,and_true]
      omega
theorem Iv(a b:List UInt8):rf (a++b)=b.foldl dO (rf a):=by unfold rf;rw [List.foldl_append]
structure Dx(fr:List UInt8)(q k:Nat):Prop where
 q3:0<q∧q<4
 k6:0<k∧k≤6
 all: ∀ c∈fr,c=46∨Dgt c
 one:fr.count 46=1
 len:fr.length=k+1
 hd:fr.head? =some 46
 get: ∃fv,4*fv=10^k*q∧ ∀ (u n:Nat) (p:Int),fr.foldl dO (u,n,p,false)=(u*10^k+fv,n+k,(n:Int),true)
theorem jG(l:List UInt8)(h:l.all (fun c=>c==46||decide (48≤c.toNat) && decide (c.toNat≤57))=true): ∀ c∈l,c=46∨Dgt c:=fun c hc=>by
 have:=List.all_eq_true.1 h c hc
 simp only [Bool.or_eq_true,beq_iff_eq,Bool.and_eq_true,decide_eq_true_eq]at this
 exact this
theorem Bc{q:Nat}(h0:0<q)(h:q<4): ∃k,Dx (frac q).data.toList q k∧(k=1∨k=2):=by
  match q,h0,h with
  |1,_,_=>exact⟨2,⟨aC,aC,jG _ rfl,rfl,rfl,rfl,25,rfl,fun u n p=>by
      show List.foldl dO _ [46,50,53]=_
      simp [dO];omega⟩,aC⟩
  |2,_,_=>exact⟨1,⟨aC,aC,jG _ rfl,rfl,rfl,rfl,5,rfl,fun u n p=>by
      show List.foldl dO _ [46,53]=_
      simp [dO]⟩,aC⟩
  |3,_,_=>exact⟨2,⟨aC,aC,jG _ rfl,rfl,rfl,rfl,75,rfl,fun u n p=>by
      show List.foldl dO _ [46,55,53]=_
      simp [dO];omega⟩,aC⟩
theorem ya{q:Nat}(h0:0<q)(h:q<4):Dx (De q).data.toList q 6:=by
  match q,h0,h with
  |1,_,_=>exact⟨aC,aC,jG _ rfl,rfl,rfl,rfl,250000,rfl,fun u n p=>by
      show List.foldl dO _ [46,50,53,48,48,48,48]=_
      simp [dO];omega⟩
  |2,_,_=>exact⟨aC,aC,jG _ rfl,rfl,rfl,rfl,500000,rfl,fun u n p=>by
      show List.foldl dO _ [46,53,48,48,48,48,48]=_
      simp [dO];omega⟩
  |3,_,_=>exact⟨aC,aC,jG _ rfl,rfl,rfl,rfl,750000,rfl,fun u n p=>by
      show List.foldl dO _ [46,55,53,48,48,48,48]=_
      simp [dO];omega⟩
theorem jc{u k:Nat}(h:u<10^k)(hk:0<k):nDigits u≤k:=by
  induction k generalizing u with
  |zero=>omega
  |succ k ih=>
    by_cases h9:u<10
    · rw [nDigits_small h9];omega
    · rw [nDigits_big h9]
      rcases Nat.eq_zero_or_pos k with rfl|hk'
      · omega
      · have:=ih (u:=u/10) (by rw [Nat.pow_succ]at h;omega) hk'
        omega
theorem uw{A:Nat}{fr:List UInt8}{k:Nat}(hA:A<1000000000)(hf:Dx fr (A%4) k):Dec (decDigits (A/4)++fr)∧ ∃m n:Nat,rf (decDigits (A/4)++fr)=(m,n+k,(n:Int),true)∧m*4=10^k*A∧0<m∧m<2^52∧n≤9:=by
 have hn:nDigits (A/4)≤9:=jc aC aC
 refine⟨⟨fun c hc=>?_,?_,?_⟩,?_⟩
 ·rcases List.mem_append.1 hc with hc|hc
  ·exact .inr (fe _ c hc)
  ·exact hf.all c hc
 ·rw [List.count_append,hf.one,List.count_eq_zero.2 (fun hm=>(fe _ _ hm).ne rfl)]
  omega
 ·rw [List.length_append,decDigits_length,hf.len]
  have:=hf.k6
  omega
 ·obtain⟨fv,h4,hg⟩:=hf.get
  have hpk:10^k≤10^6:=Nat.pow_le_pow_right aC hf.k6.2
  have hp0:0<10^k:=Nat.pow_pos aC
  have hm:(A/4*10^k+fv)*4=10^k*A:=by
   rw [Nat.add_mul,Nat.mul_comm fv 4,h4,Nat.mul_comm (A/4),Nat.mul_assoc,←Nat.mul_add]
   congr 1;omega
  have hA0:0<A:=by have:=hf.q3;omega
  have hm0:=Nat.mul_pos hp0 hA0
  have hm1:10^k*A≤10^6*A:=Nat.mul_le_mul_right A hpk
  rw [Iv,Iu]
  split
  ·rename_i hz
   rw [hg]
   refine⟨_,0,rfl,?_,?_,?_,aC⟩
   ·rw [hz]at hm;exact hm
   ·rw [hz]at hm;omega
   ·rw [hz]at hm;omega
  ·rw [hg]
   exact⟨_,_,rfl,hm,aC,aC,hn⟩
end Go.Jw

namespace Go.Jw
open Go Go.RowKit Go.Proofs
theorem Iw:Tryz.prog.info? 342=some Tryz.t342:=zU Tryz.typeInfo342
theorem Hu:gT Tryz.prog 342 (match Tryz.t342.zero with|some z=>z.cells.toList|none=>[]):=⟨Tryz.t342,_,Iw,rfl,rfl⟩
theorem rz:cN Tryz.prog 342 0 0:=⟨_,_,Tryz.t235,0,Tryz.underlying342,rfl,rfl,zU Tryz.typeInfo235,rfl⟩
theorem r0:cN Tryz.prog 342 1 1:=⟨_,_,Tryz.t235,0,Tryz.underlying342,rfl,rfl,zU Tryz.typeInfo235,rfl⟩
theorem r3:cN Tryz.prog 342 2 2:=⟨_,_,Tryz.t3,0,Tryz.underlying342,rfl,rfl,zU Tryz.typeInfo3,rfl⟩
theorem Ix:Tryz.prog.info? 359=some Tryz.t359:=zU Tryz.typeInfo359
theorem AK: ∃i,Tryz.prog.info? 359=some i∧i.size=2:=⟨_,Ix,rfl⟩
theorem AL:cN Tryz.prog 359 0 0:=⟨_,_,Tryz.t235,0,Tryz.underlying359,rfl,rfl,zU Tryz.typeInfo235,rfl⟩
theorem AM:cN Tryz.prog 359 1 1:=⟨_,_,Tryz.t235,0,Tryz.underlying359,rfl,rfl,zU Tryz.typeInfo235,rfl⟩
end Go.Jw

namespace Go.Jw
open Go Go.RowKit Go.Proofs
set_option maxRecDepth 8000
theorem GQ{s:ByteArray}{i:Nat}(h:i<s.size): ∃h':0<(s.extract i s.size).size,(s.extract i s.size)[0]=s[i]:=by
 have hs:(s.extract i s.size).size=s.size - i:=by simp
 refine⟨aC,?_⟩
 simp [ByteArray.getElem_extract]
theorem mY{c:UInt8}(h:Dgt c):(48:Int)≤(c.toNat:Int)∧(c.toNat:Int)≤57:=by unfold Dgt at h;omega
def GR(fb:Addr):List (Addr×Value):=[(⟨4,0,none⟩, .bool true),(⟨5,0,none⟩, .int .u64 52),(⟨10,0,none⟩, .slice (some fb) 23 23),
 (fb.add 1, .float .f64 4621819117588971520),(fb.add 2, .float .f64 4636737291354636288),(fb.add 6, .float .f64 4696837146684686336),
 (⟨11,708,none⟩, .int .u64 17592186044416000000),(⟨11,709,none⟩, .int .u64 0),(⟨11,710,none⟩, .int .u64 10995116277760000000),(⟨11,711,none⟩, .int .u64 0)]++(List.range 20).map fun i=>(⟨0,i,none⟩, .int .u64 ((10^i:Nat):Int))
abbrev kg(fb:Addr):DA:= .cs (GR fb)

theorem NZ:dd Tryz.prog 256 #[.int .u8 46] [] (.int .u8 46):=by
 refine Ct.of_run (args:=[.int .u8 46]) Tryz.func256 aF Z Tryz.ntmps256 Z (fun c=>?_)
 refine rO 10 Z (rV Z Z Z (fun w=>rfl) ?_)
 refine oR 3 Z ?_
 exact zE Tryz.results256 Z ⟨rfl,rfl,rfl⟩ nS (fun _ h=>by cases h)
theorem Na(s p:ByteArray)(h:0<s.size)(hd:Dgt s[0])(hp:0<p.size)(hp2: ¬ Dgt p[0]):dd Tryz.prog 292 #[.string s, .string p] [] (.int .i64 0):=by
 refine Ct.of_run (args:=[.string s, .string p]) Tryz.func292 aF Z Tryz.ntmps292 Z (fun c=>?_)
 have hd2:=mY hd
 refine rO 10 Z (wC eh Z Z ?_)
 refine oO 3 Z (wC eh Z Z ?_)
 refine zA (ru Z Z Z Z ?_)
 refine oK 10 [6,5,0,1] Z Z (xJ 1 (fun(i:Nat)=>i=0) (fun(i:Nat)=>[(6, .int .i64 ((i:Nat):Int))]) (fun(i:Nat)=>0) 0 (rfl) (eC Z (eN _)) ?_ (eC Z (eC Z (eC Z (eN _)))))
 intro i hI K hK
 change Run _ _ _ _ _ [(6,_),(5,_),(0,_),(1,_)] _ _
 subst hI
 refine rO 8 Z (vE Z Z Z ?_)
 refine zX (vF Z (decide_eq_true aC) ?_)
 refine rO 10 Z (uP eh Z Z Z aC ?_)
 refine oO 9 Z (iI Z Z Z ?_)
 refine oS 2 Z (vM (s:=23) Z (decide_eq_false aC) ?_)
 refine oK 5 [26,7,6,5,0,1] Z Z (rO 11 Z ?_)
 refine uP eh Z Z Z aC (zA ?_)
 refine mF Z Z Z (zX ?_)
 refine vF Z (decide_eq_true (fun he=>hp2 (by unfold Dgt at hd⊢;omega))) (rK 7 [4] Z Z ?_)
 exact zE Tryz.results292 Z ⟨rfl,rfl,rfl⟩ nS (fun _ h=>by cases h)
theorem LJ(s:ByteArray)(h:0<s.size)(hd:Dgt s[0]):dd Tryz.prog 265 #[.string s] [] (.tuple #[.float .f64 0, .int .i64 0, .bool false]):=by
 refine Ct.of_run (args:=[.string s]) Tryz.func265 aF Z Tryz.ntmps265 Z (fun c=>?_)
 have hd2:=mY hd
 refine rO 15 Z (wC eh Z Z ?_)
 refine oR 3 Z (xL Z (decide_eq_false aC) ?_)
 refine rO 17 Z (uP (i:=0) eh Z Z Z h ?_)
 refine oR 18 Z (xL Z (decide_eq_false aC) ?_)
 refine rK 6 [13,12,6,5,0] Z Z (xL Z (decide_eq_false aC) ?_)
 refine rR 10 Z (xL Z (decide_eq_false aC) ?_)
 refine rR 6 Z (xL Z (decide_eq_false aC) ?_)
 refine rR 9 Z (xL Z (decide_eq_false aC) ?_)
 refine rK 6 [19,0] Z Z (xL Z (decide_eq_false aC) ?_)
 refine rR 11 Z ?_
 exact fh Tryz.results265 Z Z Z ⟨rfl,rfl,rfl⟩ nS (fun _ h=>by cases h)
theorem LK(s:ByteArray)(h:1<s.size)(h0:s[0]=45)(hd:Dgt s[1]):dd Tryz.prog 265 #[.string s] [] (.tuple #[.float .f64 0, .int .i64 0, .bool false]):=by
 refine Ct.of_run (args:=[.string s]) Tryz.func265 aF Z Tryz.ntmps265 Z (fun c=>?_)
 have hd2:=mY hd
 have h45:((s[0].toNat:Nat):Int)=45:=by rw [h0];rfl
 obtain⟨hx1,hx2⟩:=GQ h
 refine rO 15 Z (wC eh Z Z ?_)
 refine oR 3 Z (xL Z (decide_eq_false aC) ?_)
 refine rO 17 Z (uP (i:=0) eh Z Z Z aC ?_)
 refine oR 18 Z (xL Z (decide_eq_false aC) ?_)
 refine rK 6 [13,12,6,5,0] Z Z (vF Z (decide_eq_true h45) ?_)
 refine rO 7 Z (uP (i:=0) eh Z Z Z aC ?_)
 refine oR 3 Z (vF Z (decide_eq_true h45) ?_)
 refine rO 13 Z (fa (i:=1) eh Z Z Z aC ?_)
 refine oO 10 Z (zK Z Z Z (Na (s.extract 1 s.size) ⟨#[105,110,102,105,110,105,116,121]⟩ hx1 (by rw [hx2];exact hd) aE (by unfold Dgt;decide)) cZ ?_)
 refine oK 3 [7,6,5] Z Z (rO 6 Z ?_)
 refine vE Z Z Z (oS 2 Z ?_)
 refine vM (s:=31) Z (rfl) (oS 15 Z ?_)
 refine vM (s:=37) Z (rfl) (oK 7 [40,7,6,5] Z Z ?_)
 refine rR 12 Z ?_
 exact fh Tryz.results265 Z Z Z ⟨rfl,rfl,rfl⟩ nS (fun _ h=>by cases h)
theorem r4{fn:Func}{t1 t2 t3 t4 t5 t6 t7:Tmp}(h:fn.results= #[.tmp t1, .tmp t2, .tmp t3, .tmp t4, .tmp t5, .tmp t6, .tmp t7])(tmps:Array Value)(P:Program)(w:World):
  (results fn tmps).run P w= .ok (.tuple #[tmps.getD t1 undef,tmps.getD t2 undef,tmps.getD t3 undef,tmps.getD t4 undef,tmps.getD t5 undef,tmps.getD t6 undef,tmps.getD t7 undef]) w:=by
 simp [results,h]
section rules
variable {P:Program} {n:Nat} {F:List Nat} {c:Ctx F} {k:List KI} {e:dI} {M:List HA} {D:List DA}
theorem Dy{fn:Func}{R:Value→List HA→List DA→Prop}{t1 t2 t3 t4 t5 t6 t7:Nat}{v1 v2 v3 v4 v5 v6 v7:Value}{M':List HA}{D':List DA}(hr:fn.results= #[.tmp t1, .tmp t2, .tmp t3, .tmp t4, .tmp t5, .tmp t6, .tmp t7])
  (h1:dE e t1=some v1) (h2:dE e t2=some v2) (h3:dE e t3=some v3) (h4:dE e t4=some v4) (h5:dE e t5=some v5) (h6:dE e t6=some v6) (h7:dE e t7=some v7) (hR:R (.tuple #[v1,v2,v3,v4,v5,v6,v7]) M' D') (hM:List.Sublist M' M) (hD: ∀ d∈D',d∈D):
  Run P n c (.code .ret::k) (mC P c fn R) e M D:=
 fg (fun a w hf=>by
  have:=r4 hr a.tmps P w
  rw [this,uQ hf h1,uQ hf h2,uQ hf h3,uQ hf h4,uQ hf h5,uQ hf h6,uQ hf h7]) hR hM hD
end rules
structure NumTxt(s:ByteArray)(neg:Bool)(l:List UInt8):Prop where
 at_:Sf s neg.toNat l
 sign: ∀ h:0<s.size,s[0]=45↔neg=true
 dec:Dec l
 ne:0<l.length
 d0: ∀ h:0<l.length,Dgt l[0]
 z: ∀ h:1<l.length,l[0]=48→l[1]=46
theorem NumTxt.sz{s:ByteArray}{neg:Bool}{l:List UInt8}(h:NumTxt s neg l):s.size=neg.toNat+l.length∧s.size≤19∧0<l.length∧l.length≤18:=by
 have h1:=h.at_.size
 have h2:=h.dec.len
 have h3:=h.ne
 have:neg.toNat≤1:=by cases neg<;>decide
 exact⟨h1,aC,h3,h2⟩
theorem NumTxt.c{s:ByteArray}{neg:Bool}{l:List UInt8}(h:NumTxt s neg l){j:Nat}(hj:j<l.length): ∃hs:neg.toNat+j<s.size,s[neg.toNat+j]=l[j]:=by
 have h1:=h.at_.size
 exact⟨aC,h.at_.get hj aC⟩
theorem yb(st:KH):dO st 46=(st.1,st.2.1,(st.2.1:Int),true):=rfl
theorem ux{st:KH}(h:st.2.1=0):dO st 48=(st.1,st.2.1,st.2.2.1 - 1,st.2.2.2):=by
 unfold dO
 rw [if_neg aE,if_pos ⟨rfl,h⟩]
theorem np{st:KH}{c:UInt8}(h:Dgt c)(hz: ¬ (c=48∧st.2.1=0)):dO st c=(st.1*10+(c.toNat - 48),st.2.1+1,st.2.2.1,st.2.2.2):=by
 unfold dO
 rw [if_neg h.ne,if_neg hz]
theorem AN{c:UInt8}{n:Nat}(hn:n<256)(h:(c.toNat:Int)=(n:Int)):c=UInt8.ofNat n:=by
 apply UInt8.toNat_inj.1
 rw [UInt8.toNat_ofNat']
 omega

theorem Nb{c:UInt8}{neg:Bool}(h:(neg=true∧c=45)∨(neg=false∧Dgt c)): ¬ ((c.toNat:Int)=43):=by
 rcases h with ⟨_,rfl⟩|⟨_,h⟩
 ·decide
 ·unfold Dgt at h;omega
theorem Nc{c:UInt8}(h:c=46∨Dgt c): ¬ ((c.toNat:Int)=95):=by
 rcases h with rfl|h
 ·decide
 ·unfold Dgt at h;omega
set_option maxHeartbeats 4000000 in
theorem Nd(s:ByteArray)(neg:Bool)(l:List UInt8)(hN:NumTxt s neg l)(m n k:Nat)(hr:rf l=(m,n+k,(n:Int),true))(hm:0<m)(hnk:n+k≤18):dd Tryz.prog 266 #[.string s] [] (.tuple #[.int .u64 (m:Int), .int .i64 (-((k:Nat):Int)), .bool neg, .bool false, .bool false, .int .i64 (s.size:Int), .bool true]):=by
 refine Ct.of_run (args:=[.string s]) Tryz.func266 aF Z Tryz.ntmps266 Z (fun c=>?_)
 obtain⟨hsz,hs19,hln,hl18⟩:=hN.sz
 have hs0:=hN.sign aC
 have hnt:neg.toNat≤1:=by cases neg<;>decide
 have hf0:(neg=true∧s[0]=45)∨(neg=false∧Dgt s[0]):=by
  cases neg with
  |true=>exact .inl ⟨rfl,hs0.2 rfl⟩
  |false=>
   obtain⟨h1,h2⟩:=hN.c (j:=0) hln
   exact .inr ⟨rfl,by have h3:s[0]=l[0]:=h2;rw [h3];exact hN.d0 hln⟩
 refine rR 17 Z (BY (BX _ _ _ _) ?_)
 refine rO 13 Z (wC eh Z Z ?_)
 refine zA (tB Z Z Z ?_)
 refine zX (xL Z (decide_eq_false aC) ?_)
 refine rO 9 Z (uP (i:=0) eh Z Z Z aC ?_)
 refine oK 1 [27,9,8,7,6,5,4,3,2,0] Z Z (rK 0 [27,9,8,7,6,5,4,3,2,0] Z Z ?_)
 refine vO [9,8,6,5,3,2,0] (fun(u:Unit)=>True) (fun(u:Unit)=>[(7, .int .i64 ((neg.toNat:Nat):Int)),(4, .bool neg)]) (fun(u:Unit)=>[]) (fun(u:Unit)=>[]) ?_ ?_
 ·intro K hK
  refine rR 8 Z (xL Z (decide_eq_false (Nb hf0)) ?_)
  refine rR 7 Z (zN Z (fun h32=>?_) (fun h32=>?_))
  ·refine rO 5 Z (xQ (s:=1) Z Z Z Z aC aC ?_)
   refine oK 3 [7,9,8,6,5,3,2,0] Z Z (rR 5 Z ?_)
   obtain rfl:neg=true:=hs0.1 (AN (n:=45) aC h32)
   exact kQ (hK () trivial) (hD:=bg)
  refine rR 2 Z ?_
  obtain rfl:neg=false:=by
   cases neg with
   |false=>rfl
   |true=>exact absurd (by rw [hs0.2 rfl];rfl) h32
  exact kQ (hK () trivial) (hD:=bg)
 intro u hI
 replace hI:True:=hI
 change Run _ _ _ _ _ [(7,_),(4,_),(9,_),(8,_),(6,_),(5,_),(3,_),(2,_),(0,_)] ([]) ([])
 refine rK 17 [12,11,10,7,4,9,8,6,5,3,2,0] Z Z (ix (fun(u:Unit)=>True) (fun(u:Unit)=>[(54, .bool false)]) ?_ ?_)
 ·intro K hK
  refine rO 4 Z (xQ (s:=((neg.toNat+2:Nat):Int)) Z Z Z aC aC aC ?_)
  refine oO 3 Z (wC eh Z Z ?_)
  refine zA (yJ Z Z Z ?_)
  refine oS 2 Z (yC (s:=41) Z (fun h41=>?_) (fun h41=>?_))
  ·obtain⟨hs1,hc1⟩:=hN.c (j:=0) hln
   rw [Nat.add_zero]at hs1
   have hc1a:s[neg.toNat]=l[0]:=hc1
   refine oO 5 Z (uP (i:=neg.toNat) eh Z Z Z hs1 ?_)
   refine oS 6 Z (yC (s:=47) Z (fun h47=>?_) (fun h47=>?_))
   ·have hl1:1<l.length:=by omega
    obtain⟨hs2,hc2⟩:=hN.c (j:=1) hl1
    have hz:=hN.z hl1 (by rw [←hc1a];exact AN (n:=48) aC h47)
    rw [hz]at hc2
    refine oO 5 Z (xQ (s:=((neg.toNat+1:Nat):Int)) Z Z Z aC aC aC ?_)
    refine zI Z Z (uP (i:=neg.toNat+1) eh Z Z Z hs2 ?_)
    rw [hc2]
    refine zI Z Z (zK Z Z Z NZ cZ ?_)
    refine oK 5 [54,12,11,10,7,4,9,8,6,5,3,2,0] Z Z ?_
    exact kQ (hK () (trivial))
   refine oK 9 [54,12,11,10,7,4,9,8,6,5,3,2,0] Z Z ?_
   exact kQ (hK () (trivial))
  refine oK 17 [54,12,11,10,7,4,9,8,6,5,3,2,0] Z Z ?_
  exact kQ (hK () (trivial))
 intro u hI
 replace hI:True:=hI
 change Run _ _ _ _ _ [(54,_),(12,_),(11,_),(10,_),(7,_),(4,_),(9,_),(8,_),(6,_),(5,_),(3,_),(2,_),(0,_)] (_) (_)
 refine rK 12 [14,13,12,11,10,7,4,9,8,6,5,3,2,0] Z Z (rK 5 [15,14,13,12,11,10,7,4,9,8,6,5,3,2,0] Z Z ?_)
 refine rK 5 [16,15,14,13,12,11,10,7,4,9,8,6,5,3,2,0] Z Z (rK 5 [17,16,15,14,13,12,11,10,7,4,9,8,6,5,3,2,0] Z Z ?_)
 refine xK (BZ ?_)
 refine rK 2 [7,2,13,14,15,16,17,12,11,10,4,9,8,6,5,3,0] Z Z ?_
 refine xJ 7 (fun(j:Nat)=>j≤l.length) (fun(j:Nat)=>[(7, .int .i64 ((neg.toNat+j:Nat):Int)),(2, .int .u64 ((rf (l.take j)).1:Int)),(13, .bool (rf (l.take j)).2.2.2),(14, .bool (decide (0<j))),(15, .int .i64 ((rf (l.take j)).2.1:Int)),(16, .int .i64 ((rf (l.take j)).2.1:Int)),(17, .int .i64 (rf (l.take j)).2.2.1)]) (fun(j:Nat)=>l.length - j) 0 (bq) (eC Z (eC Z (eC Z (eC Z (eC Z (eC Z (eC Z (eN _)))))))) ?_ (eC Z (eC Z (eC Z (eC Z (eC Z (eC Z (eC Z (eC Z (eC Z (eC Z (eN _)))))))))))
 intro j hI K hK
 change Run _ _ _ _ _ [(7,_),(2,_),(13,_),(14,_),(15,_),(16,_),(17,_),(12,_),(11,_),(10,_),(4,_),(9,_),(8,_),(6,_),(5,_),(3,_),(0,_)] _ _
 replace hI:j≤l.length:=hI
 obtain⟨hb1,hb2,hb3,hb4⟩:=hN.dec.lt j
 refine rO 8 Z (wC eh Z Z ?_)
 refine zA (vE Z Z Z ?_)
 refine oK 1 [60,7,2,13,14,15,16,17,12,11,10,4,9,8,6,5,3,0] Z Z (zN Z (fun h60=>?_) (fun h60=>?_))
 ·have hlt:j<l.length:=by omega
  obtain⟨hsj,hcj⟩:=hN.c hlt
  have hall:=hN.dec.all l[j] (List.getElem_mem hlt)
  refine rO 11 Z (uP (i:=neg.toNat+j) eh Z Z Z hsj ?_)
  rw [hcj]
  refine oK 3 [18,7,2,13,14,15,16,17,12,11,10,4,9,8,6,5,3,0] Z Z (rO 8 Z ?_)
  refine x8 Tryz.underlying4 Z Z Z (oK 3 [66,18,7,2,13,14,15,16,17,12,11,10,4,9,8,6,5,3,0] Z Z ?_)
  refine xL Z (decide_eq_false (Nc hall)) (rO 7 Z ?_)
  refine x8 Tryz.underlying4 Z Z Z (oK 3 [70,18,7,2,13,14,15,16,17,12,11,10,4,9,8,6,5,3,0] Z Z ?_)
  refine zN Z (fun h70=>?_) (fun h70=>?_)
  ·have hc46:l[j]=46:=AN (n:=46) aC h70
   have hj0:0<j:=by
    rcases Nat.eq_zero_or_pos j with rfl|h
    ·exact absurd hc46 (hN.d0 hln).ne
    ·exact h
   refine rK 6 [74,7,2,13,14,15,16,17,12,11,10,4,9,8,6,5,3,0] Z Z (xL Z (hN.dec.nodot hlt hc46) ?_)
   refine rK 6 [13,7,2,14,15,16,12,11,10,4,9,8,6,5,3,0] Z Z (rK 7 [17,13,7,2,14,15,16,12,11,10,4,9,8,6,5,3,0] Z Z ?_)
   refine rO 5 Z (xQ (s:=((neg.toNat+(j+1):Nat):Int)) Z Z Z aC aC aC ?_)
   refine oK 3 [7,17,13,2,14,15,16,12,11,10,4,9,8,6,5,3,0] Z Z ?_
   have hst:=mW hlt
   rw [hc46,yb]at hst
   exact vX (hK (j+1) be a6) aL (zQ _) bg
  have hdg:Dgt l[j]:=hall.resolve_left (fun h=>h70 (by rw [h];rfl))
  have hdi:=mY hdg
  refine rO 5 Z (iI Z Z Z ?_)
  refine oS 2 Z (fi (s:=79) Z (decide_eq_true aC) ?_)
  refine oO 3 Z (iI Z Z Z ?_)
  refine oO 3 Z (x8 Tryz.underlying4 Z Z Z ?_)
  refine oK 3 [76,18,7,2,13,14,15,16,17,12,11,10,4,9,8,6,5,3,0] Z Z (vF Z (decide_eq_true aC) ?_)
  refine rK 5 [14,18,7,2,13,15,16,17,12,11,10,4,9,8,6,5,3,0] Z Z (rS 9 Z ?_)
  refine yC (s:=86) Z (fun h86=>?_) (fun h86=>?_)
  ·refine oK 7 [89,14,18,7,2,13,15,16,17,12,11,10,4,9,8,6,5,3,0] Z Z (zN Z (fun h89=>?_) (fun h89=>?_))
   ·refine rO 5 Z (xY (s:=(rf (l.take j)).2.2.1 - 1) Z Z Z Z aC aC ?_)
    refine oK 3 [17,14,7,2,13,15,16,12,11,10,4,9,8,6,5,3,0] Z Z (rO 5 Z ?_)
    refine xQ (s:=((neg.toNat+(j+1):Nat):Int)) Z Z Z aC aC aC (oK 3 [7,17,14,2,13,15,16,12,11,10,4,9,8,6,5,3,0] Z Z ?_)
    have hc48:l[j]=48:=AN (n:=48) aC h86
    have hst:=mW hlt
    rw [hc48,ux aC]at hst
    exact vX (hK (j+1) be a6) aL (zQ _) bg
   refine rO 6 Z (xQ (s:=(((rf (l.take j)).2.1+1:Nat):Int)) Z Z Z aC aC aC ?_)
   refine oK 3 [15,14,18,7,2,13,16,17,12,11,10,4,9,8,6,5,3,0] Z Z (rO 8 Z ?_)
   refine vE Z Z Z (oK 1 [96,15,14,18,7,2,13,16,17,12,11,10,4,9,8,6,5,3,0] Z Z ?_)
   refine vF Z (decide_eq_true aC) (rO 7 Z ?_)
   refine AI (r:=(rf (l.take j)).1*10) Z Z Z Z aC (oK 3 [2,15,14,18,7,13,16,17,12,11,10,4,9,8,6,5,3,0] Z Z ?_)
   refine rO 7 Z (uo (m':=48) (r:=l[j].toNat - 48) Z Z Z bX Z bX ?_)
   refine zA (pu Tryz.underlying5 Tryz.underlying235 Z Z (tQ (m:=l[j].toNat - 48) bX) ?_)
   refine zA (mU (r:=(rf (l.take j)).1*10+(l[j].toNat - 48)) Z Z Z Z bX ?_)
   refine oK 3 [2,15,14,7,13,16,17,12,11,10,4,9,8,6,5,3,0] Z Z (rO 4 Z ?_)
   refine xQ (s:=(((rf (l.take j)).2.1+1:Nat):Int)) Z Z Z aC aC aC (oK 3 [16,2,15,14,7,13,17,12,11,10,4,9,8,6,5,3,0] Z Z ?_)
   refine rO 5 Z (xQ (s:=((neg.toNat+(j+1):Nat):Int)) Z Z Z aC aC aC ?_)
   refine oK 3 [7,16,2,15,14,13,17,12,11,10,4,9,8,6,5,3,0] Z Z ?_
   have hst:=mW hlt
   rw [np hdg (fun hh=>h89 (by have:=hh.2;omega))]at hst
   exact vX (hK (j+1) be a6) aL (zQ _) bg
  refine oK 5 [89,14,18,7,2,13,15,16,17,12,11,10,4,9,8,6,5,3,0] Z Z (rO 7 Z ?_)
  refine xQ (s:=(((rf (l.take j)).2.1+1:Nat):Int)) Z Z Z aC aC aC (oK 3 [15,14,18,7,2,13,16,17,12,11,10,4,9,8,6,5,3,0] Z Z ?_)
  refine rO 8 Z (vE Z Z Z ?_)
  refine oK 1 [96,15,14,18,7,2,13,16,17,12,11,10,4,9,8,6,5,3,0] Z Z (vF Z (decide_eq_true aC) ?_)
  refine rO 7 Z (AI (r:=(rf (l.take j)).1*10) Z Z Z Z aC ?_)
  refine oK 3 [2,15,14,18,7,13,16,17,12,11,10,4,9,8,6,5,3,0] Z Z (rO 7 Z ?_)
  refine uo (m':=48) (r:=l[j].toNat - 48) Z Z Z bX Z bX (zA ?_)
  refine pu Tryz.underlying5 Tryz.underlying235 Z Z (tQ (m:=l[j].toNat - 48) bX) (zA ?_)
  refine mU (r:=(rf (l.take j)).1*10+(l[j].toNat - 48)) Z Z Z Z bX (oK 3 [2,15,14,7,13,16,17,12,11,10,4,9,8,6,5,3,0] Z Z ?_)
  refine rO 4 Z (xQ (s:=(((rf (l.take j)).2.1+1:Nat):Int)) Z Z Z aC aC aC ?_)
  refine oK 3 [16,2,15,14,7,13,17,12,11,10,4,9,8,6,5,3,0] Z Z (rO 5 Z ?_)
  refine xQ (s:=((neg.toNat+(j+1):Nat):Int)) Z Z Z aC aC aC (oK 3 [7,16,2,15,14,13,17,12,11,10,4,9,8,6,5,3,0] Z Z ?_)
  have hst:=mW hlt
  rw [np hdg (fun hh=>h86 (by rw [hh.1];rfl))]at hst
  exact vX (hK (j+1) be a6) aL (zQ _) bg
 obtain rfl:j=l.length:=by omega
 have e1:(rf l).1=m:=by rw [hr]
 have e2:(rf l).2.1=n+k:=by rw [hr]
 have e3:(rf l).2.2.1=(n:Int):=by rw [hr]
 have e4:(rf l).2.2.2=true:=by rw [hr]
 rw [List.take_length,e1,e2,e3,e4,←hsz]
 refine rK 9 [140,7,2,13,15,16,17,12,10,4,9,8,6,5,3,0] Z Z (xL Z (by simp [hln]) ?_)
 refine rK 9 [142,7,2,15,16,17,12,10,4,9,8,6,5,3,0] Z Z (rK 10 [145,7,2,16,17,12,10,4,9,8,6,5,3,0] Z Z ?_)
 refine rO 10 Z (wC eh Z Z ?_)
 refine zA (yJ Z Z Z ?_)
 refine oS 2 Z (vM (s:=154) Z (decide_eq_false aC) ?_)
 refine oK 9 [161,7,2,16,17,10,4,9,8,6,5,3,0] Z Z (rK 8 [239,7,2,16,17,4,9,8,6,5,3,0] Z Z ?_)
 refine rO 8 Z (sT Z Z Z ?_)
 refine zX (vF Z (decide_eq_true aC) ?_)
 refine rO 6 Z (xY (s:= -((k:Nat):Int)) Z Z Z aC aC aC ?_)
 refine oK 3 [3,7,2,4,9,8,6,5,0] Z Z (rK 15 [252,3,7,2,4,8,6,5] Z Z ?_)
 refine rR 7 Z ?_
 exact Dy Tryz.results266 Z Z Z Z Z Z Z ⟨rfl,rfl,rfl⟩ nS (fun _ h=>by cases h)
section rules
variable {P:Program} {n:Nat} {F:List Nat} {c:Ctx F} {ops:Array Oper} {d:Nat} {T:TypeId} {l:List Oper} {k:List KI} {Q:Post} {e:dI} {M:List HA} {D:List DA}
variable {x y:Operand} {S S':TypeId}
theorem nr(hS:P.underlying S=some (.interface (P.methodsAt S)))(hd:Nat.blt d n=true)(hx:ev e x=some .nilIface)(next:cL P n c ops l k Q ((d, .bool false)::e) M D):cR P n c ops (some d) (.binOp .neq S x (.const .nilIface) S') T l k Q e M D:=
 xW hd (fun a w hf=>by
  have h1:=run_neq_nil_nil (P:=P) (w:=w) S hS
  have h2:a.eval (.const .nilIface)= .nilIface:=rfl
  simp only [execOp,dM,hf.ev hx,h2,eqGuard_nil_constR,Sem.run_bind,Sem.run_pure,Result.andThen_ok,h1]) next
theorem Bd{kd:IntKind}{m:Nat}(hS:(P.underlying S).isSome=true)(hS':P.underlying S'=some (.float .f64))(hd:Nat.blt d n=true)(hx:ev e x=some (.int kd (m:Nat)))(next:cL P n c ops l k Q ((d, .float .f64 (dT false m 0))::e) M D):
  cR P n c ops (some d) (.convert S S' x) T l k Q e M D:=by
 refine lR hS hS' hd hx ?_
 rw [show decide ((m:Int)<0)=false from decide_eq_false aC,Int.natAbs_natCast]
 exact next
end rules
theorem GS:Tryz.prog.underlying 77=some (.interface (Tryz.prog.methodsAt 77)):=by kernel_rfl
theorem Dz{F:List Nat}{c:Ctx F}{M:List HA}{D:List DA}{w:World}(h:FitsW c M D w){j k:Nat}{fb:Addr}(hj:D[j]? =some (kg fb))(hk:k=1∨k=2∨k=6):w.cell? (fb.add (k*1))=some (.float .f64 (dT false (10^k) 0)):=by
 have hd: ∀ q∈GR fb,_∧w.cell? q.1=some q.2:=h.dt hj
 rcases hk with rfl|rfl|rfl
 ·rw [M4];exact(hd (fb.add 1,_) (by simp [GR])).2
 ·rw [Kk];exact(hd (fb.add 2,_) (by simp [GR])).2
 ·rw [BH];exact(hd (fb.add 6,_) (by simp [GR])).2
theorem Hv{k:Nat}(hk:k=1∨k=2∨k=6):10^k<2^53:=by rcases hk with rfl|rfl|rfl<;>decide
structure Be(s:ByteArray)(n:Int):Prop where
 ok: ∃(l:List UInt8) (m nn k:Nat),NumTxt s (decide (n<0)) l∧rf l=(m,nn+k,(nn:Int),true)∧0<m∧m<2^52∧(k=1∨k=2∨k=6)∧nn+k≤18∧m*4=10^k*n.natAbs∧0<n.natAbs∧n.natAbs<2^53

theorem Iy(b:Bool):dd Tryz.prog 274 #[.bool b] [] (.int .u64 ((b.toNat:Nat):Int)):=by
 refine Ct.of_run (args:=[.bool b]) Tryz.func274 aF Z Tryz.ntmps274 Z (fun c=>?_)
 refine rR 11 Z (zW Z (fun h3=>?_) (fun h3=>?_))
 ·subst h3
  refine rR 5 Z ?_
  exact zE Tryz.results274 Z ⟨rfl,rfl,rfl⟩ nS (fun _ h=>by cases h)
 subst h3
 refine rR 6 Z ?_
 exact zE Tryz.results274 Z ⟨rfl,rfl,rfl⟩ nS (fun _ h=>by cases h)
theorem Nf(fb:Addr)(neg:Bool)(m A k:Nat)(hm:0<m)(hm2:m<2^52)(hk:k=1∨k=2∨k=6)(hA:0<A)(hA2:A<2^53)(h4:m*4=10^k*A):dd Tryz.prog 276 #[.int .u64 (m:Int), .int .i64 (-((k:Nat):Int)), .bool neg] [kg fb] (.tuple #[.float .f64 (dT neg A (-2)), .bool true]):=by
 refine Ct.of_run (args:=[.int .u64 (m:Int), .int .i64 (-((k:Nat):Int)), .bool neg]) Tryz.func276 aF Z Tryz.ntmps276 Z (fun c=>?_)
 have hk6:1≤k∧k≤6:=by omega
 refine rO 13 Z (zC F8 Z Z ?_)
 refine zA (sR 0 1 K6 Z Z Z Z ?_)
 refine zA (mS (m:=m) (s:=52) (r:=0) Z Z Z aC (Nat.div_eq_of_lt hm2) ?_)
 refine zA (sT Z Z Z ?_)
 refine oO 8 Z (Bd (by rw [Tryz.underlying235];rfl) Tryz.underlying214 Z Z ?_)
 refine oK 9 [15,6,7,1] Z Z (zW Z (fun h15=>?_) (fun h15=>?_))
 ·subst h15
  refine rO 4 Z (GN Z Z (DI hm aC aC aC) ?_)
  refine oR 14 Z (xL Z (decide_eq_false aC) ?_)
  refine rO 5 Z (vC Z Z Z ?_)
  refine oS 2 Z (vM (s:=25) Z (decide_eq_false aC) ?_)
  refine oK 7 [22,6,7,1] Z Z (rO 6 Z ?_)
  refine vE Z Z Z (oS 2 Z ?_)
  refine fi (s:=53) Z (decide_eq_true aC) (oO 3 Z ?_)
  refine tB Z Z Z (oR 5 Z ?_)
  refine vF Z (decide_eq_true aC) (rO 5 Z ?_)
  refine sR 0 2 Ho Z Z Z Z (oO 3 Z ?_)
  refine qS (s:=((k:Nat):Int)) Z Z aC aC aC (zA ?_)
  refine wJ Hp Z Z Z aC (zA ?_)
  refine yH C3 Z Z (fun _ h=>Dz h (j:=0) Z hk) (zA ?_)
  refine AF Z Z Z (tp _ hA hA2 aC (Hv hk) h4) (oK 5 [7,6] Z Z ?_)
  exact vL Tryz.results276 Z Z ⟨rfl,rfl,rfl⟩ nS (fun _ h=>by cases h)
 subst h15
 refine rR 12 Z (xL Z (decide_eq_false aC) ?_)
 refine rO 5 Z (vC Z Z Z ?_)
 refine oS 2 Z (vM (s:=25) Z (decide_eq_false aC) ?_)
 refine oK 7 [22,6,7,1] Z Z (rO 6 Z ?_)
 refine vE Z Z Z (oS 2 Z ?_)
 refine fi (s:=53) Z (decide_eq_true aC) (oO 3 Z ?_)
 refine tB Z Z Z (oR 5 Z ?_)
 refine vF Z (decide_eq_true aC) (rO 5 Z ?_)
 refine sR 0 2 Ho Z Z Z Z (oO 3 Z ?_)
 refine qS (s:=((k:Nat):Int)) Z Z aC aC aC (zA ?_)
 refine wJ Hp Z Z Z aC (zA ?_)
 refine yH C3 Z Z (fun _ h=>Dz h (j:=0) Z hk) (zA ?_)
 refine AF Z Z Z (tp _ hA hA2 aC (Hv hk) h4) (oK 5 [7,6] Z Z ?_)
 exact vL Tryz.results276 Z Z ⟨rfl,rfl,rfl⟩ nS (fun _ h=>by cases h)
theorem c265{s:ByteArray}{neg:Bool}{l:List UInt8}(hN:NumTxt s neg l):dd Tryz.prog 265 #[.string s] [] (.tuple #[.float .f64 0, .int .i64 0, .bool false]):=by
  obtain⟨hsz,hs19,hln,hl18⟩:=hN.sz
  have hs0:=hN.sign aC
  obtain⟨h1,h2⟩:=hN.c (j:=0) hln
  have hd:=hN.d0 hln
  cases neg with
  |false=>exact LJ s aC (by have h3:s[0]=l[0]:=h2;rw [h3];exact hd)
  |true=>exact LK s (by have:true.toNat=1:=rfl;omega) (hs0.2 rfl) (by have h3:s[1]=l[0]:=h2;rw [h3];exact hd)
theorem Ng(s:ByteArray)(l:List UInt8)(nn:Nat)(fb:Addr)(neg:Bool)(m A k:Nat)(hm:0<m)(hm2:m<2^52)(hk:k=1∨k=2∨k=6)(hA:0<A)(hA2:A<2^53)(h4:m*4=10^k*A)(hN:NumTxt s neg l)(hr:rf l=(m,nn+k,(nn:Int),true))(hnk:nn+k≤18):dd Tryz.prog 253 #[.string s] [kg fb] (.tuple #[.float .f64 (dT neg A (-2)), .int .i64 ((s.size:Nat):Int), .nilIface]):=by
 refine Ct.of_run (args:=[.string s]) Tryz.func253 aF Z Tryz.ntmps253 Z (fun c=>?_)
 have hk6:1≤k∧k≤6:=by omega
 refine rO 15 Z (zK Z Z Z (c265 hN) cZ ?_)
 refine oK 20 [32,6,5,4,0] Z Z (rO 7 Z ?_)
 refine zK Z Z Z (Nd s neg l hN m nn k hr hm hnk) cZ (oK 31 [13,3,12,11,10,9,8,4,0] Z Z ?_)
 refine rO 22 Z (sR 0 0 FX Z Z Z Z ?_)
 refine oO 7 Z (zK Z Z Z (Iy neg) cZ ?_)
 refine zA (jF (m:=neg.toNat) (s:=63) (r:=neg.toNat*2^63) Z Z Z aC Z (by cases neg<;>decide) ?_)
 refine oK 3 [16,3,11,10,9,8,4,0] Z Z (rR 8 Z ?_)
 refine xL Z (decide_eq_false aC) (rO 7 Z ?_)
 refine vC Z Z Z (zX ?_)
 refine xL Z (decide_eq_false aC) (rO 7 Z ?_)
 refine vE Z Z Z (zX ?_)
 refine xL Z (decide_eq_false aC) (rK 9 [88,16,3,11,10,9,8,4,0] Z Z ?_)
 refine rO 10 Z (zK Z Z Z (Nf fb neg m A k hm hm2 hk hA hA2 h4) (cS 0 Z) ?_)
 refine oK 11 [18,17,16,3,11,9,8,4,0] Z Z (rK 19 [4,3,2] Z Z ?_)
 exact fh Tryz.results253 Z Z Z ⟨rfl,rfl,rfl⟩ nS (fun _ h=>by cases h)
theorem Nh(fb:Addr)(s:ByteArray)(n:Int)(hq:Be s n):dd Tryz.prog 236 #[.string s, .int .i64 64] [kg fb] (.tuple #[.float .f64 (qw n), .int .i64 ((s.size:Nat):Int), .nilIface]):=by
 refine Ct.of_run (args:=[.string s, .int .i64 64]) Tryz.func236 aF Z Tryz.ntmps236 Z (fun c=>?_)
 obtain⟨l,m,nn,k,hN,hr,hm,hm2,hk,hnk,h4,hA,hA2⟩:=hq.ok
 refine rO 24 Z (zK Z Z Z (Ng s l nn fb (decide (n<0)) m n.natAbs k hm hm2 hk hA hA2 h4 hN hr hnk) (cS 0 Z) ?_)
 refine oK 13 [6,5,4] Z Z ?_
 exact fh Tryz.results236 Z Z Z ⟨rfl,rfl,rfl⟩ nS (fun _ h=>by cases h)
theorem Ni(fb:Addr)(s:ByteArray)(n:Int)(hq:Be s n):dd Tryz.prog 215 #[.string s, .int .i64 64] [kg fb] (.tuple #[.float .f64 (qw n), .nilIface]):=by
 refine Ct.of_run (args:=[.string s, .int .i64 64]) Tryz.func215 aF Z Tryz.ntmps215 Z (fun c=>?_)
 refine rO 14 Z (zK Z Z Z (Nh fb s n hq) (cS 0 Z) ?_)
 refine oK 15 [8,7,6,0] Z Z (rO 8 Z ?_)
 refine wC eh Z Z (zA ?_)
 refine sT Z Z Z (zX ?_)
 refine xL Z (decide_eq_false (fun h=>h Z)) (rK 12 [5,4] Z Z ?_)
 exact vL Tryz.results215 Z Z ⟨rfl,rfl,rfl⟩ nS (fun _ h=>by cases h)
theorem LL(fb:Addr)(s:ByteArray)(n:Int)(hq:Be s n):dd Tryz.prog 179 #[.string s, .int .i64 64] [kg fb] (.tuple #[.float .f64 (qw n), .nilIface]):=by
 refine Ct.of_run (args:=[.string s, .int .i64 64]) Tryz.func179 aF Z Tryz.ntmps179 Z (fun c=>?_)
 refine rO 14 Z (zK Z Z Z (Ni fb s n hq) (cS 0 Z) ?_)
 refine oO 17 Z (nr GS Z Z ?_)
 refine oK 1 [15,7,6,0,1] Z Z (rR 11 Z ?_)
 exact vL Tryz.results179 Z Z ⟨rfl,rfl,rfl⟩ nS (fun _ h=>by cases h)
end Go.Jw

namespace Go.Jw
open Go Go.Lib
theorem lT(u:Nat):decDigits u≠[]:=fun h=>by
 have h1:=decDigits_length u
 have h2:=nDigits_pos u
 rw [h]at h1
 simp only [List.length_nil]at h1
 omega
theorem D5(u:Nat)(h0:u≠0): ∀ c r,decDigits u=c::r→c≠48:=by
  induction u using Nat.strongRecOn with
  |_ u ih=>
    intro c r h
    rw [decDigits]at h
    split at h
    · rename_i h9
      injection h with h1 h2
      subst h1
      intro he
      have:=congrArg UInt8.toNat he
      rw [gj h9]at this
      have h48:(48:UInt8).toNat=48:=rfl
      omega
    · rename_i h9
      cases hd:decDigits (u/10)with
      |nil=>exact absurd hd (lT _)
      |cons c' r'=>
        rw [hd,List.cons_append]at h
        injection h with h1 h2
        subst h1
        exact ih (u/10) aC aC _ _ hd
theorem EA:decDigits 0=[48]:=by rw [decDigits];rfl
theorem Bf{s:ByteArray}{neg:Bool}{A k:Nat}{fr:List UInt8}(hs:rl s=(if neg then [45]else [])++(decDigits (A/4)++fr))(hA:A<1000000000)(hf:Dx fr (A%4) k):NumTxt s neg (decDigits (A/4)++fr):=by
  obtain⟨hdec,_⟩:=uw hA hf
  have hsz:s.size=(rl s).length:=rfl
  have hne:0<(decDigits (A/4)).length:=List.length_pos_iff.2 (lT _)
  have hd0: ∀ h:0<(decDigits (A/4)++fr).length,Dgt (decDigits (A/4)++fr)[0]:=fun h=>by
    rw [List.getElem_append_left hne]
    exact fe _ _ (List.getElem_mem _)
  have hat:Sf s neg.toNat (decDigits (A/4)++fr):=by
    refine⟨?_,?_⟩
    · rw [hs];cases neg<;>rfl
    · rw [hsz,hs];cases neg<;>simp
  have hn0:0<(decDigits (A/4)++fr).length:=by rw [List.length_append];omega
  refine⟨hat,fun h=>?_,hdec,hn0,hd0,fun h h48=>?_⟩
  · have hg:s[0]=(rl s)[0]'(by rw [←hsz];exact h):=rfl
    rw [hg]
    cases neg with
    |true=>simp [hs]
    |false=>
      have h2:(rl s)[0]'(by rw [←hsz];exact h)=(decDigits (A/4)++fr)[0]:=by simp [hs]
      rw [h2]
      have h3:=hd0 hn0
      constructor
      · intro he
        rw [he]at h3
        exact absurd h3.1 aE
      · intro he;cases he
  · rw [List.getElem_append_left hne]at h48
    have hz:A/4=0:=Classical.byContradiction fun hz=>by
      cases hd:decDigits (A/4)with
      |nil=>exact lT _ hd
      |cons c r=>exact D5 _ hz _ _ hd (by simp only [hd]at h48;exact h48)
    have hl1:(decDigits (A/4)).length=1:=by rw [hz,EA];rfl
    rw [List.getElem_append_right aC]
    have hh:=hf.hd
    cases fr with
    |nil=>cases hh
    |cons c r=>
      simp only [List.head?_cons,Option.some.injEq]at hh
      subst hh
      simp [hl1]
theorem uy{s:ByteArray}{n:Int}{k:Nat}{fr:List UInt8}(h1: -1000000000<n)(h2:n<1000000000)(hs:rl s=(if decide (n<0)then [45]else [])++(decDigits (n.natAbs/4)++fr))(hf:Dx fr (n.natAbs%4) k)(hk:k=1∨k=2∨k=6):Be s n:=by
 have hA:n.natAbs<1000000000:=by omega
 obtain⟨_,m,nn,hr,h4,hm,hm2,hn9⟩:=uw hA hf
 have:=hf.q3
 exact⟨_,m,nn,k,Bf hs hA hf,hr,hm,hm2,hk,aC,h4,aC,aC⟩
theorem r5(m:Nat):rl (dj (m:Int))=decDigits m:=by
 show Lib.itoa (m:Int)=_
 unfold Lib.itoa
 rw [if_neg aC,Int.toNat_natCast]
theorem r6(b:Bool):rl (if b=true then(⟨#[45]⟩:ByteArray)else⟨#[]⟩)=if b then [45]else []:=by cases b<;>rfl
theorem uz{n:Int}(h:n.tmod 4≠0):0<n.natAbs%4∧n.natAbs%4<4:=by
 refine⟨?_,Nat.mod_lt _ aC⟩
 have h1:(n.tmod 4).natAbs=n.natAbs%4:=Int.natAbs_tmod n 4
 omega
theorem Iz{n:Int}(h0:n.tmod 4≠0)(h1: -1000000000<n)(h2:n<1000000000):Be (quartV n) n:=by
 obtain⟨a1,a2⟩:=uz h0
 obtain⟨k,hf,hk⟩:=Bc a1 a2
 refine uy h1 h2 ?_ hf aC
 unfold quartV nJ
 rw [lM,lM,r5,r6,List.append_assoc]
 rfl
theorem I0{n:Int}(h0:n.tmod 4≠0)(h1: -1000000000<n)(h2:n<1000000000):Be (dl n) n:=by
 obtain⟨a1,a2⟩:=uz h0
 refine uy h1 h2 ?_ (ya a1 a2) aC
 unfold dl
 rw [lM,lM,r5,r6,List.append_assoc]
 rfl
end Go.Jw

namespace Go.Jw
open Go Go.RowKit Go.Proofs
set_option maxRecDepth 8000
theorem I1:ww Tryz.prog 318:=⟨_,Tryz.func318,by kernel_rfl,rfl⟩
theorem I3:ww Tryz.prog 206:=⟨_,Tryz.func206,by kernel_rfl,rfl⟩
theorem I4:ww Tryz.prog 220:=⟨_,Tryz.func220,by kernel_rfl,rfl⟩
theorem LM(x y:Nat)(hx:x<18446744073709551616)(hy:y<18446744073709551616):dd Tryz.prog 318 #[.int .u64 (x:Int), .int .u64 (y:Int)] [] (.tuple #[.int .u64 ((x*y/18446744073709551616:Nat):Int), .int .u64 ((x*y%18446744073709551616:Nat):Int)]):=
 iO I1 fun w ok h=>(Tryz.bits_Mul64 x y hx hy w).mono (by
  rintro e w' ⟨rfl,rfl⟩
  exact⟨rfl,Chg.refl _ _⟩)
theorem Nj(u:Nat)(h1:1≤u)(h2:u<18446744073709551616):dd Tryz.prog 220 #[.int .u64 (u:Int)] [.tab] (.int .i64 ((Lib.nDigits u:Nat):Int)):=
 iO I4 fun w ok h=>(Tryz.internal_strconv_numDigits u h1 h2 w (DH (h _ List.mem_cons_self))).mono (by
  rintro e w' ⟨rfl,rfl⟩
  exact⟨rfl,Chg.refl _ _⟩)
theorem EB{F:List Nat}{c:Ctx F}{M:List HA}{D:List DA}{w:World}(h:FitsW c M D w){j i:Nat}{fb:Addr}(hj:D[j]? =some (kg fb))(hi:i<20):w.cell? ((⟨0,0,none⟩:Addr).add (i*1))=some (.int .u64 ((10^i:Nat):Int)):=by
  have hd: ∀ q∈GR fb,_∧w.cell? q.1=some q.2:=h.dt hj
  have hm:((⟨0,i,none⟩:Addr),Value.int .u64 ((10^i:Nat):Int))∈GR fb:=by
    unfold GR
    exact List.mem_append_right _ (List.mem_map.2 ⟨i,List.mem_range.2 hi,rfl⟩)
  have ha:(⟨0,0,none⟩:Addr).add (i*1)=⟨0,i,none⟩:=by
    unfold Addr.add
    by_cases h0:i*1=0
    · rw [if_pos h0];have:i=0:=by omega
      subst this;rfl
    · rw [if_neg h0];simp
  rw [ha]
  exact(hd _ hm).2
abbrev Nl(pb hi s:Nat):HA:= .blk pb [.int .u64 (hi:Int), .int .u64 ((0:Nat):Int), .int .i64 (s:Int)] 342
theorem LN{s:Nat}(h:s<64):s &&& 63=s:=by
 have:=Nat.and_two_pow_sub_one_eq_mod s 6
 rw [show 2^6 - 1=63 from rfl]at this
 rw [this];exact Nat.mod_eq_of_lt h
theorem EC(q:Nat):(10*q) &&& 1=0:=by rw [Nat.and_one_is_mod];omega

theorem GT(x:Int)(h0: -1000≤x)(h1:x≤1000):dd Tryz.prog 242 #[.int .i64 x] [] (.int .i64 ((x*78913).fdiv (2^18))):=by
 refine Ct.of_run (args:=[.int .i64 x]) Tryz.func242 aF Z Tryz.ntmps242 Z (fun c=>?_)
 refine rO 10 Z (wv Z Z Z ?_)
 rw [tJ aC aC]
 refine zA (AJ (s:=18) Z Z Z aC Z ?_)
 refine oR 3 Z ?_
 exact zE Tryz.results242 Z ⟨rfl,rfl,rfl⟩ nS (fun _ h=>by cases h)
theorem LO(x:Int)(h0: -1000≤x)(h1:x≤1000):dd Tryz.prog 295 #[.int .i64 x] [] (.int .i64 ((x*108853).fdiv (2^15))):=by
 refine Ct.of_run (args:=[.int .i64 x]) Tryz.func295 aF Z Tryz.ntmps295 Z (fun c=>?_)
 refine rO 10 Z (wv Z Z Z ?_)
 rw [tJ aC aC]
 refine zA (AJ (s:=15) Z Z Z aC Z ?_)
 refine oR 3 Z ?_
 exact zE Tryz.results295 Z ⟨rfl,rfl,rfl⟩ nS (fun _ h=>by cases h)
theorem LP(x:Nat)(h0:1≤x)(h1:4*x<18446744073709551616):dd Tryz.prog 298 #[.int .u64 (x:Int)] [] (.int .u64 ((4*x - 2:Nat):Int)):=by
 refine Ct.of_run (args:=[.int .u64 (x:Int)]) Tryz.func298 aF Z Tryz.ntmps298 Z (fun c=>?_)
 refine rO 10 Z (jF (m:=x) (s:=2) (r:=4*x) Z Z Z aC aC h1 ?_)
 refine zA (AH (m:=4*x) (m':=2) (r:=4*x - 2) Z Z Z aC Z aC ?_)
 refine oR 3 Z ?_
 exact zE Tryz.results298 Z ⟨rfl,rfl,rfl⟩ nS (fun _ h=>by cases h)
theorem I5(q:Nat)(h:4*q+8<18446744073709551616):dd Tryz.prog 300 #[.int .u64 ((4*q:Nat):Int)] [] (.int .u64 (q:Int)):=by
 refine Ct.of_run (args:=[.int .u64 ((4*q:Nat):Int)]) Tryz.func300 aF Z Tryz.ntmps300 Z (fun c=>?_)
 have hm:q%2<2:=Nat.mod_lt _ aC
 refine rO 10 Z (mU (m:=4*q) (m':=1) (r:=4*q+1) Z Z Z Z aC ?_)
 refine oO 3 Z (mS (m:=4*q) (s:=2) (r:=q) Z Z Z aC aC ?_)
 refine zA (AG (m:=q) (m':=1) (r:=q%2) Z Z Z aC aC (Nat.and_one_is_mod q) ?_)
 refine zA (mU (m:=4*q+1) (m':=q%2) (r:=4*q+1+q%2) Z Z Z Z aC ?_)
 refine zA (mS (m:=4*q+1+q%2) (s:=2) (r:=q) Z Z Z aC aC ?_)
 refine oR 3 Z ?_
 exact zE Tryz.results300 Z ⟨rfl,rfl,rfl⟩ nS (fun _ h=>by cases h)
theorem Nn(b:Bool):dd Tryz.prog 319 #[.bool b] [] (.int .u64 ((b.toNat:Nat):Int)):=by
 refine Ct.of_run (args:=[.bool b]) Tryz.func319 aF Z Tryz.ntmps319 Z (fun c=>?_)
 refine rR 11 Z (zW Z (fun h3=>?_) (fun h3=>?_))
 ·subst h3
  refine rR 5 Z ?_
  exact zE Tryz.results319 Z ⟨rfl,rfl,rfl⟩ nS (fun _ h=>by cases h)
 subst h3
 refine rR 6 Z ?_
 exact zE Tryz.results319 Z ⟨rfl,rfl,rfl⟩ nS (fun _ h=>by cases h)
set_option maxHeartbeats 1000000 in
theorem GU(q:Nat)(h:10*q<18446744073709551616):dd Tryz.prog 309 #[.int .u64 ((10*q:Nat):Int), .int .u64 ((10:Nat):Int)] [] (.int .u64 (q:Int)):=by
 refine Ct.of_run (args:=[.int .u64 ((10*q:Nat):Int), .int .u64 ((10:Nat):Int)]) Tryz.func309 aF Z Tryz.ntmps309 Z (fun c=>?_)
 refine rR 13 Z (yO yE ?_)
 refine zR (tP 0 Z cK (zZ Z) ?_)
 refine tP 1 Z cK (zZ Z) (tP 3 Z cK (zZ Z) ?_)
 refine tP 6 Z cK (zZ Z) (tP 7 Z cK (zZ Z) ?_)
 refine yF (tM 2 Z cK (qK (Du (m:=10*q) (m':=10) (r:=q) aC aC aC) Z Z) ?_)
 refine tM 4 Z cK (qK (Dw (m:=10*q) (m':=1) (r:=0) h aC (EC q)) Z Z) (tM 5 Z cK (qK (ry (m:=q) (m':=0) (r:=q) aC aC (Nat.or_zero q)) Z Z) ?_)
 refine tM 8 Z cK (qK (Dv (m:=10*q) (m':=10) (r:=0) aC aC) Z Z) (tM 9 Z cK (qK (v:= .bool false) (fun w=>rfl) Z Z) ?_)
 refine zL 10 aD ?_
 refine zO (I2:=[[5,4,2],[3,1,0],[]]) Z cK aD (fun Kd hKd=>?_)
 refine zK Z Z Z (Nn false) cZ (hKd _ _ _ (hC (hC (zD (zP)))) ?_)
 refine yF (tM 11 Z cK (qK (ry (m:=q) (m':=0) (r:=q) aC aC (Nat.or_zero q)) Z Z) ?_)
 refine zR (tP 12 Z cK (xC Z) ?_)
 refine yG aD (rK 0 [4] Z Z ?_)
 exact zE Tryz.results309 Z ⟨rfl,rfl,rfl⟩ nS (fun _ h=>by cases h)
theorem I6(fb:Addr)(pb s:Nat)(e lp:Int)(cs:List Value)(hs:(s:Int)= -(e+lp+3))(he: -1000≤e)(he2:e≤1000)(hl: -1000≤lp)(hl2:lp≤1000)(v0 v1 v2:Value):Ct Tryz.prog 296 #[.pointer (some ⟨pb,0,none⟩), .int .i64 e, .int .i64 6, .int .i64 lp] [.blk pb [v0,v1,v2] 342] [kg fb] (fun u M' D'=>u= .tuple #[]∧M'=[Nl pb 17592186044416000000 s]∧D'=[]):=by
 refine Ct.of_run (args:=[.pointer (some ⟨pb,0,none⟩), .int .i64 e, .int .i64 6, .int .i64 lp]) Tryz.func296 aF Z Tryz.ntmps296 Z (fun c=>?_)
 refine rO 7 Z (xY (s:=((354:Nat):Int)) Z Z Z aC aC aC ?_)
 refine zA (pV (i:=354) Tryz.underlying360 AK Z Z Z aC ?_)
 refine zA (zC AL Z Z ?_)
 refine zA (sR 0 6 lx Z Z Z Z ?_)
 refine oO 3 Z (zC rz Z Z ?_)
 refine zA (zF 0 (M':=[HA.blk _ [_,_,_] _]) Z Z Z Z ph Z Z Z ?_)
 refine oO 8 Z (xY (s:=((354:Nat):Int)) Z Z Z aC aC aC ?_)
 refine zA (pV (i:=354) Tryz.underlying360 AK Z Z Z aC ?_)
 refine zA (zC AM Z Z ?_)
 refine zA (sR 0 7 lx Z Z Z Z ?_)
 refine oO 3 Z (zC r0 Z Z ?_)
 refine zA (zF 0 (M':=[HA.blk _ [_,_,_] _]) Z Z Z Z ph Z Z Z ?_)
 refine oK 1 [0,1,3] Z Z (rO 8 Z ?_)
 refine xQ (s:=e+lp) Z Z Z Z aC aC (zA ?_)
 refine xQ (s:=e+lp+3) Z Z Z Z aC aC (zA ?_)
 refine qS (s:=(s:Int)) Z Z hs.symm aC aC (oO 3 Z ?_)
 refine zC r3 Z Z (zA ?_)
 refine zF 0 (M':=[HA.blk _ [_,_,_] _]) Z Z Z Z KG Z Z Z (oK 1 [] Z Z ?_)
 exact vI Tryz.results296 ⟨rfl,rfl,rfl⟩ (List.Sublist.refl _) (fun _ h=>by cases h)
theorem I7(fb:Addr)(pb s:Nat)(e lp:Int)(cs:List Value)(hs:(s:Int)= -(e+lp+3))(he: -1000≤e)(he2:e≤1000)(hl: -1000≤lp)(hl2:lp≤1000)(v0 v1 v2:Value):Ct Tryz.prog 296 #[.pointer (some ⟨pb,0,none⟩), .int .i64 e, .int .i64 7, .int .i64 lp] [.blk pb [v0,v1,v2] 342] [kg fb] (fun u M' D'=>u= .tuple #[]∧M'=[Nl pb 10995116277760000000 s]∧D'=[]):=by
 refine Ct.of_run (args:=[.pointer (some ⟨pb,0,none⟩), .int .i64 e, .int .i64 7, .int .i64 lp]) Tryz.func296 aF Z Tryz.ntmps296 Z (fun c=>?_)
 refine rO 7 Z (xY (s:=((355:Nat):Int)) Z Z Z aC aC aC ?_)
 refine zA (pV (i:=355) Tryz.underlying360 AK Z Z Z aC ?_)
 refine zA (zC AL Z Z ?_)
 refine zA (sR 0 8 lx Z Z Z Z ?_)
 refine oO 3 Z (zC rz Z Z ?_)
 refine zA (zF 0 (M':=[HA.blk _ [_,_,_] _]) Z Z Z Z ph Z Z Z ?_)
 refine oO 8 Z (xY (s:=((355:Nat):Int)) Z Z Z aC aC aC ?_)
 refine zA (pV (i:=355) Tryz.underlying360 AK Z Z Z aC ?_)
 refine zA (zC AM Z Z ?_)
 refine zA (sR 0 9 lx Z Z Z Z ?_)
 refine oO 3 Z (zC r0 Z Z ?_)
 refine zA (zF 0 (M':=[HA.blk _ [_,_,_] _]) Z Z Z Z ph Z Z Z ?_)
 refine oK 1 [0,1,3] Z Z (rO 8 Z ?_)
 refine xQ (s:=e+lp) Z Z Z Z aC aC (zA ?_)
 refine xQ (s:=e+lp+3) Z Z Z Z aC aC (zA ?_)
 refine qS (s:=(s:Int)) Z Z hs.symm aC aC (oO 3 Z ?_)
 refine zC r3 Z Z (zA ?_)
 refine zF 0 (M':=[HA.blk _ [_,_,_] _]) Z Z Z Z KG Z Z Z (oK 1 [] Z Z ?_)
 exact vI Tryz.results296 ⟨rfl,rfl,rfl⟩ (List.Sublist.refl _) (fun _ h=>by cases h)
set_option maxHeartbeats 1000000 in
theorem LQ(pb x hi s q:Nat)(hx:x<18446744073709551616)(hh:hi<18446744073709551616)(hs:s<64)(hq:q*2^s<18446744073709551616)(h:x*hi=q*2^s*18446744073709551616):Ct Tryz.prog 297 #[.int .u64 (x:Int), .pointer (some ⟨pb,0,none⟩)] [Nl pb hi s] [] (fun u M' D'=>u= .int .u64 (q:Int)∧M'=[]∧D'=[]):=by
 refine Ct.of_run (args:=[.int .u64 (x:Int), .pointer (some ⟨pb,0,none⟩)]) Tryz.func297 aF Z Tryz.ntmps297 Z (fun c=>?_)
 have hp:0<2^s:=Nat.two_pow_pos s
 have hql:q≤q*2^s:=Nat.le_mul_of_pos_right _ hp
 have e1:x*hi/18446744073709551616=q*2^s:=by rw [h];omega
 have e2:x*hi%18446744073709551616=0:=by rw [h];omega
 have e3:q*2^s/2^s=q:=Nat.mul_div_cancel _ hp
 refine rO 14 Z (zC rz Z Z ?_)
 refine zA (zG 0 lx Z Z Z Z ?_)
 refine zA (zK Z Z Z (LM x hi hx hh) cZ ?_)
 rw [e1,e2]
 refine oK 11 [6,5,0,1] Z Z (rO 7 Z ?_)
 refine zC r3 Z Z (zA ?_)
 refine zG 0 KF Z Z Z Z (zA ?_)
 refine nl (ur (m:=s) (m':=63) (r:=s) aC aC (LN hs)) Z Z Z (oO 11 Z ?_)
 refine nl (nj (m:=q*2^s) (s:=s) (r:=q) aC e3) Z Z Z (oO 3 Z ?_)
 refine jF (m:=q) (s:=s) (r:=q*2^s) Z Z Z aC Z hq (oO 3 Z ?_)
 refine sT Z Z Z (oK 1 [30,7,6,5,0,1] Z Z ?_)
 refine xL Z (decide_eq_false (fun h=>h Z)) (rO 10 Z ?_)
 refine zC r0 Z Z (zA ?_)
 refine zG 0 lx Z Z Z Z (zA ?_)
 refine zK Z Z Z (LM x 0 hx aC) cZ ?_
 rw [Nat.mul_zero]
 refine oK 11 [8,7,6,5] Z Z (rO 9 Z ?_)
 refine vE Z Z Z (zA ?_)
 refine zK Z Z Z (Iy false) cZ (zA ?_)
 refine nl (uu (m:=q*2^s) (m':=0) (r:=q*2^s) aC Z hq) Z Z Z (oR 4 Z ?_)
 refine yO yE (zR ?_)
 refine tP 0 Z cK (zZ Z) (tP 1 Z cK (zZ Z) ?_)
 refine tP 3 Z cK (zZ Z) (tP 4 Z cK (zZ Z) ?_)
 refine yF (tM 2 Z cK (qK (nj (m:=q*2^s) (s:=s) (r:=q) aC e3) Z Z) ?_)
 refine tM 5 Z cK (qK (uu (m:=0) (m':=0) (r:=0) aC (Eq.refl _) aC) Z Z) (tM 6 Z cK (qK (v:= .bool false) (fun w=>rfl) Z Z) ?_)
 refine zL 7 aD ?_
 refine zO (I2:=[[2],[1,0],[]]) Z cK aD (fun Kd hKd=>?_)
 refine zK Z Z Z (Iy false) cZ (hKd _ _ _ (hC (hC (zD (zP)))) ?_)
 refine yF (tM 8 Z cK (qK (ry (m:=q) (m':=0) (r:=q) aC aC (Nat.or_zero q)) Z Z) ?_)
 refine zR (tP 9 Z cK (xC Z) ?_)
 refine yG aD (rK 0 [4] Z Z ?_)
 exact zE Tryz.results297 Z ⟨rfl,rfl,rfl⟩ nS (fun _ h=>by cases h)
end Go.Jw

namespace Go.Jw
open Go Go.RowKit Go.Proofs
set_option maxRecDepth 8000
open Go.Lib Go.Sort
abbrev mZ(l:List UInt8):List Value:=l.map fun b=> .int .u8 (b.toNat:Int)
abbrev z8(n:Nat):List Value:=List.replicate n (.int .u8 0)
theorem I8:ww Tryz.prog 221:=⟨_,Tryz.func221,by kernel_rfl,rfl⟩
theorem No(b T nd D:Nat)(hnd:nd=nDigits D)(hD:D<18446744073709551616)(h24:nd≤24):
    Ct Tryz.prog 221 #[.slice (some ⟨b,0,none⟩) nd 24, .int .u64 (D:Int)] [.blk b (z8 24) T] [] (fun u M' D'=>u= .tuple #[]∧M'=[.blk b (mZ (decDigits D)++z8 (24 - nd)) T]∧D'=[]):=by
  refine⟨I8,fun w ok hok hM hn hDD=>?_⟩
  have hb:w.heap[b]? =some (.cells (z8 24).toArray T (0,0)):=hM _ List.mem_cons_self
  have hsz:(Array.replicate nd (0:UInt8)).size=nd:=by simp
  have hH:Holds (fun(x:UInt8)=>Value.int .u8 (x.toNat:Int)) w b 0 (Array.replicate nd (0:UInt8)):=fun j hj=>by
    have hj':j<nd:=by simpa using hj
    constructor
    · unfold World.cell?
      simp only [hb,Nat.zero_add]
      rw [getElem!_pos _ j hj]
      simp [show j<24 by omega]
    · unfold World.frozen?
      simp [hb]
  have hc:=Tryz.internal_strconv_formatBase10 b 0 24 D (Array.replicate nd 0) w hH (by rw [hsz,hnd];exact lt_pow_nDigits D) hD (by rw [hsz];omega)
  rw [hsz]at hc
  refine hc.mono ?_
  rintro e w' ⟨rfl,n,v',dk,rfl,hf⟩
  have hheap:((putRow (fun(x:UInt8)=>Value.int .u8 (x.toNat:Int)) w b 0 dk).drewN n).heap=w.heap.modify b (onCells (putCells (fun(x:UInt8)=>Value.int .u8 (x.toNat:Int)) 0 dk)):=rfl
  have hcells:putCells (fun(x:UInt8)=>Value.int .u8 (x.toNat:Int)) 0 dk (z8 24).toArray=(mZ (decDigits D)++z8 (24 - nd)).toArray:=by
    have hdl:(decDigits D).length=nd:=by rw [decDigits_length,hnd]
    apply Array.ext_getElem?
    intro k
    unfold putCells
    rw [Array.getElem?_mapIdx,List.getElem?_toArray,List.getElem?_toArray]
    by_cases hk:k<nd
    · rw [List.getElem?_append_left (by simpa [hdl]using hk),List.getElem?_map,List.getElem?_eq_getElem (by omega:k<(decDigits D).length),row_is_numeral (by rw [←hnd];exact hf) k aC]
      simp [z8,List.getElem?_replicate,show k<24 by omega,hf.size,hk]
    · rw [List.getElem?_append_right (by simp [hdl];omega)]
      simp only [List.length_map,hdl,z8,List.getElem?_replicate]
      by_cases hk2:k<24
      · simp [hk2,hf.size,hk,show k - nd<24 - nd by omega]
      · simp [hk2,show ¬ k - nd<24 - nd by omega]
  refine⟨_,[.blk b (mZ (decDigits D)++z8 (24 - nd)) T],[],rfl,⟨rfl,rfl,rfl⟩,⟨rfl,rfl,rfl,?_,fun k hk hF=>?_⟩,?_,by simp [foots,HA.foot],by simp [foots,HA.foot],by simp⟩
  · rw [hheap];simp
  · rw [hheap,Array.getElem?_modify,if_neg (fun h=>hF (by simp [foots,HA.foot,h]))]
  · intro h hh
    rcases List.mem_singleton.1 hh with rfl
    show _=_
    rw [hheap,Array.getElem?_modify,if_pos rfl,hb]
    simp only [Option.map_some,onCells,hcells]
theorem r7{F:List Nat}{c:Ctx F}{M:List HA}{D:List DA}{w:World}(h:FitsW c M D w){j b i T:Nat}{cs:List Value}{v:Value}(hj:M[j]? =some (.blk b cs T))(hv:cs[i]? =some v):w.cell? ((⟨b,0,none⟩:Addr).add (i*1))=some v:=by
 have hb:w.heap[b]? =some (.cells cs.toArray T (0,0)):=h.own _ (List.mem_of_getElem? hj)
 rw [Nat.mul_one,add_plain,Nat.zero_add]
 rw [tI hb]
 exact hv
def dgOf(L:Nat):Nat:=if 2≤L then 7+((L - 1)*78913)/262144 else 7
def pOf(L:Nat):Nat:=if 2≤L then dgOf L - 1 - ((L - 2)*78913)/262144 else 7
theorem I9: ∀ L:Fin 30,7≤dgOf L.val∧dgOf L.val≤15∧(pOf L.val=6∨pOf L.val=7)∧((pOf L.val:Nat):Int)=(dgOf L.val:Int) - 1 - (((L.val:Int) - 2)*78913).fdiv (2^18)∧2^(L.val+1)*1000000≤4*10^dgOf L.val∧
  (2≤L.val→(dgOf L.val:Int)=1+(((L.val:Int) - 1)*78913).fdiv (2^18)+6)∧(¬ 2≤L.val→(7:Int)=1+6 - ((2 - (L.val:Int))*78913).fdiv (2^18)):=by decide+kernel
theorem lU{a b c d:Nat}(h:a+b=c+d):2^a*2^b=2^c*2^d:=by rw [←Nat.pow_add,←Nat.pow_add,h]
structure FmtN(N L:Nat):Prop where
 n0:0<N
 n9:N<1000000000
 lo:2^L≤N
 hi:N<2^(L+1)
 l29:L<30
theorem LR{N:Nat}(h0:0<N)(h9:N<1000000000):FmtN N N.log2:=by
 have h1:=Nat.log2_self_le (Nat.ne_of_gt h0)
 refine⟨h0,h9,h1,Nat.lt_log2_self,?_⟩
 exact(Nat.log2_lt (Nat.ne_of_gt h0)).2 aC
theorem FmtN.tab{N L:Nat}(h:FmtN N L):7≤dgOf L∧dgOf L≤15∧(pOf L=6∨pOf L=7)∧((pOf L:Nat):Int)=(dgOf L:Int) - 1 - (((L:Int) - 2)*78913).fdiv (2^18)∧2^(L+1)*1000000≤4*10^dgOf L∧
  (2≤L→(dgOf L:Int)=1+(((L:Int) - 1)*78913).fdiv (2^18)+6)∧(¬ 2≤L→(7:Int)=1+6 - ((2 - (L:Int))*78913).fdiv (2^18)):=I9 ⟨L,h.l29⟩
theorem FmtN.mul{N L:Nat}(h:FmtN N L)(P k s:Nat)(hs:s+L+1=k)(hk:k≤44):N*2^(63 - L)*(P*2^k)=N*P*2^s*18446744073709551616:=by
  have:=h.l29
  have e:=lU (a:=63 - L) (b:=k) (c:=s) (d:=64) aC
  calc N*2^(63 - L)*(P*2^k)=N*P*(2^(63 - L)*2^k):=by ac_rfl
    _=N*P*(2^s*2^64):=by rw [e]
    _=N*P*2^s*18446744073709551616:=by rw [←Nat.mul_assoc]
theorem FmtN.up{N L:Nat}(h:FmtN N L):N*2^(63 - L)<18446744073709551616:=by
 have:=h.l29
 have e:=lU (a:=L+1) (b:=63 - L) (c:=64) (d:=0) aC
 have:=Nat.mul_lt_mul_of_pos_right h.hi (Nat.two_pow_pos (63 - L))
 omega
theorem FmtN.fits{N L:Nat}(h:FmtN N L)(s k:Nat)(hs:s+L+1=k):N*2^s<2^k:=by
 have e:=lU (a:=L+1) (b:=s) (c:=k) (d:=0) aC
 have:=Nat.mul_lt_mul_of_pos_right h.hi (Nat.two_pow_pos s)
 omega
theorem FmtN.small{N L:Nat}(h:FmtN N L):N*1000000+2<4*10^dgOf L:=by
 have h1:=h.tab.2.2.2.2.1
 have h2:=h.hi
 have h3:(N+1)*1000000≤2^(L+1)*1000000:=Nat.mul_le_mul_right _ h2
 have h4:2^(L+1)*1000000≤4*10^dgOf L:=h1
 omega
theorem Hx{d:Nat}(h:d≤15):10^d≤1000000000000000:=Nat.le_trans (Nat.pow_le_pow_right aC h) aE
def uOf(N a:Nat):Nat:=if a=0 then 4*(N*250000)else 10*(4*(N*250000))

set_option maxHeartbeats 1000000 in
theorem JA(fb:Addr)(N L:Nat)(hF:FmtN N L)(hp:pOf L=6):dd Tryz.prog 286 #[.int .u64 ((N*2^(63 - L):Nat):Int), .int .i64 ((L:Int) - 65), .int .i64 ((dgOf L:Nat):Int), .int .i64 6, .int .u8 102] [kg fb] (.tuple #[.int .u64 ((N*250000:Nat):Int), .int .i64 (-6)]):=by
 refine Ct.of_run (args:=[.int .u64 ((N*2^(63 - L):Nat):Int), .int .i64 ((L:Int) - 65), .int .i64 ((dgOf L:Nat):Int), .int .i64 6, .int .u8 102]) Tryz.func286 aF Z Tryz.ntmps286 Z (fun c=>?_)
 obtain⟨d7,d15,_,hpv,hbd,_,_⟩:=hF.tab
 rw [hp]at hpv
 have hl:=hF.l29
 have hn9:=hF.n9
 have hsm:=hF.small
 have hp15:=Hx d15
 have hlp:((6:Int)*108853).fdiv (2^15)=19:=by decide
 have hfit:=hF.fits (43 - L) 44 aC
 have hq1:(4*(N*250000))*2^(43 - L)<18446744073709551616:=by
  have e:(4*(N*250000))*2^(43 - L)=1000000*(N*2^(43 - L)):=by rw [show(4*(N*250000))=1000000*N by omega,Nat.mul_assoc]
  omega
 have hq2:N*2^(63 - L)*17592186044416000000=(4*(N*250000))*2^(43 - L)*18446744073709551616:=by
  have e:=hF.mul 1000000 44 (43 - L) aC aC
  rw [show(4*(N*250000))=N*1000000 by omega]
  exact e
 refine rO 12 Z (xY (s:=((dgOf L:Nat):Int) - 1) Z Z Z Z aC aC ?_)
 refine oO 3 Z (xQ (s:=(L:Int) - 2) Z Z Z aC aC aC ?_)
 refine zA (zK Z Z Z (GT ((L:Int) - 2) aC aC) cZ ?_)
 refine zA (xY (s:=6) Z Z Z aC aC aC ?_)
 refine oO 6 Z (zS Hu Z (fun b12=>?_))
 change cL _ _ _ _ _ _ _ _ (HA.blk _ [_,_,_] _::_) _
 refine oO 10 Z (zK Z Z Z (LO 6 aC aC) cZ ?_)
 refine zA ?_
 refine wE 0 Z Z Z (I6 fb b12 (43 - L) ((L:Int) - 65) (((6:Int)*108853).fdiv (2^15)) [] b0 aC aC b0 b0 _ _ _) Z (cS 0 Z) (fun u24 M24 D24 hv24=>?_)
 obtain⟨rfl,rfl,rfl⟩:=hv24
 refine oK 1 [12,11,0,2,3,4] Z Z (rO 5 Z ?_)
 refine wE 0 Z Z Z (LQ b12 (N*2^(63 - L)) 17592186044416000000 (43 - L) (4*(N*250000)) hF.up aC aC hq1 hq2) Z cZ (fun u26 M26 D26 hv26=>?_)
 obtain⟨rfl,rfl,rfl⟩:=hv26
 refine oO 11 Z (pV (i:=dgOf L) Tryz.underlying270 ph Z Z Z aC ?_)
 refine zA (yH lx Z Z (fun _ h=>EB h (j:=0) Z aC) ?_)
 refine zA (zK Z Z Z (LP (10^dgOf L) (Nat.pow_pos aC) aC) cZ ?_)
 refine zA (tB Z Z Z ?_)
 refine oK 1 [32,13,11,3,4] Z Z (xL Z (decide_eq_false aC) ?_)
 refine rK 11 [13,11,3] Z Z ?_
 refine xJ 2 (fun(a:Nat)=>a≤1) (fun(a:Nat)=>[(13, .int .u64 ((uOf N a:Nat):Int)),(11, .int .i64 ((6+a:Nat):Int))]) (fun(a:Nat)=>a) 0 (bu) (eC Z (eC Z (eN _))) ?_ (eC Z (eN _))
 intro a hI K hK
 change Run _ _ _ _ _ [(13,_),(11,_),(3,_)] _ _
 replace hI:a≤1:=hI
 refine rO 8 Z (vC Z Z Z ?_)
 refine zX (zN Z (fun h41=>?_) (fun h41=>?_))
 ·obtain rfl:a=1:=by omega
  refine rO 7 Z (zK Z Z Z (GU (4*(N*250000)) aC) cZ ?_)
  refine oO 7 Z (xY (s:=6) Z Z Z Z aC aC ?_)
  refine oR 4 Z ?_
  exact kQ (hK 0 (bu) (by show 0<1;omega))
 obtain rfl:a=0:=by omega
 refine rO 6 Z (zK Z Z Z (I5 (N*250000) aC) cZ ?_)
 refine oO 3 Z (qS (s:= -6) Z Z Z aC aC ?_)
 refine oK 5 [11,10] Z Z ?_
 exact vL Tryz.results286 Z Z ⟨rfl,rfl,rfl⟩ nS (fun _ h=>by cases h)
set_option maxHeartbeats 1000000 in
theorem JB(fb:Addr)(N L:Nat)(hF:FmtN N L)(hp:pOf L=7):dd Tryz.prog 286 #[.int .u64 ((N*2^(63 - L):Nat):Int), .int .i64 ((L:Int) - 65), .int .i64 ((dgOf L:Nat):Int), .int .i64 6, .int .u8 102] [kg fb] (.tuple #[.int .u64 ((N*250000:Nat):Int), .int .i64 (-6)]):=by
 refine Ct.of_run (args:=[.int .u64 ((N*2^(63 - L):Nat):Int), .int .i64 ((L:Int) - 65), .int .i64 ((dgOf L:Nat):Int), .int .i64 6, .int .u8 102]) Tryz.func286 aF Z Tryz.ntmps286 Z (fun c=>?_)
 obtain⟨d7,d15,_,hpv,hbd,_,_⟩:=hF.tab
 rw [hp]at hpv
 have hl:=hF.l29
 have hn9:=hF.n9
 have hsm:=hF.small
 have hp15:=Hx d15
 have hlp:((7:Int)*108853).fdiv (2^15)=23:=by decide
 have hfit:=hF.fits (39 - L) 40 aC
 have hq1:(10*(4*(N*250000)))*2^(39 - L)<18446744073709551616:=by
  have e:(10*(4*(N*250000)))*2^(39 - L)=10000000*(N*2^(39 - L)):=by rw [show(10*(4*(N*250000)))=10000000*N by omega,Nat.mul_assoc]
  omega
 have hq2:N*2^(63 - L)*10995116277760000000=(10*(4*(N*250000)))*2^(39 - L)*18446744073709551616:=by
  have e:=hF.mul 10000000 40 (39 - L) aC aC
  rw [show(10*(4*(N*250000)))=N*10000000 by omega]
  exact e
 refine rO 12 Z (xY (s:=((dgOf L:Nat):Int) - 1) Z Z Z Z aC aC ?_)
 refine oO 3 Z (xQ (s:=(L:Int) - 2) Z Z Z aC aC aC ?_)
 refine zA (zK Z Z Z (GT ((L:Int) - 2) aC aC) cZ ?_)
 refine zA (xY (s:=7) Z Z Z aC aC aC ?_)
 refine oO 6 Z (zS Hu Z (fun b12=>?_))
 change cL _ _ _ _ _ _ _ _ (HA.blk _ [_,_,_] _::_) _
 refine oO 10 Z (zK Z Z Z (LO 7 aC aC) cZ ?_)
 refine zA ?_
 refine wE 0 Z Z Z (I7 fb b12 (39 - L) ((L:Int) - 65) (((7:Int)*108853).fdiv (2^15)) [] b0 aC aC b0 b0 _ _ _) Z (cS 0 Z) (fun u24 M24 D24 hv24=>?_)
 obtain⟨rfl,rfl,rfl⟩:=hv24
 refine oK 1 [12,11,0,2,3,4] Z Z (rO 5 Z ?_)
 refine wE 0 Z Z Z (LQ b12 (N*2^(63 - L)) 10995116277760000000 (39 - L) (10*(4*(N*250000))) hF.up aC aC hq1 hq2) Z cZ (fun u26 M26 D26 hv26=>?_)
 obtain⟨rfl,rfl,rfl⟩:=hv26
 refine oO 11 Z (pV (i:=dgOf L) Tryz.underlying270 ph Z Z Z aC ?_)
 refine zA (yH lx Z Z (fun _ h=>EB h (j:=0) Z aC) ?_)
 refine zA (zK Z Z Z (LP (10^dgOf L) (Nat.pow_pos aC) aC) cZ ?_)
 refine zA (tB Z Z Z ?_)
 refine oK 1 [32,13,11,3,4] Z Z (zN Z (fun h32=>?_) (fun h32=>?_))
 ·refine rO 5 Z (zK Z Z Z (GU (4*(N*250000)) aC) cZ ?_)
  refine oO 7 Z (xY (s:=6) Z Z Z Z aC aC ?_)
  refine oK 13 [13,11,3] Z Z ?_
  refine xJ 2 (fun(a:Nat)=>a≤1) (fun(a:Nat)=>[(13, .int .u64 ((uOf N a:Nat):Int)),(11, .int .i64 ((6+a:Nat):Int))]) (fun(a:Nat)=>a) 0 (bu) (eC Z (eC Z (eN _))) ?_ (eC Z (eN _))
  intro a hI K hK
  change Run _ _ _ _ _ [(13,_),(11,_),(3,_)] _ _
  replace hI:a≤1:=hI
  refine rO 8 Z (vC Z Z Z ?_)
  refine zX (zN Z (fun h41=>?_) (fun h41=>?_))
  ·obtain rfl:a=1:=by omega
   refine rO 7 Z (zK Z Z Z (GU (4*(N*250000)) aC) cZ ?_)
   refine oO 7 Z (xY (s:=6) Z Z Z Z aC aC ?_)
   refine oR 4 Z ?_
   exact kQ (hK 0 (bu) (by show 0<1;omega))
  obtain rfl:a=0:=by omega
  refine rO 6 Z (zK Z Z Z (I5 (N*250000) aC) cZ ?_)
  refine oO 3 Z (qS (s:= -6) Z Z Z aC aC ?_)
  refine oK 5 [11,10] Z Z ?_
  exact vL Tryz.results286 Z Z ⟨rfl,rfl,rfl⟩ nS (fun _ h=>by cases h)
 refine rK 11 [13,11,3] Z Z ?_
 refine xJ 2 (fun(a:Nat)=>a≤1) (fun(a:Nat)=>[(13, .int .u64 ((uOf N a:Nat):Int)),(11, .int .i64 ((6+a:Nat):Int))]) (fun(a:Nat)=>a) 1 ((by show 1≤1;omega)) (eC Z (eC Z (eN _))) ?_ (eC Z (eN _))
 intro a hI K hK1
 change Run _ _ _ _ _ [(13,_),(11,_),(3,_)] _ _
 replace hI:a≤1:=hI
 refine rO 8 Z (vC Z Z Z ?_)
 refine zX (zN Z (fun h41=>?_) (fun h41=>?_))
 ·obtain rfl:a=1:=by omega
  refine rO 7 Z (zK Z Z Z (GU (4*(N*250000)) aC) cZ ?_)
  refine oO 7 Z (xY (s:=6) Z Z Z Z aC aC ?_)
  refine oR 4 Z ?_
  exact kQ (hK1 0 (bu) (by show 0<1;omega))
 obtain rfl:a=0:=by omega
 refine rO 6 Z (zK Z Z Z (I5 (N*250000) aC) cZ ?_)
 refine oO 3 Z (qS (s:= -6) Z Z Z aC aC ?_)
 refine oK 5 [11,10] Z Z ?_
 exact vL Tryz.results286 Z Z ⟨rfl,rfl,rfl⟩ nS (fun _ h=>by cases h)
end Go.Jw

namespace Go.Jw
open Go Go.RowKit Go.Proofs
set_option maxRecDepth 8000
open Go.Lib
def ma(neg:Bool):List UInt8:=if neg then [45]else []
def ipL(N:Nat):List UInt8:=if N/4=0 then []else decDigits (N/4)
def jo(N:Nat):List UInt8:=if N%4=1 then [50,53,48,48,48,48]else if N%4=2 then [53,48,48,48,48,48]else [55,53,48,48,48,48]
def kq(N:Nat):Nat:=if N%4=2 then 1 else 2
theorem kh(N:Nat):(jo N).length=6:=by
 unfold jo;split
 ·rfl
 ·split<;>rfl
theorem ED(N:Nat):1≤kq N∧kq N≤2:=by unfold kq;split<;>omega
theorem ns{u d:Nat}(h:1≤u)(hd:d<10):decDigits (10*u+d)=decDigits u++[UInt8.ofNat (48+d)]:=by
 rw [decDigits,dif_neg aC,show(10*u+d)/10=u by omega,show(10*u+d)%10=d by omega]
theorem AO{u:Nat}(h:u<10):decDigits u=[UInt8.ofNat (48+u)]:=by rw [decDigits,dif_pos h]
theorem AP{u:Nat}(h:1≤u):decDigits (10*u)=decDigits u++[48]:=ns (d:=0) h aC
theorem EE{u:Nat}(h:1≤u):decDigits (10*(10*(10*(10*u))))=decDigits u++[48,48,48,48]:=by
 have h1:1≤10*u:=by omega
 have h2:1≤10*(10*u):=by omega
 have h3:1≤10*(10*(10*u)):=by omega
 rw [AP h3,AP h2,AP h1,AP h]
 simp
theorem LS(a q:Nat):(4*a+q)*250000=1000000*a+q*250000:=by rw [Nat.add_mul,Nat.mul_right_comm]
theorem LT{a q r1 r2:Nat}(he:r1*100000+r2*10000=q*250000):1000000*a+q*250000=10*(10*(10*(10*(10*(10*a+r1)+r2)))):=by omega
theorem py(N:Nat)(h:0<N%4):decDigits (N*250000)=ipL N++jo N:=by
 have hd:=Nat.div_add_mod N 4
 have h4:N%4<4:=Nat.mod_lt _ aC
 unfold ipL jo
 generalize hq:N%4=q at*
 generalize ha:N/4=a at*
 have hN:N=4*a+q:=by omega
 subst hN
 have key: ∀ r1 r2:Nat,r1<10→r2<10→r1*100000+r2*10000=q*250000→1≤r1→decDigits ((4*a+q)*250000)=(if a=0 then []else decDigits a)++[UInt8.ofNat (48+r1),UInt8.ofNat (48+r2),48,48,48,48]:=by
  intro r1 r2 h1 h2 he h3
  have e1:(4*a+q)*250000=10*(10*(10*(10*(10*(10*a+r1)+r2)))):=(LS a q).trans (LT he)
  rw [e1,EE (show 1≤10*(10*a+r1)+r2 by omega),ns (show 1≤10*a+r1 by omega) h2]
  split
  ·rename_i h0
   subst h0
   rw [Nat.mul_zero,Nat.zero_add,AO h1]
   rfl
  ·rename_i h0
   rw [ns (show 1≤a by omega) h1]
   simp
 have h3:q=1∨q=2∨q=3:=by omega
 rcases h3 with rfl|rfl|rfl
 ·exact key 2 5 aC aC aC aC
 ·exact key 5 0 aC aC aC aC
 ·exact key 7 5 aC aC aC aC
theorem AQ{N:Nat}(h9:N<1000000000):(ipL N).length≤9:=by
 unfold ipL
 split
 ·simp
 ·rw [decDigits_length];exact jc aC aC
theorem u0{N:Nat}(h:0<N%4):nDigits (N*250000)=(ipL N).length+6:=by rw [←decDigits_length,py N h,List.length_append,kh]
theorem Hy(N:Nat)(h:0<N%4)(j:Nat)(hj:j<6): ∃c:UInt8,(jo N)[j]? =some c∧(c.toNat=48↔kq N≤j):=by
 have h4:N%4<4:=Nat.mod_lt _ aC
 unfold jo kq
 have hj6:j=0∨j=1∨j=2∨j=3∨j=4∨j=5:=by omega
 rcases(show N%4=1∨N%4=2∨N%4=3 by omega)with hq|hq|hq<;>rw [hq]<;>rcases hj6 with rfl|rfl|rfl|rfl|rfl|rfl<;>exact⟨_,rfl,by decide⟩
abbrev lV(N:Nat):List Value:=mZ (ipL N++jo N)++z8 (24 - ((ipL N).length+6))
theorem EF{N:Nat}(h:0<N%4){j:Nat}(hj:j<6): ∃c:UInt8,(jo N)[j]? =some c∧(lV N)[(ipL N).length+j]? =some (.int .u8 (c.toNat:Int))∧(c.toNat=48↔kq N≤j):=by
 obtain⟨c,h1,h2⟩:=Hy N h j hj
 refine⟨c,h1,?_,h2⟩
 unfold lV
 rw [List.getElem?_append_left (by rw [List.length_map,List.length_append,kh];omega),List.getElem?_map,List.getElem?_append_right aC,Nat.add_sub_cancel_left,h1]
 rfl
theorem JC{N:Nat}{j:Nat}(hj:j<(ipL N).length):(lV N)[j]? =some (.int .u8 ((ipL N)[j].toNat:Int)):=by
 unfold lV
 rw [List.getElem?_append_left (by rw [List.length_map,List.length_append];omega),List.getElem?_map,List.getElem?_append_left hj,List.getElem?_eq_getElem hj]
 rfl
theorem LU{N m:Nat}(h:0<N%4)(h1:(ipL N).length+kq N≤m)(h2:m≤(ipL N).length+6): ∃c:UInt8,(lV N)[m - 1]? =some (.int .u8 (c.toNat:Int))∧(c.toNat=48↔(ipL N).length+kq N<m):=by
 have hk:=ED N
 obtain⟨c,_,h3,h4⟩:=EF (N:=N) h (j:=m - 1 - (ipL N).length) aC
 rw [show(ipL N).length+(m - 1 - (ipL N).length)=m - 1 by omega]at h3
 exact⟨c,h3,by rw [h4];omega⟩
theorem kk(l:List UInt8)(b:UInt8):mZ l++[.int .u8 (b.toNat:Int)]=mZ (l++[b]):=by simp
section rules
variable {P:Program} {n:Nat} {F:List Nat} {c:Ctx F} {k:List KI} {Q:Post} {e:dI} {M:List HA} {D:List DA}
theorem qF(i:Nat){A:Option Addr}{m cap U sz:Nat}{xs ys:List Value}(hi:M[i]? =some (.row A m cap U sz xs))(h:xs=ys)(next:Run P n c k Q e (M.set i (.row A m cap U sz ys)) D):Run P n c k Q e M D:=by
 subst h
 have:M.set i (.row A m cap U sz xs)=M:=by
  apply List.ext_getElem?
  intro j
  rw [List.getElem?_set]
  split
  ·rename_i hj
   subst hj
   split
   ·exact hi.symm
   ·rename_i h2
    rw [List.getElem?_eq_none aC]
  ·rfl
 rwa [this]at next
end rules

theorem Np(b T N:Nat)(hq:0<N%4)(h9:N<1000000000):Ct Tryz.prog 285 #[.slice (some ⟨b,0,none⟩) 24 24, .int .u64 ((N*250000:Nat):Int), .int .i64 (-6), .int .i64 (((ipL N).length+6:Nat):Int)] [.blk b (z8 24) T] [] (fun u M' D'=>u= .tuple #[.int .i64 (((ipL N).length:Nat):Int), .int .i64 (((ipL N).length+kq N:Nat):Int)]∧M'=[.blk b (lV N) T]∧D'=[]):=by
 refine Ct.of_run (args:=[.slice (some ⟨b,0,none⟩) 24 24, .int .u64 ((N*250000:Nat):Int), .int .i64 (-6), .int .i64 (((ipL N).length+6:Nat):Int)]) Tryz.func285 aF Z Tryz.ntmps285 Z (fun c=>?_)
 have hil:=AQ h9
 have hk:=ED N
 refine rO 15 Z (yA d4 Z Z ?_)
 refine zA (iI Z Z Z ?_)
 refine zX (vF Z (decide_eq_true aC) ?_)
 refine rO 7 Z (ni (h:=(ipL N).length+6) d4 Z Z Z aC aC ?_)
 refine oO 3 Z ?_
 refine wE 0 Z Z Z (No b T ((ipL N).length+6) (N*250000) (u0 hq).symm aC aC) Z cZ (fun u18 M18 D18 hv18=>?_)
 obtain⟨rfl,rfl,rfl⟩:=hv18
 rw [py N hq]
 refine oK 1 [0,2,3] Z Z (rO 7 Z ?_)
 refine xQ (s:=(((ipL N).length:Nat):Int)) Z Z Z aC aC aC (oK 4 [3,8,0] Z Z ?_)
 refine xJ 1 (fun(m:Nat)=>(ipL N).length+kq N≤m∧m≤(ipL N).length+6) (fun(m:Nat)=>[(3, .int .i64 ((m:Nat):Int))]) (fun(m:Nat)=>m) ((ipL N).length+6) (⟨aC,Nat.le_refl _⟩) (eC Z (eN _)) ?_ (eC Z (eC Z (eN _)))
 intro m hI K hK
 change Run _ _ _ _ _ [(3,_),(8,_),(0,_)] _ _
 obtain⟨hm1,hm2⟩:=hI
 obtain⟨cm,hc1,hc2⟩:=LU hq hm1 hm2
 refine rO 6 Z (vC Z Z Z ?_)
 refine oS 2 Z (fi (s:=24) Z (decide_eq_true aC) ?_)
 refine oO 5 Z (xY (s:=((m - 1:Nat):Int)) Z Z Z aC aC aC ?_)
 refine zI Z Z (wJ d4 Z Z Z aC ?_)
 refine zI Z Z (yH Mn Z Z (fun _ h=>r7 h (j:=0) Z hc1) ?_)
 refine oK 5 [31,3,8,0] Z Z (zN Z (fun h31=>?_) (fun h31=>?_))
 ·have hlt:=hc2.1 aC
  refine rO 6 Z (xY (s:=((m - 1:Nat):Int)) Z Z Z aC aC aC ?_)
  refine oR 4 Z ?_
  exact kQ (hK (m - 1) (⟨aC,aC⟩) (by show m - 1<m;omega))
 obtain rfl:m=(ipL N).length+kq N:=by
  rcases Nat.lt_or_eq_of_le hm1 with h|h
  ·exact absurd (hc2.2 h) aC
  ·exact h.symm
 refine rR 12 Z ?_
 exact vL Tryz.results285 Z Z ⟨rfl,rfl,rfl⟩ (List.Sublist.refl _) (fun _ h=>by cases h)
theorem GV{N:Nat}(h:0<(ipL N).length):ipL N=decDigits (N/4):=by
 unfold ipL at h⊢
 split
 ·rename_i h0;rw [if_pos h0]at h;simp at h
 ·rfl
theorem EG{N:Nat}(h: ¬ 0<(ipL N).length):decDigits (N/4)=[48]:=by
 have h0:N/4=0:=Classical.byContradiction fun h0=>h (by
  unfold ipL
  rw [if_neg h0,decDigits_length]
  exact nDigits_pos _)
 rw [h0,AO aC]
 rfl
theorem GW{N k:Nat}(hq:0<N%4)(h1:kq N≤k)(h2:k<6):(jo N).take (k+1)=(jo N).take k++[48]:=by
 obtain⟨c,hf1,hf2⟩:=Hy N hq k h2
 obtain⟨hl6,hci⟩:=List.getElem?_eq_some_iff.1 hf1
 rw [List.take_succ_eq_append_getElem hl6,hci]
 have h48:c.toNat=48:=hf2.2 h1
 rw [show c=48 from UInt8.toNat_inj.1 h48]
set_option maxHeartbeats 4000000 in
theorem Nq(b T N c0:Nat)(A0:Option Addr)(neg:Bool)(hq:0<N%4)(h9:N<1000000000):Ct Tryz.prog 283 #[.slice A0 0 c0, .bool neg, .slice (some ⟨b,0,none⟩) 24 24, .int .i64 (((ipL N).length:Nat):Int), .int .i64 (((ipL N).length+kq N:Nat):Int), .int .i64 6, .int .u8 102, .bool false] [.row A0 0 c0 5 1 [], .blk b (lV N) T] [] (fun u M' D'=> ∃A n c,u= .slice A n c∧M'=[.row A n c 5 1 (mZ (ma neg++decDigits (N/4)++[46]++jo N))]∧D'=[]):=by
 refine Ct.of_run (args:=[.slice A0 0 c0, .bool neg, .slice (some ⟨b,0,none⟩) 24 24, .int .i64 (((ipL N).length:Nat):Int), .int .i64 (((ipL N).length+kq N:Nat):Int), .int .i64 6, .int .u8 102, .bool false]) Tryz.func283 aF Z Tryz.ntmps283 Z (fun c=>?_)
 have hil:=AQ h9
 have hk:=ED N
 refine rS 14 Z (vM (s:=33) Z (rfl) ?_)
 refine oK 7 [36,0,1,2,3,4,5,6,7] Z Z (rK 32 [176,0,1,2,3,4,5,6] Z Z ?_)
 refine rK 7 [178,0,2,3,4,5] Z Z (vO [2,3,4,5] (fun(⟨A1,n1,c1⟩:Option Addr×Nat×Nat)=>n1≤1) (fun(⟨A1,n1,c1⟩:Option Addr×Nat×Nat)=>[(0, .slice A1 n1 c1)]) (fun(⟨A1,n1,c1⟩:Option Addr×Nat×Nat)=>HA.row A1 n1 c1 5 1 (mZ (ma neg))::HA.blk b (lV N) T::[]) (fun(⟨A1,n1,c1⟩:Option Addr×Nat×Nat)=>[]) ?_ ?_)
 ·intro K hK
  refine zW Z (fun h178=>?_) (fun h178=>?_)
  ·refine rO 4 Z (zM d4 Z Z Z Z Z (fun b180=>?_))
   refine zA ?_
   refine cf 1 0 d4 (fun A181 c181=>?_)
   refine oR 3 Z ?_
   subst h178
   exact kQ (hK (_,_,_) (by show _≤1;omega)) (eC Z (eC Z (eC Z (eC Z (eC Z (eN _)))))) (hD:=bg)
  refine xZ ?_
  subst h178
  exact kQ (hK (_,_,_) (by show _≤1;omega)) (eC Z (eC Z (eC Z (eC Z (eC Z (eN _)))))) (hD:=bg)
 intro ⟨A1,n1,c1⟩ hI
 replace hI:n1≤1:=hI
 change Run _ _ _ _ _ [(0,_),(2,_),(3,_),(4,_),(5,_)] [_,_] ([])
 replace hI:n1≤1:=hI
 refine rO 6 Z (vC Z Z Z ?_)
 refine oK 1 [183,0,2,3,4,5] Z Z (vO [2,3,4,5] (fun(⟨A2,n2,c2⟩:Option Addr×Nat×Nat)=>n2≤11) (fun(⟨A2,n2,c2⟩:Option Addr×Nat×Nat)=>[(0, .slice A2 n2 c2)]) (fun(⟨A2,n2,c2⟩:Option Addr×Nat×Nat)=>HA.row A2 n2 c2 5 1 (mZ (ma neg++decDigits (N/4)))::HA.blk b (lV N) T::[]) (fun(⟨A2,n2,c2⟩:Option Addr×Nat×Nat)=>[]) ?_ ?_)
 ·intro Kj2 hKj2
  refine zN Z (fun h183=>?_) (fun h183=>?_)
  ·have hip:ipL N=decDigits (N/4):=GV aC
   refine rO 7 Z (ru (s:=(((ipL N).length:Nat):Int)) Z Z Z aC ?_)
   refine oO 11 Z (ni (h:=(ipL N).length) d4 Z Z Z aC aC ?_)
   refine zA (yA d4 Z Z ?_)
   refine oK 3 [191,190,189,23,0,2,3,4,5] Z Z (rK 1 [191,0,190,189,23,2,3,4,5] Z Z ?_)
   refine qF (ys:=mZ (ma neg++(ipL N).take 0)) 0 Z aJ ?_
   refine yL 2 (fun(⟨i,A3,n3,c3⟩:Nat×Option Addr×Nat×Nat)=>i≤(ipL N).length∧n3≤1+i) (fun(⟨i,A3,n3,c3⟩:Nat×Option Addr×Nat×Nat)=>[(191, .int .i64 ((i:Nat):Int)),(0, .slice A3 n3 c3)]) (fun(⟨i,A3,n3,c3⟩:Nat×Option Addr×Nat×Nat)=>HA.row A3 n3 c3 5 1 (mZ (ma neg++(ipL N).take i))::HA.blk b (lV N) T::[]) (fun(⟨i,A3,n3,c3⟩:Nat×Option Addr×Nat×Nat)=>[]) (fun(⟨i,A3,n3,c3⟩:Nat×Option Addr×Nat×Nat)=>(ipL N).length - i) (0,_,_,_) (⟨by show 0≤_;omega,by show _≤_+0;omega⟩) (eC Z (eC Z (eN _))) Z Z ?_ (eC Z (eC Z (eC Z (eC Z (eC Z (eC Z (eC Z (eN _))))))))
   intro ⟨i,A3,n3,c3⟩ hI K hK
   change Run _ _ _ _ _ [(191,_),(0,_),(190,_),(189,_),(23,_),(2,_),(3,_),(4,_),(5,_)] [_,_] ([])
   obtain⟨hi1,hi2⟩:=hI
   refine rO 3 Z (vE Z Z Z ?_)
   refine oR 2 Z (zN Z (fun h192=>?_) (fun h192=>?_))
   ·have hlt:i<(ipL N).length:=by omega
    refine rO 6 Z (wJ d4 Z Z Z aC ?_)
    refine zA (yH Mn Z Z (fun _ h=>r7 h (j:=1) Z (JC hlt)) ?_)
    refine oO 9 Z (zM d4 Z Z Z Z Z (fun b197=>?_))
    refine zA ?_
    refine cf 1 0 d4 (fun A198 c198=>?_)
    refine oK 3 [0,191,190,189,23,2,3,4,5] Z Z (rO 3 Z ?_)
    refine yB Z Z aC (oR 3 Z ?_)
    refine qF (ys:=mZ (ma neg++(ipL N).take (i+1))) 1 Z (by rw [kk,List.append_assoc,←List.take_succ_eq_append_getElem hlt]) ?_
    exact kQ (hK (i+1,_,_,_) (⟨by show i+1≤_;omega,by show _≤_+(i+1);omega⟩) (by show(ipL N).length - (i+1)<(ipL N).length - i;omega)) (eC Z (eC Z (eC Z (eC Z (eC Z (eC Z (eC Z (eC Z (eC Z (eN _))))))))))
   obtain rfl:i=(ipL N).length:=by omega
   refine qF (ys:=mZ (ma neg++decDigits (N/4))) 0 Z (by rw [List.take_length,hip]) (rO 8 Z ?_)
   refine xY (s:=0) Z Z Z aC aC aC (oK 4 [203,202,0,2,3,4,5] Z Z ?_)
   refine xJ 1 (fun(z:Nat)=>z=0) (fun(z:Nat)=>[(203, .int .i64 ((z:Nat):Int))]) (fun(z:Nat)=>z) 0 (rfl) (eC Z (eN _)) ?_ (eC Z (eC Z (eC Z (eC Z (eC Z (eC Z (eN _)))))))
   intro z hI K hK1
   change Run _ _ _ _ _ [(203,_),(202,_),(0,_),(2,_),(3,_),(4,_),(5,_)] _ _
   replace hI:z=0:=hI
   subst hI
   refine rO 3 Z (vE Z Z Z ?_)
   refine oR 4 Z ?_
   exact kQ (hKj2 (_,_,_) (by show _≤11;omega)) (eC Z (eC Z (eC Z (eC Z (eC Z (eN _)))))) (hD:=bg)
  have hz0:ma neg++[48]=ma neg++decDigits (N/4):=by rw [EG aC]
  refine rO 4 Z (zM d4 Z Z Z Z Z (fun b210=>?_))
  refine zA ?_
  refine cf 1 0 d4 (fun A211 c211=>?_)
  refine oR 3 Z (qF (ys:=mZ (ma neg++decDigits (N/4))) 1 Z ((kk (ma neg) 48).trans (congrArg mZ hz0)) ?_)
  exact kQ (hKj2 (_,_,_) (by show _≤11;omega)) (eC Z (eC Z (eC Z (eC Z (eC Z (eN _)))))) (hD:=bg)
 intro ⟨A2,n2,c2⟩ hI
 replace hI:n2≤11:=hI
 change Run _ _ _ _ _ [(0,_),(2,_),(3,_),(4,_),(5,_)] [_,_] ([])
 replace hI:n2≤11:=hI
 refine rO 6 Z (vC Z Z Z ?_)
 refine oO 7 Z (zM d4 Z Z Z Z Z (fun b215=>?_))
 refine zA ?_
 refine cf 1 0 d4 (fun A216 c216=>?_)
 refine oO 10 Z (qS (s:= -(((ipL N).length:Nat):Int)) Z Z Z aC aC ?_)
 refine zA (rv (s:=0) Z Z Z aC ?_)
 refine zA (ru (s:=0) Z Z Z aC ?_)
 refine oK 3 [26,0,2,3,4,5] Z Z (rO 7 Z ?_)
 refine xQ (s:=(((ipL N).length:Nat):Int)) Z Z Z aC aC aC (oO 10 Z ?_)
 refine xY (s:=6) Z Z Z Z aC aC (oO 5 Z ?_)
 refine xY (s:=((kq N:Nat):Int)) Z Z Z aC aC aC (zA ?_)
 refine rv (s:=((kq N:Nat):Int)) Z Z Z aC (zA ?_)
 refine ru (s:=((kq N:Nat):Int)) Z Z Z aC (oK 3 [28,27,26,0,2,5] Z Z ?_)
 refine rO 7 Z (xY (s:=6) Z Z Z Z aC aC ?_)
 refine oO 3 Z (xY (s:=((6 - kq N:Nat):Int)) Z Z Z aC aC aC ?_)
 refine zA (rv (s:=((6 - kq N:Nat):Int)) Z Z Z aC ?_)
 refine oK 11 [240,239,29,28,27,0,2] Z Z (rK 1 [240,239,29,28,27,0,2] Z Z ?_)
 refine qF (ys:=mZ (ma neg++decDigits (N/4)++[46])) 1 Z (kk _ 46) (xJ 1 (fun(z:Nat)=>z=0) (fun(z:Nat)=>[(240, .int .i64 ((z:Nat):Int))]) (fun(z:Nat)=>z) 0 (rfl) (eC Z (eN _)) ?_ (eC Z (eC Z (eC Z (eC Z (eC Z (eC Z (eN _))))))))
 intro z hI K hK2
 change Run _ _ _ _ _ [(240,_),(239,_),(29,_),(28,_),(27,_),(0,_),(2,_)] _ _
 replace hI:z=0:=hI
 subst hI
 refine rO 3 Z (vE Z Z Z ?_)
 refine oK 13 [247,0,246,29,27,2] Z Z (qF (ys:=mZ (ma neg++decDigits (N/4)++[46]++(jo N).take 0)) 1 Z aJ ?_)
 refine yQ (M':=[HA.row A216 (n2+1) c216 5 1 (mZ (ma neg++decDigits (N/4)++[46]++(jo N).take 0)),HA.blk b (lV N) T]) (zB 1 Z (zB 1 Z (zQ _))) ?_
 refine yL 2 (fun(⟨i,A3,n3,c3⟩:Nat×Option Addr×Nat×Nat)=>i≤kq N∧n3≤12+i) (fun(⟨i,A3,n3,c3⟩:Nat×Option Addr×Nat×Nat)=>[(247, .int .i64 ((i:Nat):Int)),(0, .slice A3 n3 c3)]) (fun(⟨i,A3,n3,c3⟩:Nat×Option Addr×Nat×Nat)=>HA.row A3 n3 c3 5 1 (mZ (ma neg++decDigits (N/4)++[46]++(jo N).take i))::HA.blk b (lV N) T::[]) (fun(⟨i,A3,n3,c3⟩:Nat×Option Addr×Nat×Nat)=>[]) (fun(⟨i,A3,n3,c3⟩:Nat×Option Addr×Nat×Nat)=>kq N - i) (0,_,_,_) (⟨by show 0≤_;omega,by show _≤_+0;omega⟩) (eC Z (eC Z (eN _))) Z Z ?_ (eC Z (eC Z (eC Z (eC Z (eN _)))))
 intro ⟨i,A3,n3,c3⟩ hI K hK3
 change Run _ _ _ _ _ [(247,_),(0,_),(246,_),(29,_),(27,_),(2,_)] [_,_] ([])
 obtain⟨hi1,hi2⟩:=hI
 refine rO 3 Z (vE Z Z Z ?_)
 refine oR 2 Z (zN Z (fun h248=>?_) (fun h248=>?_))
 ·have hlt:i<kq N:=by omega
  obtain⟨ci,hf1,hf2,hf3⟩:=EF (N:=N) hq (j:=i) aC
  obtain⟨hl6,hci⟩:=List.getElem?_eq_some_iff.1 hf1
  subst hci
  refine rO 20 Z (xQ (s:=(((ipL N).length+i:Nat):Int)) Z Z Z aC aC aC ?_)
  refine zA (wJ d4 Z Z Z aC ?_)
  refine zA (yH Mn Z Z (fun _ h=>r7 h (j:=1) Z hf2) ?_)
  refine zA (zM d4 Z Z Z Z Z (fun b257=>?_))
  refine zA ?_
  refine cf 1 0 d4 (fun A258 c258=>?_)
  refine oK 3 [0,247,246,29,27,2] Z Z (rO 3 Z ?_)
  refine yB Z Z aC (oR 3 Z ?_)
  refine qF (ys:=mZ (ma neg++decDigits (N/4)++[46]++(jo N).take (i+1))) 1 Z (by rw [kk,List.append_assoc,←List.take_succ_eq_append_getElem (by rw [kh];omega)]) ?_
  exact kQ (hK3 (i+1,_,_,_) (⟨by show i+1≤_;omega,by show _≤_+(i+1);omega⟩) (by show kq N - (i+1)<kq N - i;omega)) (eC Z (eC Z (eC Z (eC Z (eC Z (eC Z (eN _)))))))
 obtain rfl:i=kq N:=by omega
 refine rK 9 [261,0,260] Z Z ?_
 refine yL 2 (fun(⟨i,A3,n3,c3⟩:Nat×Option Addr×Nat×Nat)=>i≤(6 - kq N)∧n3≤14+i) (fun(⟨i,A3,n3,c3⟩:Nat×Option Addr×Nat×Nat)=>[(261, .int .i64 ((i:Nat):Int)),(0, .slice A3 n3 c3)]) (fun(⟨i,A3,n3,c3⟩:Nat×Option Addr×Nat×Nat)=>HA.row A3 n3 c3 5 1 (mZ (ma neg++decDigits (N/4)++[46]++(jo N).take (kq N+i)))::HA.blk b (lV N) T::[]) (fun(⟨i,A3,n3,c3⟩:Nat×Option Addr×Nat×Nat)=>[]) (fun(⟨i,A3,n3,c3⟩:Nat×Option Addr×Nat×Nat)=>(6 - kq N) - i) (0,_,_,_) (⟨by show 0≤_;omega,by show _≤_+0;omega⟩) (eC Z (eC Z (eN _))) Z Z ?_ (eC Z (eN _))
 intro ⟨i,A3,n3,c3⟩ hI K hK4
 change Run _ _ _ _ _ [(261,_),(0,_),(260,_)] [_,_] ([])
 obtain⟨hi1,hi2⟩:=hI
 refine rO 3 Z (vE Z Z Z ?_)
 refine oR 2 Z (zN Z (fun h262=>?_) (fun h262=>?_))
 ·have hlt:i<6 - kq N:=by omega
  have hsn:(jo N).take (kq N+(i+1))=(jo N).take (kq N+i)++[48]:=GW (k:=kq N+i) hq aC aC
  refine rO 7 Z (zM d4 Z Z Z Z Z (fun b264=>?_))
  refine zA ?_
  refine cf 1 0 d4 (fun A265 c265=>?_)
  refine oO 6 Z (yB Z Z aC ?_)
  refine oR 3 Z (qF (ys:=mZ (ma neg++decDigits (N/4)++[46]++(jo N).take (kq N+(i+1)))) 1 Z ((kk _ 48).trans (by rw [List.append_assoc,←hsn])) ?_)
  exact kQ (hK4 (i+1,_,_,_) (⟨by show i+1≤_;omega,by show _≤_+(i+1);omega⟩) (by show(6 - kq N) - (i+1)<(6 - kq N) - i;omega)) (eC Z (eC Z (eC Z (eN _))))
 obtain rfl:i=6 - kq N:=by omega
 refine qF (ys:=mZ (ma neg++decDigits (N/4)++[46]++jo N)) 0 Z (by rw [show kq N+(6 - kq N)=(jo N).length by rw [kh];omega,List.take_length]) (rR 8 Z ?_)
 exact zE Tryz.results283 Z ⟨_,_,_,rfl,rfl,rfl⟩ (.cons_cons _ nS) (fun _ h=>by cases h)
theorem Nr(x:Nat)(h1:x<18446744073709551616):dd Tryz.prog 206 #[.int .u64 (x:Int)] [] (.int .i64 ((Lib.bitLen x:Nat):Int)):=
  iO I3 fun w ok h=>(Tryz.bits_Len64 (x:Int) w aC aC).mono (by
    rintro e w' ⟨rfl,rfl⟩
    exact⟨rfl,Chg.refl _ _⟩)
theorem LV{x:Nat}(h1:2^52≤x)(h2:x<2^53):Lib.bitLen x=53:=by
 obtain⟨a1,a2,a3⟩:=bitLenAux_bounds 64 x aC aC
 show bitLenAux 64 x=53
 generalize bitLenAux 64 x=l at*
 have h3:l≤53:=Classical.byContradiction fun h=>by
  have:=Nat.pow_le_pow_right (n:=2) aC (show 53≤l - 1 by omega)
  omega
 have h4:53≤l:=Classical.byContradiction fun h=>by
  have:=Nat.pow_le_pow_right (n:=2) aC (show l≤52 by omega)
  omega
 omega
structure Hz(B N L:Nat)(neg:Bool)(K:Nat):Prop where
 lt:B<18446744073709551616
 sg:B/2^63=neg.toNat
 ex:B/2^52=neg.toNat*2048+(1021+L)
 mt:B%2^52=K - 2^52
 lo:2^52≤K
 hi:K<2^53
 up:K*2^11=N*2^(63 - L)
theorem LW{n:Int}(h0:0<n.natAbs)(h9:n.natAbs<1000000000):Hz (qw n) n.natAbs n.natAbs.log2 (decide (n<0)) (n.natAbs*2^fill n.natAbs):=by
 have hL:=LR h0 h9
 have hl:=hL.l29
 have h53:n.natAbs<2^53:=by omega
 have hlo:=zv h53 h0
 have hhi:=mP h53 h0
 have hfl:fill n.natAbs=52 - n.natAbs.log2:=rfl
 have hs:Ieee.double.signWeight=2^63:=by decide
 have hw:qw n=(if decide (n<0)=true then 2^63 else 0)+((1020+n.natAbs.log2)*2^52+n.natAbs*2^fill n.natAbs):=by
  unfold qw
  rw [i6 _ h0 h53 aC aC]
  have e1:((-2:Int) - fill n.natAbs+1074).toNat=1020+n.natAbs.log2:=by rw [hfl];omega
  rw [e1]
  unfold Ieee.Format.word
  rw [hs]
  split<;>simp
 have hup:n.natAbs*2^fill n.natAbs*2^11=n.natAbs*2^(63 - n.natAbs.log2):=by
  rw [Nat.mul_assoc,←Nat.pow_add,hfl,show 52 - n.natAbs.log2+11=63 - n.natAbs.log2 by omega]
 generalize n.natAbs*2^fill n.natAbs=K at*
 generalize n.natAbs.log2=L at*
 rw [hw]
 cases decide (n<0)
 ·simp only [Bool.false_eq_true,↓reduceIte]
  exact⟨aC,by show _=0;omega,by show _=0*2048+_;omega,aC,hlo,hhi,hup⟩
 ·simp only [↓reduceIte]
  exact⟨aC,by show _=1;omega,by show _=1*2048+_;omega,aC,hlo,hhi,hup⟩
theorem GX(x:Nat)(b:Bool)(h:x<2048):(b.toNat*2048+x) &&& 2047=x:=by
 have:=Nat.and_two_pow_sub_one_eq_mod (b.toNat*2048+x) 11
 rw [show 2^11 - 1=2047 from rfl]at this
 rw [this]
 cases b<;>simp<;>omega
theorem LX(x:Nat):x &&& 4503599627370495=x%2^52:=by
 have:=Nat.and_two_pow_sub_one_eq_mod x 52
 rwa [show 2^52 - 1=4503599627370495 from rfl]at this
theorem Ns{K:Nat}(h1:2^52≤K)(h2:K<2^53):(K - 2^52)|||4503599627370496=K:=by
 have:=Nat.two_pow_add_eq_or_of_lt (i:=52) (b:=K - 2^52) aC 1
 rw [Nat.or_comm]
 rw [Nat.mul_one]at this
 have e:(4503599627370496:Nat)=2^52:=rfl
 rw [e,←this]
 omega
theorem Nt(fb:Addr)(N L:Nat)(hF:FmtN N L):dd Tryz.prog 286 #[.int .u64 ((N*2^(63 - L):Nat):Int), .int .i64 ((L:Int) - 65), .int .i64 ((dgOf L:Nat):Int), .int .i64 6, .int .u8 102] [kg fb] (.tuple #[.int .u64 ((N*250000:Nat):Int), .int .i64 (-6)]):=by
 rcases hF.tab.2.2.1 with h|h
 ·exact JA fb N L hF h
 ·exact JB fb N L hF h
theorem JD: ∃fn,Tryz.prog.funcs[280]? =some fn∧(fn.name== "runtime.NumGoroutine")=false∧fn.body.isNone=true∧Extern.findNext fn=none∧Extern.find fn=some Extern.MathFloatBits.float64bits:=⟨Tryz.f280,Tryz.func280,by kernel_rfl,rfl,by kernel_rfl,by kernel_rfl⟩

set_option maxHeartbeats 4000000 in
theorem Nu(fb:Addr)(B N L K c0:Nat)(A0:Option Addr)(neg:Bool)(hF:FmtN N L)(hB:Hz B N L neg K)(hq:0<N%4):Ct Tryz.prog 261 #[.slice A0 0 c0, .float .f64 B, .int .u8 102, .int .i64 6] [.row A0 0 c0 5 1 []] [.tab,kg fb] (fun u M' D'=> ∃A m c,u= .slice A m c∧M'=[.row A m c 5 1 (mZ (ma neg++decDigits (N/4)++[46]++jo N))]∧D'=[]):=by
 refine Ct.of_run (args:=[.slice A0 0 c0, .float .f64 B, .int .u8 102, .int .i64 6]) Tryz.func261 aF Z Tryz.ntmps261 Z (fun c=>?_)
 obtain⟨fn,e1,e2,e3,e4,e5⟩:=JD
 have hl:=hF.l29
 have hn9:=hF.n9
 have hk1:=hB.lo
 have hk2:=hB.hi
 have hnt:neg.toNat≤1:=by cases neg<;>decide
 obtain⟨d7a,d15,_,_,_,d6,d7⟩:=hF.tab
 refine rO 42 Z (Ba e1 e2 e3 e4 e5 Z Z Z (fun w=>rfl) ?_)
 refine oK 3 [9,0,2,3] Z Z (rO 24 Z ?_)
 refine xQ (s:=63) Z Z Z Z aC aC (zA ?_)
 refine mS (m:=B) (s:=63) (r:=neg.toNat) Z Z Z aC hB.sg (zA ?_)
 refine nl (v:= .bool neg) (fun w=>by cases neg<;>rfl) Z Z Z (oR 4 Z ?_)
 refine yO yE (zR ?_)
 refine tP 0 Z cK (zZ Z) (tP 1 Z cK (zZ Z) ?_)
 refine tP 4 Z cK (zZ Z) (yF ?_)
 refine tM 2 Z cK (qK (nj (m:=B) (s:=52) (r:=neg.toNat*2048+(1021+L)) aC hB.ex) Z Z) (tM 3 Z cK (Bb Tryz.underlying235 Tryz.underlying3 Z (tJ aC aC)) ?_)
 refine tM 5 Z cK (qK (ut (m:=1) (s:=11) (r:=2048) aC (Eq.refl _) aC) Z Z) (tM 6 Z cK (zh (s:=((2047:Nat):Int)) Z Z aC aC aC) ?_)
 refine tM 7 Z cK (qK (ur (m:=neg.toNat*2048+(1021+L)) (m':=2047) (r:=1021+L) aC aC (GX (1021+L) neg aC)) Z Z) (zR ?_)
 refine tP 8 Z cK (xC Z) (yG aD ?_)
 refine rK 0 [14,13,12,11,10,9,0,2,3] Z Z (rO 7 Z ?_)
 refine jF (m:=1) (s:=52) (r:=4503599627370496) Z Z Z aC Z aC (zA ?_)
 refine AH (m:=4503599627370496) (m':=1) (r:=4503599627370495) Z Z Z aC Z aC (zA ?_)
 refine AG (m:=B) (m':=4503599627370495) (r:=K - 2^52) Z Z Z hB.lt aC ((LX B).trans hB.mt) (oK 3 [15,14,13,12,11,10,0,2,3] Z Z ?_)
 refine rO 8 Z (nl (ut (m:=1) (s:=11) (r:=2048) aC (Eq.refl _) aC) Z Z Z ?_)
 refine zA (xY (s:=((2047:Nat):Int)) Z Z Z aC aC aC ?_)
 refine oR 3 Z (xL Z (decide_eq_false aC) ?_)
 refine rK 9 [78,15,14,13,12,11,0,2,3] Z Z (xL Z (decide_eq_false aC) ?_)
 refine rO 6 Z (jF (m:=1) (s:=52) (r:=4503599627370496) Z Z Z aC Z aC ?_)
 refine zA (It (m:=K - 2^52) (m':=4503599627370496) (r:=K) Z Z Z aC aC (Ns hB.lo hB.hi) ?_)
 refine oO 10 Z (xQ (s:=(L:Int) - 2) Z Z Z aC aC aC ?_)
 refine oK 3 [14,15,13,11,0,2,3] Z Z (rS 19 Z ?_)
 refine vM (s:=99) Z (rfl) (oK 7 [102,14,15,13,11,0,2,3] Z Z ?_)
 refine rR 10 Z (xL Z (decide_eq_false aC) ?_)
 refine rO 7 Z (vE Z Z Z ?_)
 refine oO 7 Z (sR 1 0 FX Z Z Z Z ?_)
 refine oK 9 [24,14,15,13,11,0,2,3] Z Z (rK 6 [175,24,14,15,13,11,0,2,3] Z Z ?_)
 refine vO [14,15,13,11,0,2,3] (fun(u:Unit)=>True) (fun(u:Unit)=>[(24, .int .i64 ((dgOf L:Nat):Int))]) (fun(u:Unit)=>HA.row A0 0 c0 5 1 []::[]) (fun(u:Unit)=> .tab::kg fb::[]) ?_ ?_
 ·intro K hK
  refine rO 14 Z (tB Z Z Z ?_)
  refine zX (zN Z (fun h179=>?_) (fun h179=>?_))
  ·have hdg:=d6 aC
   refine rO 4 Z (xQ (s:=(L:Int) - 1) Z Z Z aC aC aC ?_)
   refine zA (zK Z Z Z (GT ((L:Int) - 1) aC aC) cZ ?_)
   refine zA (xQ Z Z Z Z aC aC ?_)
   refine oO 3 Z (xQ (s:=((dgOf L:Nat):Int)) Z Z Z aC aC aC ?_)
   refine oK 3 [24,14,15,13,11,0,2,3] Z Z (qp ?_)
   exact kQ (hK () trivial) (hD:=bg)
  have hdg:=d7 aC
  have hdg2:dgOf L=7:=by unfold dgOf;rw [if_neg aC]
  refine rO 4 Z (xQ (s:=7) Z Z Z Z aC aC ?_)
  refine oO 3 Z (qS (s:=2 - (L:Int)) Z Z aC aC aC ?_)
  refine zA (zK Z Z Z (GT (2 - (L:Int)) aC aC) cZ ?_)
  refine zA (xY (s:=((dgOf L:Nat):Int)) Z Z Z aC aC aC ?_)
  refine oK 3 [24,14,15,13,11,0,2,3] Z Z (qp ?_)
  exact kQ (hK () trivial) (hD:=bg)
 intro u hI
 replace hI:True:=hI
 change Run _ _ _ _ _ [(24,_),(14,_),(15,_),(13,_),(11,_),(0,_),(2,_),(3,_)] [_] [_,_]
 refine rO 5 Z (iI Z Z Z ?_)
 refine zX (vF Z (decide_eq_true aC) ?_)
 refine rO 3 Z (zS K7 Z (fun b25=>?_))
 change cL _ _ _ _ _ _ _ _ (HA.blk _ [_,_,_,_,_,_,_,_,_,_,_,_,_,_,_,_,_,_,_,_,_,_,_,_] _::_) _
 refine oO 14 Z (vC Z Z Z ?_)
 refine oK 1 [206,27,26,25,24,14,15,13,11,0,2,3] Z Z (vF Z (decide_eq_true aC) ?_)
 refine rO 5 Z (zK Z Z Z (Nr K aC) cZ ?_)
 rw [LV hB.lo hB.hi]
 refine zA (xY (s:=((11:Nat):Int)) Z Z Z Z aC aC ?_)
 refine oK 3 [28,27,26,25,24,14,15,13,11,0,2,3] Z Z (rO 7 Z ?_)
 refine jF (m:=K) (s:=11) (r:=N*2^(63 - L)) Z Z Z aC hB.up hF.up (oK 3 [29,28,27,26,25,24,14,13,11,0,2,3] Z Z ?_)
 refine rO 7 Z (xY (s:=(L:Int) - 13) Z Z Z aC aC aC ?_)
 refine oK 3 [30,29,27,26,25,24,13,11,0,2,3] Z Z (rO 9 Z ?_)
 refine xY (s:=(L:Int) - 65) Z Z Z aC aC aC (oO 7 Z ?_)
 refine zK Z Z Z (Nt fb N L hF) (cS 1 Z) (oK 11 [32,31,27,26,25,13,0,2,3] Z Z ?_)
 refine rO 5 Z (sT Z Z Z ?_)
 refine zX (vF Z (decide_eq_true aC) ?_)
 refine yO yE (zR ?_)
 refine tP 1 Z cK (zZ Z) (tP 2 Z cK (zZ Z) ?_)
 refine tP 3 Z cK (zZ Z) (yF ?_)
 refine tM 0 Z cK (uv Tryz.underlying246 Oh Z) (zL 4 aD ?_)
 refine zO (I2:=[[0],[2,1],[]]) Z cK aD (fun Kd hKd=>?_)
 refine zK Z Z Z (Nj (N*250000) aC aC) (cS 0 Z) ?_
 rw [u0 hq]
 refine hKd _ _ _ (hC (hC (zD (zP)))) (zL 5 aD ?_)
 refine zO (I2:=[[],[],[]]) Z cK aD (fun Kd hKd=>?_)
 refine wE 0 Z Z Z (Np b25 246 N hq hF.n9) Z cZ (fun u235 M235 D235 hv235=>?_)
 obtain⟨rfl,rfl,rfl⟩:=hv235
 refine hKd _ _ _ (zD (zD (zD (zP)))) (zR ?_)
 refine tP 6 Z cK (zZ Z) (tP 7 Z cK (gW Z Z) ?_)
 refine tP 8 Z cK (gW Z Z) (tP 9 Z cK (xC Z) ?_)
 refine tP 10 Z cK (xC Z) (yG aD ?_)
 refine rK 0 [27,26,25,13,0,2,3] Z Z (rO 7 Z ?_)
 refine uq Tryz.underlying246 Oh Z Z (oO 9 Z ?_)
 refine qB 1 0 Z Z Z (Nq b25 246 N c0 A0 neg hq hF.n9) Z Z cZ (fun u245 M245 D245 hv245=>?_)
 obtain⟨A9,n9,c9,rfl,rfl,rfl⟩:=hv245
 refine oK 3 [8] Z Z ?_
 exact zE Tryz.results261 Z ⟨_,_,_,rfl,rfl,rfl⟩ (List.Sublist.refl _) (fun _ h=>by cases h)
theorem lz: ∀ (l r:List UInt8) (a m:Nat),decFrom a l=some m→decFrom a (l++r)=decFrom m r
  |[],r,a,m,h=>by simp only [decFrom,Option.some.injEq]at h;subst h;rfl
  |b::l,r,a,m,h=>by
    simp only [List.cons_append,decFrom]at h⊢
    split
    · rename_i d hd
      rw [hd]at h
      exact lz l r _ m h
    · rename_i hd
      rw [hd]at h
      exact absurd h aJ
theorem nt{d:Nat}(h:d<10):digitVal (UInt8.ofNat (48+d))=some d:=by
 unfold digitVal
 rw [gj h]
 rw [if_pos aC]
 congr 1
 omega
theorem u2(u:Nat):decFrom 0 (decDigits u)=some u:=by
  induction u using Nat.strongRecOn with
  |_ u ih=>
    rw [decDigits]
    split
    · rename_i h
      simp only [decFrom,nt h,Option.some.injEq]
      omega
    · rename_i h
      rw [lz _ _ _ _ (ih (u/10) aC)]
      simp only [decFrom,nt (Nat.mod_lt u (show 0<10 by omega)),Option.some.injEq]
      omega
theorem nu(u:Nat):decNat (decDigits u)=some u:=by
  unfold decNat
  have:=lT u
  cases hd:decDigits u with
  |nil=>exact absurd hd this
  |cons c r=>rw [←hd,u2];simp [hd]
theorem nv{u:Nat}(h:u<1000000000):(decDigits u).length≤9:=by
 rw [decDigits_length]
 exact jc aC aC
theorem Bg(u:Nat): ∀ c r,decDigits u=c::r→Dgt c:=by
  induction u using Nat.strongRecOn with
  |_ u ih=>
    intro c r h
    rw [decDigits]at h
    split at h
    · rename_i h9
      injection h with h1 h2
      subst h1
      show 48≤_∧_
      rw [gj h9]
      omega
    · cases hd:decDigits (u/10)with
      |nil=>exact absurd hd (lT _)
      |cons c' r'=>
        rw [hd,List.cons_append]at h
        injection h with h1 h2
        subst h1
        exact ih (u/10) aC _ _ hd
theorem yc{n:Int}(h1: -1000000000<n)(h2:n<1000000000):parseIntB 64 (Lib.itoa n)= .ok n:=by
  rcases Int.lt_or_le n 0 with h|h
  · obtain⟨u,rfl⟩: ∃u:Nat,n= -(u:Int):=⟨n.natAbs,aC⟩
    rw [itoa_neg u aC,parseIntB_64,atoiAll_short _ (by have:=nv (u:=u) aC;simp only [List.length_cons];omega)]
    simp [atoi,nu,NumEnd.ofOption]
  · obtain⟨u,rfl⟩: ∃u:Nat,n=(u:Int):=⟨n.natAbs,aC⟩
    rw [itoa_nonneg,parseIntB_64,atoiAll_short _ (by have:=nv (u:=u) aC;omega)]
    cases hd:decDigits u with
    |nil=>exact absurd hd (lT u)
    |cons c r=>
      have hc:48≤c.toNat∧c.toNat≤57:=Bg u c r hd
      have h45:(c==45)=false:=by
        cases hq:c==45 with
        |false=>rfl
        |true=>rw [beq_iff_eq]at hq;subst hq;exact absurd hc.1 aE
      have h43:(c==43)=false:=by
        cases hq:c==43 with
        |false=>rfl
        |true=>rw [beq_iff_eq]at hq;subst hq;exact absurd hc.1 aE
      simp only [atoi,h45,h43,Bool.false_eq_true,↓reduceIte]
      rw [←hd,nu]
      rfl
theorem JE:ww Tryz.prog 180:=⟨_,Tryz.func180,by kernel_rfl,rfl⟩
theorem Bh(w:World)(t:TypeId)(s:ByteArray):Chg [] w (Lib.bytesWorld w t s):=
 by
 unfold Lib.bytesWorld World.freeze
 rw [if_neg aC]
 refine⟨rfl,rfl,rfl,?_,fun j hj _=>?_⟩
 ·show w.heap.size≤(Array.modify _ _ _).size
  rw [Array.size_modify]
  show _≤(w.heap.push _).size
  simp
 ·show(Array.modify _ _ _)[j]? =_
  rw [Array.getElem?_modify,if_neg (by show ¬ w.heap.size=j;omega)]
  show(w.heap.push _)[j]? =_
  rw [Array.getElem?_push,if_neg aC]
theorem JF(n:Int)(h1: -1000000000<n)(h2:n<1000000000):dd Tryz.prog 180 #[.string (dj n), .int .i64 10, .int .i64 64] [] (.tuple #[.int .i64 n, .nilIface]):=
  iO JE fun w ok h=>(Tryz.strconv_ParseInt_10_at64_ok (dj n) (by have:=uD n aC aC;omega) n (yc h1 h2) w).mono (by
    rintro e w' ⟨rfl,hw⟩
    refine⟨rfl,?_⟩
    rcases hw with rfl|⟨t,rfl⟩
    · exact Chg.refl _ _
    · exact Bh _ _ _)
theorem JG{a b:ByteArray}(h:rl a=rl b):a=b:=by
  cases a with
  |mk a=>cases b with
    |mk b=>congr 1;exact Array.ext' h
theorem EH{q:Nat}(h0:0<q)(h4:q<4):rl (De q)=46::jo q:=by
 rcases(by omega:q=1∨q=2∨q=3)with rfl|rfl|rfl<;>rfl
theorem GY(N:Nat):jo (N%4)=jo N:=by unfold jo;rw [Nat.mod_mod]
theorem nw{n:Int}(h0:n.tmod 4≠0):bs (ma (decide (n<0))++decDigits (n.natAbs/4)++[46]++jo n.natAbs)=dl n:=by
 obtain⟨a1,a2⟩:=uz h0
 apply JG
 unfold dl
 rw [lM,lM,r5,r6,EH a1 a2,GY,List.append_assoc _ [46] (jo n.natAbs)]
 rfl
theorem u5{n:Int}(h0:n.tmod 4≠0)(h1: -1000000000<n)(h2:n<1000000000):(dl n).size≤20:=by
 rw [←nw h0]
 show(ma (decide (n<0))++decDigits (n.natAbs/4)++[46]++jo n.natAbs).toArray.size≤20
 have:=nv (u:=n.natAbs/4) aC
 have h6:(jo n.natAbs).length=6:=kh _
 have hs:(ma (decide (n<0))).length≤1:=by unfold ma;split<;>simp
 simp only [List.size_toArray,List.length_append,h6,List.length_cons,List.length_nil]
 omega

theorem Nv(fb:Addr)(n:Int)(h0:n.tmod 4≠0)(h1: -1000000000<n)(h2:n<1000000000):dd Tryz.prog 246 #[.float .f64 (qw n), .int .u8 102, .int .i64 6, .int .i64 64] [.tab,kg fb] (.string (dl n)):=by
 refine Ct.of_run (args:=[.float .f64 (qw n), .int .u8 102, .int .i64 6, .int .i64 64]) Tryz.func246 aF Z Tryz.ntmps246 Z (fun c=>?_)
 obtain⟨a1,a2⟩:=uz h0
 have hn0:0<n.natAbs:=by omega
 have hn9:n.natAbs<1000000000:=by omega
 refine rO 29 Z (xQ (s:=10) Z Z Z Z aC aC ?_)
 refine zA (rv (s:=((24:Nat):Int)) Z Z Z Z ?_)
 refine zA ?_
 refine oh 24 d4 Z Z Z aC aC (fun b26=>?_)
 refine oO 7 Z (wE 0 Z Z Z (Nu fb (qw n) n.natAbs n.natAbs.log2 (n.natAbs*2^fill n.natAbs) 24 _ (decide (n<0)) (LR hn0 hn9) (LW hn0 hn9) (uz h0).1) Z (dC 0 1 Z Z) (fun u30 M30 D30 hv30=>?_))
 obtain⟨A9,m9,c9,rfl,rfl,rfl⟩:=hv30
 refine zA (BV 0 Tryz.underlying142 Tryz.underlying5 Tryz.underlying9 Z Z Z ?_)
 rw [nw h0]
 refine oK 3 [8] Z Z ?_
 exact zE Tryz.results246 Z ⟨rfl,rfl,rfl⟩ nS (fun _ h=>by cases h)
theorem Nw(fb:Addr)(n:Int)(h0:n.tmod 4≠0)(h1: -1000000000<n)(h2:n<1000000000):dd Tryz.prog 224 #[.float .f64 (qw n), .int .u8 102, .int .i64 6, .int .i64 64] [.tab,kg fb] (.string (dl n)):=by
 refine Ct.of_run (args:=[.float .f64 (qw n), .int .u8 102, .int .i64 6, .int .i64 64]) Tryz.func224 aF Z Tryz.ntmps224 Z (fun c=>?_)
 refine rO 16 Z (zK Z Z Z (Nv fb n h0 h1 h2) (dC 0 1 Z Z) ?_)
 refine oK 3 [8] Z Z ?_
 exact zE Tryz.results224 Z ⟨rfl,rfl,rfl⟩ nS (fun _ h=>by cases h)
theorem Nx(fb:Addr)(n:Int)(h0:n.tmod 4≠0)(h1: -1000000000<n)(h2:n<1000000000):CtR Tryz.prog 188 #[.float .f64 (qw n)] [.tab,kg fb] (RN (cc d3 (dl n))):=by
 refine Ct.of_run (args:=[.float .f64 (qw n)]) Tryz.func188 aF Z Tryz.ntmps188 Z (fun c=>?_)
 refine rO 10 Z (zK Z Z Z (Nw fb n h0 h1 h2) (dC 0 1 Z Z) ?_)
 refine zA (yX Z Z (pA ..) ?_)
 refine zA (yK Z Z Z (fun b6=>?_))
 refine oR 3 Z (gA ?_)
 exact uN 0 0 Z Z aG aE (rd (u5 h0 h1 h2) aE) (zE Tryz.results188 Z ⟨rfl,b6,rfl,rfl⟩ nS (cS 0 Z))
theorem LY(fb:Addr)(sp:Value)(nb:Nat)(n:Int)(h0:n.tmod 4≠0)(h1: -1000000000<n)(h2:n<1000000000):CtR Tryz.prog 135 #[sp,cW nb] [.node nb (cc d3 (quartV n)), .tab,kg fb] (RF (.numF (qw n))):=by
 refine Ct.of_run (args:=[sp,cW nb]) Tryz.func135 aF Z Tryz.ntmps135 Z (fun c=>?_)
 refine wF 0 Z (fun A0 cap0 ht0 hv0 hl0 hc0=>?_)
 refine rO 8 Z (yX Z Z (Hi ..) ?_)
 refine zA (yK Z Z Z (fun b11=>?_))
 refine oO 11 Z (zC wR Z Z ?_)
 refine zA (zH 0 dZ Z Z Z Z ?_)
 refine oK 9 [16,5,1] Z Z (rO 8 Z ?_)
 refine zC qA Z Z (zA ?_)
 refine zH 0 dK Z Z Z Z (oO 17 Z ?_)
 refine zC vB Z Z (zA ?_)
 refine zH 0 dK Z Z Z Z (zA ?_)
 refine zK Z Z Z (LL fb (quartV n) n (Iz h0 h1 h2)) (cS 4 Z) (oO 7 Z ?_)
 refine zS KY Z (fun b6=>?_)
 change cL _ _ _ _ _ _ _ _ (HA.blk _ [_] _::_) _
 refine zA (zF 0 (M':=[HA.blk _ [_] _,_]) Z Z Z Z KX Z Z Z ?_)
 refine oK 3 [6,5] Z Z (rO 7 Z ?_)
 refine zC qz Z Z (zA ?_)
 refine zF 1 (M':=[_,HA.blk _ [_,_] _]) Z Z Z Z KW Z Z Z (oR 8 Z ?_)
 refine xT 0 Z aG (xT 0 Z aG ?_)
 exact yM (.fv (cW b11) (.numF (qw n))) (fun w ok h=>⟨_,_,rfl,dget h 0 Z,sG (dget h 1 Z) Z⟩) (zE Tryz.results135 Z ⟨rfl,_,rfl,rfl⟩ nS (cS 0 Z))
theorem LZ(sp:Value)(nb:Nat)(n:Int)(h1: -1000000000<n)(h2:n<1000000000):CtR Tryz.prog 135 #[sp,cW nb] [.node nb (cc jX (dj n))] (RF (.numI n)):=by
 refine Ct.of_run (args:=[sp,cW nb]) Tryz.func135 aF Z Tryz.ntmps135 Z (fun c=>?_)
 refine wF 0 Z (fun A0 cap0 ht0 hv0 hl0 hc0=>?_)
 refine rO 8 Z (yX Z Z (Hi ..) ?_)
 refine zA (yK Z Z Z (fun b11=>?_))
 refine oO 11 Z (zC wR Z Z ?_)
 refine zA (zH 0 dZ Z Z Z Z ?_)
 refine oK 9 [16,5,1] Z Z (rO 8 Z ?_)
 refine zC qA Z Z (zA ?_)
 refine zH 0 dK Z Z Z Z (oR 9 Z ?_)
 refine xL Z (decide_eq_false aE) (rO 15 Z ?_)
 refine zC vB Z Z (zA ?_)
 refine zH 0 dK Z Z Z Z (zA ?_)
 refine zK Z Z Z (JF n h1 h2) cZ (oO 7 Z ?_)
 refine zS Og Z (fun b8=>?_)
 change cL _ _ _ _ _ _ _ _ (HA.blk _ [_] _::_) _
 refine zA (zF 0 (M':=[HA.blk _ [_] _,_]) Z Z Z Z Of Z Z Z ?_)
 refine oK 3 [8,5] Z Z (rO 7 Z ?_)
 refine zC mM Z Z (zA ?_)
 refine zF 1 (M':=[_,HA.blk _ [_,_] _]) Z Z Z Z fu Z Z Z (oR 8 Z ?_)
 refine xT 0 Z aG (xT 0 Z aG ?_)
 exact yM (.fv (cW b11) (.numI n)) (fun w ok h=>⟨_,_,rfl,dget h 0 Z,sG (dget h 1 Z) Z⟩) (zE Tryz.results135 Z ⟨rfl,_,rfl,rfl⟩ nS (cS 0 Z))
theorem La(sp:Value)(nb:Nat)(n:Int)(h1: -1000000000<n)(h2:n<1000000000):CtR Tryz.prog 137 #[sp,cW nb] [.node nb (cc jX (dj n))] (RF (.int n)):=by
 refine Ct.of_run (args:=[sp,cW nb]) Tryz.func137 aF Z Tryz.ntmps137 Z (fun c=>?_)
 refine wF 0 Z (fun A0 cap0 ht0 hv0 hl0 hc0=>?_)
 refine rO 13 Z (zC wR Z Z ?_)
 refine zA (zH 0 dZ Z Z Z Z ?_)
 refine oO 17 Z (zC qA Z Z ?_)
 refine zA (zH 0 dK Z Z Z Z ?_)
 refine oK 1 [19,1] Z Z (rR 8 Z ?_)
 refine xL Z (decide_eq_false aE) (rO 15 Z ?_)
 refine zC vB Z Z (zA ?_)
 refine zH 0 dK Z Z Z Z (zA ?_)
 refine zK Z Z Z (JF n h1 h2) cZ (oO 7 Z ?_)
 refine zS Og Z (fun b8=>?_)
 change cL _ _ _ _ _ _ _ _ (HA.blk _ [_] _::_) _
 refine zA (zF 0 (M':=[HA.blk _ [_] _]) Z Z Z Z Of Z Z Z ?_)
 refine oK 3 [8] Z Z (rR 5 Z ?_)
 refine xT 0 Z aG (yM (.fv (cW b8) (.int n)) (fun w ok h=>⟨_,rfl,sG (dget h 0 Z) Z⟩) ?_)
 exact zE Tryz.results137 Z ⟨rfl,_,rfl,rfl⟩ nS (cS 0 Z)
def DA.and(a b:DA):DA:=⟨fun w ok=>a.p w ok∧b.p w ok,fun h1 h2 h=>⟨a.mono h1 h2 h.1,b.mono h1 h2 h.2⟩⟩
theorem Ct.wide{P:Program}{f:FuncId}{args:Array Value}{M:List HA}{D D2:List DA}{R:Value→List HA→List DA→Prop}(h:Ct P f args M D R)(hs: ∀ (w:World) (ok:Nat→Prop),(∀ d∈D2,d.p w ok)→ ∀ d∈D,d.p w ok):Ct P f args M D2 R:=
 ⟨h.1,fun w ok hok hM hn hD=>h.2 w ok hok hM hn (hs w ok hD)⟩
def yd(fb:Addr):DA:= .and .tab (kg fb)
theorem Ny(fb:Addr):F7 (yd fb):=fun n h1 h2 h0=>Ct.wide (Nx fb n h0 h1 h2) (fun w ok h d hd=>by
 have:=h (yd fb) List.mem_cons_self
 simp only [List.mem_cons,List.not_mem_nil,or_false]at hd
 rcases hd with rfl|rfl
 ·exact this.1
 ·exact this.2)
theorem pz{back:Bool}{x:V}(h:x.kind=2):dA back x=cc jX (dj x.num):=by rw [uJ];simp [h]
theorem va{back:Bool}{x:V}(h:x.kind=6):dA back x=cc d3 (quartV x.num):=by rw [uJ];simp [h]
theorem Nz(fb:Addr):BP (yd fb):=by
  refine⟨fun back x hx hk=>?_,fun back x hx hk=>?_⟩
  · obtain⟨h1,h2⟩:=hk.num aC
    rcases hx with hx|⟨hx,h0⟩
    · exact tU (pz hx) (fun sp nb=>LZ sp nb _ h1 h2) ⟨rfl,hx,rfl⟩
    · refine zy fun sb nb=>?_
      rw [va hx]
      have h3:CtR Tryz.prog 135 #[cW sb,cW nb] [.node nb (cc d3 (quartV x.num)),yd fb] (RF (.numF (qw x.num))):=Ct.wide (LY fb (cW sb) nb x.num h0 h1 h2) (fun w ok h d hd=>by
        have h4:=h (yd fb) aJ
        simp only [List.mem_cons,List.not_mem_nil,or_false]at hd
        rcases hd with rfl|rfl|rfl
        · exact h _ List.mem_cons_self
        · exact h4.1
        · exact h4.2)
      exact h3.mono (by rintro u D' ⟨p,rfl,rfl⟩;exact⟨p,_,rfl,rfl,rfl,hx,rfl⟩)
  · obtain⟨h1,h2⟩:=hk.num aC
    exact tU (pz hx) (fun sp nb=>La sp nb _ h1 h2) ⟨rfl,rfl⟩
end Go.Jw

namespace Go.Jw
open Go Go.RowKit Go.Proofs
set_option maxRecDepth 8000
def AR(t:V)(r:Value)(D':List DA):Prop:= ∃x,r= .tuple #[x, .bool true]∧RV t x D'
section rules
variable {P:Program} {n:Nat} {F:List Nat} {c:Ctx F} {ops:Array Oper} {d:Nat} {T:TypeId} {l:List Oper} {k:List KI} {Q:Post} {e:dI} {M:List HA} {D:List DA}
variable {x y:Operand} {S S':TypeId}
theorem EI(hS:P.underlying S=some (.interface (P.methodsAt S)))(hx:ev e x=some .nilIface):St P n c (.binOp .eql S x (.const .nilIface) S') T e M D (.bool true):=
 fun _ a w hf=>by
  have h1:=run_eql_nil_nil (P:=P) (w:=w) S hS
  have h2:a.eval (.const .nilIface)= .nilIface:=rfl
  simp only [execOp,dM,hf.ev hx,h2,eqGuard_nil_constR,Sem.run_bind,Sem.run_pure,Result.andThen_ok,h1]
end rules

theorem Lb(b:Nat)(s:ByteArray):CtR Tryz.prog 166 #[cW b] [.node b (cc dV s)] (AR (.mk 3 0 s [] [])):=by
 refine Ct.of_run (args:=[cW b]) Tryz.func166 aF Z Tryz.ntmps166 Z (fun c=>?_)
 refine wF 0 Z (fun A0 cap0 ht0 hv0 hl0 hc0=>?_)
 refine rO 3 Z (zS cx Z (fun b2=>?_))
 change cL _ _ _ _ _ _ _ _ (HA.blk _ [_,_,_,_,_] _::_) _
 refine oO 11 Z (zC qA Z Z ?_)
 refine zA (zH 0 dK Z Z Z Z ?_)
 refine oO 17 Z (zC vB Z Z ?_)
 refine zA (zH 0 dK Z Z Z Z ?_)
 refine zA (yX Z Z (C6 ..) ?_)
 refine zA (zF 0 (M':=[HA.blk _ [_,_,_,_,_] _]) Z Z Z Z cY Z Z Z ?_)
 refine oK 3 [3,2] Z Z (qI ?_)
 refine pU (wU 1 0 Z Z (s:=s) (q:=3) (m:=0) hv0 ?_)
 exact xX 0 Tryz.results166 Z Z Z cP ⟨rfl,_,rfl,none,0,none,0,rfl,rfl⟩ nS (cS 0 Z)
theorem Lc(b:Nat):CtR Tryz.prog 166 #[cW b] [.node b (cc eJ (tu true))] (AR (.mk 1 1 ⟨#[]⟩ [] [])):=by
 refine Ct.of_run (args:=[cW b]) Tryz.func166 aF Z Tryz.ntmps166 Z (fun c=>?_)
 refine wF 0 Z (fun A0 cap0 ht0 hv0 hl0 hc0=>?_)
 refine rO 3 Z (zS cx Z (fun b2=>?_))
 change cL _ _ _ _ _ _ _ _ (HA.blk _ [_,_,_,_,_] _::_) _
 refine oO 11 Z (zC qA Z Z ?_)
 refine zA (zH 0 dK Z Z Z Z ?_)
 refine oR 9 Z (xL Z (decide_eq_false aE) ?_)
 refine rK 13 [4,2,0] Z Z (rO 8 Z ?_)
 refine zC vB Z Z (zA ?_)
 refine zH 0 dK Z Z Z Z (oR 9 Z ?_)
 refine yO yE (zR ?_)
 refine tP 0 Z cK (zZ Z) (tP 2 Z cK (zZ Z) ?_)
 refine tP 3 Z cK (xA Z) (tP 4 Z cK (zY vB Z) ?_)
 refine yF (tM 1 Z cK (sU Z (kL ..)) ?_)
 refine qW (rI 5 (yN _ _ _ _) Z cK aD aD aD Z (uI 0 dK Z Z Z) ?_)
 refine zR (tP 6 Z cK (fJ Z Z) ?_)
 refine tP 7 Z cK (zZ Z) (o1 (s:=34) Z (rfl) ?_)
 refine fm 8 (yN _ _ _ _) Z Z Z Z aD aD aD Z (fm 9 (yN _ _ _ _) Z Z Z Z aD aD aD Z ?_)
 refine fm 10 (yN _ _ _ _) Z Z Z Z aD aD aD Z (fm 11 (yN _ _ _ _) Z Z Z Z aD aD aD Z ?_)
 refine fm 12 (yN _ _ _ _) Z Z Z Z aD aD aD Z (tP 13 Z cK (rW Z Z) ?_)
 refine zL 14 aD ?_
 refine zO (I2:=[[13,12,11,10,9,8],[],[],[],[]]) Z cK aD (fun Kd hKd=>?_)
 refine zF 0 (M':=[HA.blk _ [_,_,_,_,_] _]) Z Z Z Z cY Z Z Z (hKd _ _ _ (hC (zD (zD (zD (zD (zP)))))) ?_)
 refine tP 15 Z cK (xC Z) (yG aD ?_)
 refine rK 0 [3,2] Z Z (qI ?_)
 refine pU (wU 1 0 Z Z (s:=⟨#[]⟩) (q:=1) (m:=1) aE ?_)
 exact xX 0 Tryz.results166 Z Z Z cP ⟨rfl,_,rfl,none,0,none,0,rfl,rfl⟩ nS (cS 0 Z)
theorem Ld(b:Nat):CtR Tryz.prog 166 #[cW b] [.node b (cc eJ (tu false))] (AR (.mk 1 0 ⟨#[]⟩ [] [])):=by
 refine Ct.of_run (args:=[cW b]) Tryz.func166 aF Z Tryz.ntmps166 Z (fun c=>?_)
 refine wF 0 Z (fun A0 cap0 ht0 hv0 hl0 hc0=>?_)
 refine rO 3 Z (zS cx Z (fun b2=>?_))
 change cL _ _ _ _ _ _ _ _ (HA.blk _ [_,_,_,_,_] _::_) _
 refine oO 11 Z (zC qA Z Z ?_)
 refine zA (zH 0 dK Z Z Z Z ?_)
 refine oR 9 Z (xL Z (decide_eq_false aE) ?_)
 refine rK 13 [4,2,0] Z Z (rO 8 Z ?_)
 refine zC vB Z Z (zA ?_)
 refine zH 0 dK Z Z Z Z (oR 6 Z ?_)
 refine yO yE (zR ?_)
 refine tP 0 Z cK (zZ Z) (tP 2 Z cK (zZ Z) ?_)
 refine tP 3 Z cK (xA Z) (tP 4 Z cK (zY vB Z) ?_)
 refine yF (tM 1 Z cK (sU Z (kL ..)) ?_)
 refine qW (rI 5 (yN _ _ _ _) Z cK aD aD aD Z (uI 0 dK Z Z Z) ?_)
 refine zR (tP 6 Z cK (fJ Z Z) ?_)
 refine tP 7 Z cK (zZ Z) (Aq (s:=34) Z (rfl) ?_)
 refine tP 8 Z (dF Z Z) (zZ Z) (tP 9 Z (dF Z Z) (xA Z) ?_)
 refine tP 10 Z (dF Z Z) (zY vB Z) (qW ?_)
 refine rI 11 (yN _ _ _ _) Z (dF Z Z) aD aD aD Z (uI 0 dK Z Z Z) (zR ?_)
 refine tP 12 Z (dF Z Z) (fJ Z Z) (tP 13 Z cK (rW Z Z) ?_)
 refine zL 14 aD ?_
 refine zO (I2:=[[13,12],[11],[10,9,8],[],[],[],[]]) Z cK aD (fun Kd hKd=>?_)
 refine zF 0 (M':=[HA.blk _ [_,_,_,_,_] _]) Z Z Z Z cY Z Z Z (hKd _ _ _ (hC (hC (hC (zD (zD (zD (zD (zP)))))))) ?_)
 refine tP 15 Z cK (xC Z) (yG aD ?_)
 refine rK 0 [3,2] Z Z (qI ?_)
 refine pU (wU 1 0 Z Z (s:=⟨#[]⟩) (q:=1) (m:=0) aE ?_)
 exact xX 0 Tryz.results166 Z Z Z cP ⟨rfl,_,rfl,none,0,none,0,rfl,rfl⟩ nS (cS 0 Z)
theorem Le(b:Nat):CtR Tryz.prog 166 #[cW b] [.node b (cc nH nI)] (AR (.mk 0 0 ⟨#[]⟩ [] [])):=by
 refine Ct.of_run (args:=[cW b]) Tryz.func166 aF Z Tryz.ntmps166 Z (fun c=>?_)
 refine wF 0 Z (fun A0 cap0 ht0 hv0 hl0 hc0=>?_)
 refine rO 3 Z (zS cx Z (fun b2=>?_))
 change cL _ _ _ _ _ _ _ _ (HA.blk _ [_,_,_,_,_] _::_) _
 refine oO 11 Z (zC qA Z Z ?_)
 refine zA (zH 0 dK Z Z Z Z ?_)
 refine oR 9 Z (xL Z (decide_eq_false aE) ?_)
 refine rR 7 Z (xL Z (decide_eq_false aE) ?_)
 refine rK 7 [41,12,2,0] Z Z (rO 4 Z ?_)
 refine yX Z Z (q9 ..) (zA ?_)
 refine zF 0 (M':=[HA.blk _ [_,_,_,_,_] _]) Z Z Z Z cY Z Z Z (oR 3 Z ?_)
 refine qI (pU ?_)
 exact wU 1 0 Z Z (s:=⟨#[]⟩) (q:=0) (m:=0) aE (xX 0 Tryz.results166 Z Z Z cP ⟨rfl,_,rfl,none,0,none,0,rfl,rfl⟩ nS (cS 0 Z))
theorem Lf(b:Nat)(n:Int)(h1: -1000000000<n)(h2:n<1000000000):CtR Tryz.prog 166 #[cW b] [.node b (cc jX (dj n))] (AR (.mk 2 n ⟨#[]⟩ [] [])):=by
 refine Ct.of_run (args:=[cW b]) Tryz.func166 aF Z Tryz.ntmps166 Z (fun c=>?_)
 refine wF 0 Z (fun A0 cap0 ht0 hv0 hl0 hc0=>?_)
 refine rO 3 Z (zS cx Z (fun b2=>?_))
 change cL _ _ _ _ _ _ _ _ (HA.blk _ [_,_,_,_,_] _::_) _
 refine oO 11 Z (zC qA Z Z ?_)
 refine zA (zH 0 dK Z Z Z Z ?_)
 refine oR 9 Z (xL Z (decide_eq_false aE) ?_)
 refine rR 7 Z (xL Z (decide_eq_false aE) ?_)
 refine rK 7 [41,12,2,0] Z Z (xL Z (decide_eq_false aE) ?_)
 refine rO 15 Z (zC vB Z Z ?_)
 refine zA (zH 0 dK Z Z Z Z ?_)
 refine zA (zK Z Z Z (JF n h1 h2) cZ ?_)
 refine oK 11 [6,5,2] Z Z (xK ?_)
 refine yO yE (zR ?_)
 refine tP 0 Z cK (zZ Z) (tP 2 Z cK (zZ Z) ?_)
 refine yF (tM 1 Z cK (sU Z (kL ..)) ?_)
 refine zR (tP 3 Z cK (EI GS Z) ?_)
 refine zL 4 aD ?_
 refine zO (I2:=[[3],[],[2],[]]) Z cK aD (fun Kd hKd=>?_)
 refine zF 0 (M':=[HA.blk _ [_,_,_,_,_] _]) Z Z Z Z cY Z Z Z (hKd _ _ _ (hC (zD (hC (zD (zP))))) ?_)
 refine tP 5 Z cK (xC Z) (yG aD ?_)
 refine qI (pU ?_)
 exact wU 1 0 Z Z (s:=⟨#[]⟩) (q:=2) (m:=n) aE (xX 0 Tryz.results166 Z Z Z cP ⟨rfl,_,rfl,none,0,none,0,rfl,rfl⟩ nS (cS 0 Z))
theorem Lg(fb:Addr)(b:Nat)(n:Int)(h0:n.tmod 4≠0)(h1: -1000000000<n)(h2:n<1000000000):CtR Tryz.prog 166 #[cW b] [.node b (cc d3 (dl n)),kg fb] (AR (.mk 6 n ⟨#[]⟩ [] [])):=by
 refine Ct.of_run (args:=[cW b]) Tryz.func166 aF Z Tryz.ntmps166 Z (fun c=>?_)
 refine wF 0 Z (fun A0 cap0 ht0 hv0 hl0 hc0=>?_)
 have hz:n≠0:=fun h=>by subst h;exact h0 rfl
 have hd4: -1000000000<n.tdiv 4∧n.tdiv 4<1000000000:=by have:=Int.mul_tdiv_add_tmod n 4;have h5:(n.tdiv 4).natAbs=n.natAbs/4:=Int.natAbs_tdiv n 4;omega
 refine rO 3 Z (zS cx Z (fun b2=>?_))
 change cL _ _ _ _ _ _ _ _ (HA.blk _ [_,_,_,_,_] _::_) _
 refine oO 11 Z (zC qA Z Z ?_)
 refine zA (zH 0 dK Z Z Z Z ?_)
 refine oR 9 Z (xL Z (decide_eq_false aE) ?_)
 refine rR 7 Z (xL Z (decide_eq_false aE) ?_)
 refine rK 7 [41,12,2,0] Z Z (xL Z (decide_eq_false aE) ?_)
 refine rR 7 Z (xL Z (decide_eq_false aE) ?_)
 refine rO 15 Z (zC vB Z Z ?_)
 refine zA (zH 0 dK Z Z Z Z ?_)
 refine zA (zK Z Z Z (LL fb (dl n) n (I0 h0 h1 h2)) (cS 3 Z) ?_)
 refine oK 11 [8,7,2] Z Z (rO 6 Z ?_)
 refine nr GS Z Z (oS 2 Z ?_)
 refine vM (s:=70) Z (rfl) (oO 3 Z ?_)
 refine GJ Z Z Z (b:=false) (by rw [←Fv,DO hz h1 h2];rfl) (oS 4 Z ?_)
 refine vM (s:=74) Z (rfl) (oO 3 Z ?_)
 refine GK Z Z Z (b:=false) (by rw [←IX,DO hz h1 h2];rfl) (oS 4 Z ?_)
 refine vM (s:=78) Z (rfl) (oO 3 Z ?_)
 refine rt Z Z Z bE (oO 3 Z ?_)
 refine rt Z Z Z bE (zI Z Z ?_)
 refine lS bO Tryz.underlying2 Z Z (DP hz h1 h2) a7 a8 (zI Z Z ?_)
 refine lR (by rw [Tryz.underlying2];rfl) Tryz.underlying214 Z Z (zI Z Z ?_)
 refine GM Z Z Z (b:=false) (by rw [Ki hz h1 h2];rfl) (oK 3 [86,7,2] Z Z ?_)
 refine rO 10 Z (lS bO Tryz.underlying2 Z Z (IW hz h1 h2) a7 a8 ?_)
 refine zA (lR (by rw [Tryz.underlying2];rfl) Tryz.underlying214 Z Z ?_)
 refine zA (GL Z Z Z (b:=false) (by rw [beq_eq_false_iff_ne];exact Kj hz h1 h2 h0) ?_)
 refine oO 8 Z (rt Z Z Z bE ?_)
 refine zA (lS bO Tryz.underlying2 Z Z (DP hz h1 h2) a7 a8 ?_)
 refine zA (yX Z Z (kL ..) ?_)
 refine zA (zF 0 (M':=[HA.blk _ [_,_,_,_,_] _]) Z Z Z Z cY Z Z Z ?_)
 refine oK 3 [3,2] Z Z (qI ?_)
 refine pU (wU 1 0 Z Z (s:=⟨#[]⟩) (q:=6) (m:=n) aE ?_)
 exact xX 0 Tryz.results166 Z Z Z cP ⟨rfl,_,rfl,none,0,none,0,rfl,rfl⟩ nS (cS 0 Z)
end Go.Jw

