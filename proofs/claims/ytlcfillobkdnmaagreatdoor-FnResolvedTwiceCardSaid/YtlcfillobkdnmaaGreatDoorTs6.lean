/- Part 6 of the proof's texts, made small by a program. -/
import Derived.Test.YtlcfillobkdnmaaGreatDoorTs5
import Derived.Test.YtlcfillobkdnmaaGreatDoorRows
import Derived.ProofKit
import Derived.Deep.Slices
import Derived.SliceStrings
import Derived.Lib.LaidTab
set_option linter.unusedVariables false
set_option linter.unusedSimpArgs false
set_option maxHeartbeats 4000000
namespace Go.Jw
open Go Go.RowKit Go.Proofs
set_option maxRecDepth 8000

section rules
variable {P:Program} {n:Nat} {F:List Nat} {c:Ctx F} {ops:Array Oper} {d:Nat} {T:TypeId} {l:List Oper} {k:List KI} {Q:Post} {e:cp} {M:List HA} {D:List DA}
theorem rr{w:World}{mty kt et:TypeId}{r ck:Nat}{s:ByteArray}{v:Value}(hm:P.underlying mty=some (.map kt et))(hk:P.underlying kt=some .string)(hb:w.heap[r]? =some (.map #[{key:= .string s,val:=v,born:=0}] ck)):
  (Instr.lookup mty (.map (some r)) (.string s) false).run P w= .ok v w:=by
 have hc:(Instr.checkKey false 10000 kt (.string s)).run P w= .ok () w:=MapKept.run_checkKey (k:= .string s) hk (by simp [MapKept.IsKey]) false 9999
 have hf:Instr.findNow .string (.string s) [({key:= .string s,val:=v,born:=0}:MapEntry)] 0=some (some (0,v)):=by
  have:(s==s)=true:=(MapKept.bytes_beq s s).2 rfl
  simp [Instr.findNow,Instr.sameNow,this]
 simp [Instr.lookup,run_underlying hm,MapKept.run_getObj_map hb,hc,MapKept.run_findKey hk hf,Result.andThen]
theorem mS(i:Nat){x y:Operand}{mb ck:Nat}{s:ByteArray}{v:Value}{S kt et:TypeId}(hm:P.underlying S=some (.map kt et))(hk:P.underlying kt=some .string)(hd:Nat.blt d n=true)(hx:ev e x=some (.map (some mb)))(hy:ev e y=some (.string s))
  (hi:M[i]? =some (.obj mb (.map #[{key:= .string s,val:=v,born:=0}] ck))) (next:bu P n c ops l k Q ((d,v)::e) M D):b0 P n c ops (some d) (.lookup S x y false) T l k Q e M D:=by
 refine xR hd (fun a w hf=>?_) next
 have hb:w.heap[mb]? =some (.map #[{key:= .string s,val:=v,born:=0}] ck):=hf.toFitsW.mem hi
 simp only [execOp,cx,hf.ev hx,hf.ev hy,Sem.run_bind,rr hm hk hb,Result.andThen_ok,Sem.run_pure]
end rules
def FndO(l:List (ByteArray×Nat))(name:ByteArray):Option Nat→Prop
  |some b=> ∃q∈l,q.1=name∧q.2=b
  |none=> ∀ q∈l,q.1≠name
theorem FndO.hit{l:List (ByteArray×Nat)}{name:ByteArray}{i:Nat}(h:i<l.length)(he:l[i].1=name):FndO (l.take (i+1)) name (some l[i].2):=by
 refine⟨l[i],?_,he,rfl⟩
 rw [List.take_add_one,List.getElem?_eq_getElem h]
 exact List.mem_append_right _ List.mem_cons_self
theorem FndO.miss{l:List (ByteArray×Nat)}{name:ByteArray}{o:Option Nat}{i:Nat}(h:i<l.length)(he: ¬ l[i].1=name)(hf:FndO (l.take i) name o):FndO (l.take (i+1)) name o:=by
  have e:l.take (i+1)=l.take i++[l[i]]:=by rw [List.take_add_one,List.getElem?_eq_getElem h];rfl
  rw [e]
  cases o with
  |some b=>
    obtain⟨q,hq,h1,h2⟩:=hf
    exact⟨q,List.mem_append_left _ hq,h1,h2⟩
  |none=>
    intro q hq
    rcases List.mem_append.1 hq with hq|hq
    · exact hf q hq
    · rw [List.mem_singleton.1 hq];exact he

theorem ER(s:ByteArray):CtR Tryz.prog 169 #[.string s] [] (fun u D'=> ∃S v,u= .iface S v∧D'=[]):=by
 refine Ct.of_run (args:=[.string s]) Tryz.func169 aF Z Tryz.ntmps169 Z (fun c=>?_)
 refine rO 10 Z (yY Z Z (Dm ..) ?_)
 refine zA (yN Z Z Z (fun b5=>?_))
 refine zA (jS aF Z Z ?_)
 refine oR 3 Z ?_
 exact zD Tryz.results169 Z ⟨rfl,_,_,rfl,rfl⟩ nS (fun _ h=>by cases h)
theorem JK(mb b ck:Nat)(G:Gr)(cs:List Value)(f:Flds)(idt ref p0 rest part name:ByteArray)(l:List (ByteArray×Nat))(hm:(b,cs,f)∈G)(hid:f 2=some (.text idt))(hr1:ref.size≤2147483648)(hr2:rest.size≤2147483648)(hp0:p0.size≤1000)(hsp: ∀ l,rp 35 ref l→l=[p0,rest])(hsp2: ∀ l,rp 47 rest l→l=[⟨#[]⟩,part,name])(hpt:part=kDefs∨part=kProps)(hdef:part=kDefs→f 32=some (.named l))(hprop:part=kProps→f 23=some (.named l))(hbe:p0++(⟨#[35]⟩:ByteArray)=⟨#[35]⟩):Ct Tryz.prog 114 #[cD b, .string ref] [.many 124 (Gr.blks G),HA.obj mb (.map #[{key:= .string idt,val:=cD b,born:=0}] ck)] [.graph mb G] (fun u M' D'=>M'=[.many 124 (Gr.blks G),HA.obj mb (.map #[{key:= .string idt,val:=cD b,born:=0}] ck)]∧D'=[.graph mb G]∧ ∃o er,u= .tuple #[oP o,er]∧FndO l name o∧((o.isSome=true∧er= .nilIface)∨(o=none∧ ∃S v,er= .iface S v))):=by
 refine Ct.of_run (args:=[cD b, .string ref]) Tryz.func114 aF Z Tryz.ntmps114 Z (fun c=>?_)
 refine uQ (p:=cs[0]? =some (.map (some mb))) (fun w ok h=>((dget h 0 Z:(DA.graph mb G).p w ok) _ hm).2.1) (fun hc0=>?_)
 refine xQ 0 2 Z hm aE aE (fun p2 hc2 hp2=>?_)
 refine vM 0 2 Z hm aE aE hc2 hid (en 0 Z (fun pt hpt2 hsz2=>?_))
 cases hpt2
 refine rO 12 Z (zW Z Z Z (EQ ref 35 hr1) cF (fun u18 D18 hv18=>?_))
 obtain⟨A18,c18,l18,rfl,rfl,hl18⟩:=hv18
 obtain rfl:=hsp _ hl18
 refine oO 9 Z (zX cG Z Z ?_)
 refine oO 9 Z (wA (i:=0) 0 cG Z Z Z Z aJ ?_)
 refine zA (yE cv Z Z (fun _ h=>xK h (j:=0) (i:=0) Z Z) ?_)
 refine zA (iX Z Z Z (by show p0.size+1≤_;omega) ?_)
 rw [hbe]
 refine oK 3 [7,6,4,0] Z Z (rS 9 Z ?_)
 refine pV (s:=28) Z (rfl) (oO 5 Z ?_)
 refine zC pI Z Z (zI Z Z ?_)
 refine yT 0 cy Z Z Z (xA hm) (by rw [Nat.zero_add];exact hc2) (zI Z Z ?_)
 refine yF dN Z Z (oO 10 Z ?_)
 refine zC pI Z Z (zA ?_)
 refine yT 0 cy Z Z Z (xA hm) (by rw [Nat.zero_add];exact hc2) (oO 3 Z ?_)
 refine yM 1 cv Z Z Z (oK 3 [7,6,4,0] Z Z ?_)
 refine rO 5 Z (wA (i:=1) 0 cG Z Z Z Z aJ ?_)
 refine zA (yE cv Z Z (fun _ h=>xK h (j:=0) (i:=1) Z Z) ?_)
 refine oO 10 Z (zC pH Z Z ?_)
 refine zA (yT 0 j5 Z Z Z (xA hm) (by rw [Nat.zero_add];exact hc0) ?_)
 refine oO 3 Z (mS 1 vw eA Z Z Z Z ?_)
 refine oK 3 [9,8,4] Z Z (rO 5 Z ?_)
 refine zW Z Z Z (EQ rest 47 hr2) cF (fun u51 D51 hv51=>?_)
 obtain⟨A51,c51,l51,rfl,rfl,hl51⟩:=hv51
 obtain rfl:=hsp2 _ hl51
 refine oO 8 Z (zX cG Z Z ?_)
 refine oO 9 Z (zX cG Z Z ?_)
 refine oO 9 Z (wA (i:=1) 0 cG Z Z Z Z aJ ?_)
 refine zA (yE cv Z Z (fun _ h=>xK h (j:=0) (i:=1) Z Z) ?_)
 refine oK 1 [61,10,9,4] Z Z (rR 8 Z ?_)
 refine zK Z (fun h62=>?_) (fun h62=>?_)
 ·refine xQ 4 32 Z hm aE aE (fun pq hcq hpq=>?_)
  refine vM 4 32 Z hm aE aE hcq (hdef h62) (sT 0 Z (fun pl sl nbs hu=>?_))
  cases hu
  refine vS 1 Z (fun A1 c1 hx hk1 hk2=>?_)
  subst hx
  refine tL 2 Z (fun hnl=>?_)
  unfold maxLen at hk2
  refine rO 7 Z (zC qB Z Z ?_)
  refine zA (yT 0 di Z Z Z (xA hm) bH ?_)
  refine oO 10 Z (yM 0 ib Z Z Z ?_)
  refine zA (zX dh Z Z ?_)
  refine oK 3 [72,71,70,10,4] Z Z (rK 1 [72,4,71,70,10] Z Z ?_)
  refine xF 2 (fun(⟨i,o⟩:Nat×Option Nat)=>i≤nbs.length∧FndO (l.take i) name o) (fun(⟨i,o⟩:Nat×Option Nat)=>[(72, .int .i64 ((i:Nat):Int)),(4,oP o)]) (fun(⟨i,o⟩:Nat×Option Nat)=>nbs.length - i) (0,none) (⟨Nat.zero_le _,fun q hq=>by cases hq⟩) (eC Z (eC Z (eN _))) ?_ (eC Z (eC Z (eC Z (eN _))))
  intro ⟨i,o⟩ hI K hK
  change Run _ _ _ _ _ [(72,_),(4,_),(71,_),(70,_),(10,_)] (_) (_)
  obtain⟨hi,hF⟩:=hI
  refine rO 3 Z (yK Z Z Z ?_)
  refine oR 2 Z (zK Z (fun h73=>?_) (fun h73=>?_))
  ·refine rO 6 Z ?_
   have hlt:i<nbs.length:=h73
   have hll:i<l.length:=by omega
   refine wO 1 dh Z Z Z Z hlt (pN 2 i Z (List.getElem?_eq_getElem hll) (List.getElem?_eq_getElem hlt) (fun hks=>?_))
   refine zA (yE j9 Z Z (fun _ h=>vJ h (j:=2) Z (List.getElem?_eq_getElem hlt)) ?_)
   refine oR 4 Z (yX yI ?_)
   refine zS (tP 0 Z br (zZ Z) ?_)
   refine tP 1 Z br (yV Z) (tP 2 Z br (yA i5 Z) ?_)
   refine tP 4 Z br (zZ Z) (yH ?_)
   refine tM 3 Z br (vX 0 cv Z Z Z) (tM 5 Z br (tF (i:=2) 5 cG Z Z Z aJ) ?_)
   refine tM 6 Z br (wL cv Z (fun _ h=>xK h (j:=5) (i:=2) Z Z)) (tM 7 Z br (pF Z Z) ?_)
   refine yG aD (rK 0 [83,13,72,4,71,70,10] Z Z ?_)
   refine zK Z (fun h83=>?_) (fun h83=>?_)
   ·refine rO 6 Z (zC pK Z Z ?_)
    refine zA (zH 0 da Z Z Z Z ?_)
    refine oO 6 Z (yD Z Z aC ?_)
    refine oR 3 Z ?_
    exact kQ (hK (i+1,some l[i].2) (⟨bQ,FndO.hit hll h83⟩) ar) (eC Z (eC Z (eC Z (eC Z (eC Z (eN _))))))
   refine rO 4 Z (yD Z Z aC ?_)
   refine oR 3 Z ?_
   exact kQ (hK (i+1,o) (⟨bQ,hF.miss hll h83⟩) ar) (eC Z (eC Z (eC Z (eC Z (eC Z (eN _))))))
  obtain rfl:i=nbs.length:=by omega
  rw [hnl,List.take_length]at hF
  refine rO 8 Z (tT fy Z Z ?_)
  refine zY (zU Z (fun h117=>?_) (fun h117=>?_))
  ·refine rO 3 Z (zW Z Z Z (ER _) cF (fun u118 D118 hv118=>?_))
   refine oR 5 Z ?_
   obtain⟨S9,v9,rfl,rfl⟩:=hv118
   obtain rfl:o=none:=by cases o with|none=>rfl|some q=>cases h117
   exact vF Tryz.results114 Z Z ⟨rfl,rfl,none,_,rfl,hF, .inr ⟨rfl,S9,v9,rfl⟩⟩ (List.Sublist.refl _) aA
  refine rR 10 Z ?_
  obtain⟨q,rfl⟩: ∃q,o=some q:=by cases o with|none=>cases h117|some q=>exact⟨q,rfl⟩
  exact vF Tryz.results114 Z Z ⟨rfl,rfl,some q,_,rfl,hF, .inl ⟨rfl,rfl⟩⟩ (List.Sublist.refl _) aA
 refine xQ 4 23 Z hm aE aE (fun pq hcq hpq=>?_)
 refine vM 4 23 Z hm aE aE hcq (hprop (hpt.resolve_left h62)) (sT 0 Z (fun pl sl nbs hu=>?_))
 cases hu
 refine vS 1 Z (fun A1 c1 hx hk1 hk2=>?_)
 subst hx
 refine tL 2 Z (fun hnl=>?_)
 unfold maxLen at hk2
 refine rR 7 Z (wY Z (decide_eq_true (hpt.resolve_left h62)) ?_)
 refine rO 7 Z (zC qA Z Z ?_)
 refine zA (yT 0 di Z Z Z (xA hm) bH ?_)
 refine oK 3 [14,10,4] Z Z (rO 7 Z ?_)
 refine yM 0 ib Z Z Z (zA ?_)
 refine zX dh Z Z (oK 4 [99,4,98,97,10] Z Z ?_)
 refine xF 2 (fun(⟨i,o⟩:Nat×Option Nat)=>i≤nbs.length∧FndO (l.take i) name o) (fun(⟨i,o⟩:Nat×Option Nat)=>[(99, .int .i64 ((i:Nat):Int)),(4,oP o)]) (fun(⟨i,o⟩:Nat×Option Nat)=>nbs.length - i) (0,none) (⟨Nat.zero_le _,fun q hq=>by cases hq⟩) (eC Z (eC Z (eN _))) ?_ (eC Z (eC Z (eC Z (eN _))))
 intro ⟨i,o⟩ hI K hK1
 change Run _ _ _ _ _ [(99,_),(4,_),(98,_),(97,_),(10,_)] (_) (_)
 obtain⟨hi,hF⟩:=hI
 refine rO 3 Z (yK Z Z Z ?_)
 refine oR 2 Z (zK Z (fun h100=>?_) (fun h100=>?_))
 ·refine rO 6 Z ?_
  have hlt:i<nbs.length:=h100
  have hll:i<l.length:=by omega
  refine wO 1 dh Z Z Z Z hlt (pN 2 i Z (List.getElem?_eq_getElem hll) (List.getElem?_eq_getElem hlt) (fun hks=>?_))
  refine zA (yE j9 Z Z (fun _ h=>vJ h (j:=2) Z (List.getElem?_eq_getElem hlt)) ?_)
  refine oR 4 Z (yX yI ?_)
  refine zS (tP 0 Z br (zZ Z) ?_)
  refine tP 1 Z br (yV Z) (tP 2 Z br (yA i5 Z) ?_)
  refine tP 4 Z br (zZ Z) (yH ?_)
  refine tM 3 Z br (vX 0 cv Z Z Z) (tM 5 Z br (tF (i:=2) 5 cG Z Z Z aJ) ?_)
  refine tM 6 Z br (wL cv Z (fun _ h=>xK h (j:=5) (i:=2) Z Z)) (tM 7 Z br (pF Z Z) ?_)
  refine yG aD (rK 0 [110,16,99,4,98,97,10] Z Z ?_)
  refine zK Z (fun h110=>?_) (fun h110=>?_)
  ·refine rO 6 Z (zC pK Z Z ?_)
   refine zA (zH 0 da Z Z Z Z ?_)
   refine oO 6 Z (yD Z Z aC ?_)
   refine oR 3 Z ?_
   exact kQ (hK1 (i+1,some l[i].2) (⟨bQ,FndO.hit hll h110⟩) ar) (eC Z (eC Z (eC Z (eC Z (eC Z (eN _))))))
  refine rO 4 Z (yD Z Z aC ?_)
  refine oR 3 Z ?_
  exact kQ (hK1 (i+1,o) (⟨bQ,hF.miss hll h110⟩) ar) (eC Z (eC Z (eC Z (eC Z (eC Z (eN _))))))
 obtain rfl:i=nbs.length:=by omega
 rw [hnl,List.take_length]at hF
 refine rO 8 Z (tT fy Z Z ?_)
 refine zY (zU Z (fun h117=>?_) (fun h117=>?_))
 ·refine rO 3 Z (zW Z Z Z (ER _) cF (fun u118 D118 hv118=>?_))
  refine oR 5 Z ?_
  obtain⟨S9,v9,rfl,rfl⟩:=hv118
  obtain rfl:o=none:=by cases o with|none=>rfl|some q=>cases h117
  exact vF Tryz.results114 Z Z ⟨rfl,rfl,none,_,rfl,hF, .inr ⟨rfl,S9,v9,rfl⟩⟩ (List.Sublist.refl _) aA
 refine rR 10 Z ?_
 obtain⟨q,rfl⟩: ∃q,o=some q:=by cases o with|none=>cases h117|some q=>exact⟨q,rfl⟩
 exact vF Tryz.results114 Z Z ⟨rfl,rfl,some q,_,rfl,hF, .inl ⟨rfl,rfl⟩⟩ (List.Sublist.refl _) aA
theorem JL(mb b ck:Nat)(G:Gr)(cs:List Value)(f:Flds)(idt ref p0 rest part name:ByteArray)(l:List (ByteArray×Nat))(hm:(b,cs,f)∈G)(hid:f 2=some (.text idt))(hr1:ref.size≤2147483648)(hr2:rest.size≤2147483648)(hp0:p0.size≤1000)(hsp: ∀ l,rp 35 ref l→l=[p0,rest])(hsp2: ∀ l,rp 47 rest l→l=[⟨#[]⟩,part,name])(hpt:part=kDefs∨part=kProps)(hdef:part=kDefs→f 32=some (.named l))(hprop:part=kProps→f 23=some (.named l))(hbe:p0++(⟨#[35]⟩:ByteArray)=idt)(hne: ¬ idt=(⟨#[35]⟩:ByteArray)):Ct Tryz.prog 114 #[cD b, .string ref] [.many 124 (Gr.blks G),HA.obj mb (.map #[{key:= .string idt,val:=cD b,born:=0}] ck)] [.graph mb G] (fun u M' D'=>M'=[.many 124 (Gr.blks G),HA.obj mb (.map #[{key:= .string idt,val:=cD b,born:=0}] ck)]∧D'=[.graph mb G]∧ ∃o er,u= .tuple #[oP o,er]∧FndO l name o∧((o.isSome=true∧er= .nilIface)∨(o=none∧ ∃S v,er= .iface S v))):=by
 refine Ct.of_run (args:=[cD b, .string ref]) Tryz.func114 aF Z Tryz.ntmps114 Z (fun c=>?_)
 refine uQ (p:=cs[0]? =some (.map (some mb))) (fun w ok h=>((dget h 0 Z:(DA.graph mb G).p w ok) _ hm).2.1) (fun hc0=>?_)
 refine xQ 0 2 Z hm aE aE (fun p2 hc2 hp2=>?_)
 refine vM 0 2 Z hm aE aE hc2 hid (en 0 Z (fun pt hpt2 hsz2=>?_))
 cases hpt2
 refine rO 12 Z (zW Z Z Z (EQ ref 35 hr1) cF (fun u18 D18 hv18=>?_))
 obtain⟨A18,c18,l18,rfl,rfl,hl18⟩:=hv18
 obtain rfl:=hsp _ hl18
 refine oO 9 Z (zX cG Z Z ?_)
 refine oO 9 Z (wA (i:=0) 0 cG Z Z Z Z aJ ?_)
 refine zA (yE cv Z Z (fun _ h=>xK h (j:=0) (i:=0) Z Z) ?_)
 refine zA (iX Z Z Z (by show p0.size+1≤_;omega) ?_)
 rw [hbe]
 refine oK 3 [7,6,4,0] Z Z (rS 9 Z ?_)
 refine vG (s:=28) Z (decide_eq_false hne) (oO 15 Z ?_)
 refine wA (i:=1) 0 cG Z Z Z Z aJ (zA ?_)
 refine yE cv Z Z (fun _ h=>xK h (j:=0) (i:=1) Z Z) (oK 3 [8,7,4,0] Z Z ?_)
 refine rO 7 Z (zC pH Z Z ?_)
 refine zA (yT 0 j5 Z Z Z (xA hm) (by rw [Nat.zero_add];exact hc0) ?_)
 refine oO 3 Z (mS 1 vw eA Z Z Z Z ?_)
 refine oO 8 Z (zW Z Z Z (EQ rest 47 hr2) cF (fun u51 D51 hv51=>?_))
 obtain⟨A51,c51,l51,rfl,rfl,hl51⟩:=hv51
 obtain rfl:=hsp2 _ hl51
 refine oK 3 [10,9,4] Z Z (rO 5 Z ?_)
 refine zX cG Z Z (oO 9 Z ?_)
 refine zX cG Z Z (oO 9 Z ?_)
 refine wA (i:=1) 0 cG Z Z Z Z aJ (zA ?_)
 refine yE cv Z Z (fun _ h=>xK h (j:=0) (i:=1) Z Z) (oK 9 [62,61,10,9,4] Z Z ?_)
 refine zK Z (fun h62=>?_) (fun h62=>?_)
 ·refine xQ 4 32 Z hm aE aE (fun pq hcq hpq=>?_)
  refine vM 4 32 Z hm aE aE hcq (hdef h62) (sT 0 Z (fun pl sl nbs hu=>?_))
  cases hu
  refine vS 1 Z (fun A1 c1 hx hk1 hk2=>?_)
  subst hx
  refine tL 2 Z (fun hnl=>?_)
  unfold maxLen at hk2
  refine rO 7 Z (zC qB Z Z ?_)
  refine zA (yT 0 di Z Z Z (xA hm) bH ?_)
  refine oO 10 Z (yM 0 ib Z Z Z ?_)
  refine zA (zX dh Z Z ?_)
  refine oK 3 [72,71,70,10,4] Z Z (rK 1 [72,4,71,70,10] Z Z ?_)
  refine xF 2 (fun(⟨i,o⟩:Nat×Option Nat)=>i≤nbs.length∧FndO (l.take i) name o) (fun(⟨i,o⟩:Nat×Option Nat)=>[(72, .int .i64 ((i:Nat):Int)),(4,oP o)]) (fun(⟨i,o⟩:Nat×Option Nat)=>nbs.length - i) (0,none) (⟨Nat.zero_le _,fun q hq=>by cases hq⟩) (eC Z (eC Z (eN _))) ?_ (eC Z (eC Z (eC Z (eN _))))
  intro ⟨i,o⟩ hI K hK
  change Run _ _ _ _ _ [(72,_),(4,_),(71,_),(70,_),(10,_)] (_) (_)
  obtain⟨hi,hF⟩:=hI
  refine rO 3 Z (yK Z Z Z ?_)
  refine oR 2 Z (zK Z (fun h73=>?_) (fun h73=>?_))
  ·refine rO 6 Z ?_
   have hlt:i<nbs.length:=h73
   have hll:i<l.length:=by omega
   refine wO 1 dh Z Z Z Z hlt (pN 2 i Z (List.getElem?_eq_getElem hll) (List.getElem?_eq_getElem hlt) (fun hks=>?_))
   refine zA (yE j9 Z Z (fun _ h=>vJ h (j:=2) Z (List.getElem?_eq_getElem hlt)) ?_)
   refine oR 4 Z (yX yI ?_)
   refine zS (tP 0 Z br (zZ Z) ?_)
   refine tP 1 Z br (yV Z) (tP 2 Z br (yA i5 Z) ?_)
   refine tP 4 Z br (zZ Z) (yH ?_)
   refine tM 3 Z br (vX 0 cv Z Z Z) (tM 5 Z br (tF (i:=2) 5 cG Z Z Z aJ) ?_)
   refine tM 6 Z br (wL cv Z (fun _ h=>xK h (j:=5) (i:=2) Z Z)) (tM 7 Z br (pF Z Z) ?_)
   refine yG aD (rK 0 [83,13,72,4,71,70,10] Z Z ?_)
   refine zK Z (fun h83=>?_) (fun h83=>?_)
   ·refine rO 6 Z (zC pK Z Z ?_)
    refine zA (zH 0 da Z Z Z Z ?_)
    refine oO 6 Z (yD Z Z aC ?_)
    refine oR 3 Z ?_
    exact kQ (hK (i+1,some l[i].2) (⟨bQ,FndO.hit hll h83⟩) ar) (eC Z (eC Z (eC Z (eC Z (eC Z (eN _))))))
   refine rO 4 Z (yD Z Z aC ?_)
   refine oR 3 Z ?_
   exact kQ (hK (i+1,o) (⟨bQ,hF.miss hll h83⟩) ar) (eC Z (eC Z (eC Z (eC Z (eC Z (eN _))))))
  obtain rfl:i=nbs.length:=by omega
  rw [hnl,List.take_length]at hF
  refine rO 8 Z (tT fy Z Z ?_)
  refine zY (zU Z (fun h117=>?_) (fun h117=>?_))
  ·refine rO 3 Z (zW Z Z Z (ER _) cF (fun u118 D118 hv118=>?_))
   refine oR 5 Z ?_
   obtain⟨S9,v9,rfl,rfl⟩:=hv118
   obtain rfl:o=none:=by cases o with|none=>rfl|some q=>cases h117
   exact vF Tryz.results114 Z Z ⟨rfl,rfl,none,_,rfl,hF, .inr ⟨rfl,S9,v9,rfl⟩⟩ (List.Sublist.refl _) aA
  refine rR 10 Z ?_
  obtain⟨q,rfl⟩: ∃q,o=some q:=by cases o with|none=>cases h117|some q=>exact⟨q,rfl⟩
  exact vF Tryz.results114 Z Z ⟨rfl,rfl,some q,_,rfl,hF, .inl ⟨rfl,rfl⟩⟩ (List.Sublist.refl _) aA
 refine xQ 4 23 Z hm aE aE (fun pq hcq hpq=>?_)
 refine vM 4 23 Z hm aE aE hcq (hprop (hpt.resolve_left h62)) (sT 0 Z (fun pl sl nbs hu=>?_))
 cases hu
 refine vS 1 Z (fun A1 c1 hx hk1 hk2=>?_)
 subst hx
 refine tL 2 Z (fun hnl=>?_)
 unfold maxLen at hk2
 refine rR 7 Z (wY Z (decide_eq_true (hpt.resolve_left h62)) ?_)
 refine rO 7 Z (zC qA Z Z ?_)
 refine zA (yT 0 di Z Z Z (xA hm) bH ?_)
 refine oK 3 [14,10,4] Z Z (rO 7 Z ?_)
 refine yM 0 ib Z Z Z (zA ?_)
 refine zX dh Z Z (oK 4 [99,4,98,97,10] Z Z ?_)
 refine xF 2 (fun(⟨i,o⟩:Nat×Option Nat)=>i≤nbs.length∧FndO (l.take i) name o) (fun(⟨i,o⟩:Nat×Option Nat)=>[(99, .int .i64 ((i:Nat):Int)),(4,oP o)]) (fun(⟨i,o⟩:Nat×Option Nat)=>nbs.length - i) (0,none) (⟨Nat.zero_le _,fun q hq=>by cases hq⟩) (eC Z (eC Z (eN _))) ?_ (eC Z (eC Z (eC Z (eN _))))
 intro ⟨i,o⟩ hI K hK1
 change Run _ _ _ _ _ [(99,_),(4,_),(98,_),(97,_),(10,_)] (_) (_)
 obtain⟨hi,hF⟩:=hI
 refine rO 3 Z (yK Z Z Z ?_)
 refine oR 2 Z (zK Z (fun h100=>?_) (fun h100=>?_))
 ·refine rO 6 Z ?_
  have hlt:i<nbs.length:=h100
  have hll:i<l.length:=by omega
  refine wO 1 dh Z Z Z Z hlt (pN 2 i Z (List.getElem?_eq_getElem hll) (List.getElem?_eq_getElem hlt) (fun hks=>?_))
  refine zA (yE j9 Z Z (fun _ h=>vJ h (j:=2) Z (List.getElem?_eq_getElem hlt)) ?_)
  refine oR 4 Z (yX yI ?_)
  refine zS (tP 0 Z br (zZ Z) ?_)
  refine tP 1 Z br (yV Z) (tP 2 Z br (yA i5 Z) ?_)
  refine tP 4 Z br (zZ Z) (yH ?_)
  refine tM 3 Z br (vX 0 cv Z Z Z) (tM 5 Z br (tF (i:=2) 5 cG Z Z Z aJ) ?_)
  refine tM 6 Z br (wL cv Z (fun _ h=>xK h (j:=5) (i:=2) Z Z)) (tM 7 Z br (pF Z Z) ?_)
  refine yG aD (rK 0 [110,16,99,4,98,97,10] Z Z ?_)
  refine zK Z (fun h110=>?_) (fun h110=>?_)
  ·refine rO 6 Z (zC pK Z Z ?_)
   refine zA (zH 0 da Z Z Z Z ?_)
   refine oO 6 Z (yD Z Z aC ?_)
   refine oR 3 Z ?_
   exact kQ (hK1 (i+1,some l[i].2) (⟨bQ,FndO.hit hll h110⟩) ar) (eC Z (eC Z (eC Z (eC Z (eC Z (eN _))))))
  refine rO 4 Z (yD Z Z aC ?_)
  refine oR 3 Z ?_
  exact kQ (hK1 (i+1,o) (⟨bQ,hF.miss hll h110⟩) ar) (eC Z (eC Z (eC Z (eC Z (eC Z (eN _))))))
 obtain rfl:i=nbs.length:=by omega
 rw [hnl,List.take_length]at hF
 refine rO 8 Z (tT fy Z Z ?_)
 refine zY (zU Z (fun h117=>?_) (fun h117=>?_))
 ·refine rO 3 Z (zW Z Z Z (ER _) cF (fun u118 D118 hv118=>?_))
  refine oR 5 Z ?_
  obtain⟨S9,v9,rfl,rfl⟩:=hv118
  obtain rfl:o=none:=by cases o with|none=>rfl|some q=>cases h117
  exact vF Tryz.results114 Z Z ⟨rfl,rfl,none,_,rfl,hF, .inr ⟨rfl,S9,v9,rfl⟩⟩ (List.Sublist.refl _) aA
 refine rR 10 Z ?_
 obtain⟨q,rfl⟩: ∃q,o=some q:=by cases o with|none=>cases h117|some q=>exact⟨q,rfl⟩
 exact vF Tryz.results114 Z Z ⟨rfl,rfl,some q,_,rfl,hF, .inl ⟨rfl,rfl⟩⟩ (List.Sublist.refl _) aA
end Go.Jw

namespace Go.Jw
open Go Go.RowKit Go.Proofs
theorem G4{U:Nat→V→Prop}{v idv:V}{f:Flds}(h:FldRel U v 2 (f 2))(hg:getV v kId=some idv):f 2=some (.text idv.text):=by
  cases hf:f 2 with
  |none=>rw [hf]at h;have:=h kId aD;rw [this]at hg;cases hg
  |some fv=>
    rw [hf]at h
    obtain⟨key,x,hk,hx,hr⟩:=h
    obtain rfl:=Gt hk kId aD aE
    rw [hx]at hg
    cases hg
    rw [gm hr]
theorem xd{U:Nat→V→Prop}{v x:V}{f:Flds}{key:ByteArray}{q:Nat}(h:FldRel U v q (f q))(hk:cE key=q)(h0:q≠0)(h9:cU q=9)(hg:getV v key=some x): ∃l ps,f q=some (.named l)∧ps.Perm (x.keys.zip x.items)∧All2 (fun(q:ByteArray×Nat) (p:ByteArray×V)=>q.1=p.1∧U q.2 p.2) l ps:=by
  cases hf:f q with
  |none=>rw [hf]at h;have:=h key hk;rw [this]at hg;cases hg
  |some fv=>
    rw [hf]at h
    obtain⟨key',x',hk',hx,hr⟩:=h
    obtain rfl:=Gt hk' key hk h0
    rw [hx]at hg
    cases hg
    rw [h9]at hr
    obtain⟨l,ps,rfl,h1,h2⟩:=Bz hr
    exact⟨l,ps,rfl,h1,h2⟩
theorem rt{v:V}(h: ∀ z∈kidsV v,d4 z):nD v:=fun j k u hk hu z hz=>h z (by
 unfold kidsV
 rw [List.mem_flatMap]
 refine⟨(k,u),?_,hz⟩
 have:(v.keys.zip v.items)[j]? =some (k,u):=by rw [List.getElem?_zip_eq_some];exact⟨hk,hu⟩
 exact List.mem_of_getElem? this)
theorem zn(v:V):cu (fun z=> ¬ uo z) v→d4 v:=by
  refine V.indS (p:=fun v=>cu (fun z=> ¬ uo z) v→d4 v) (fun v IH h=>?_) v
  obtain⟨h1,h2⟩:=(vN _ _).1 h
  refine(noId_iff v).2 ⟨?_,rt fun z hz=>IH z (wP hz) (h2 z hz)⟩
  cases hg:getV v kId with
  |none=>rfl
  |some a=>exact absurd (.inl (by rw [hg];rfl)) h1
theorem zo{v:V}(h:IsRootV v):nD v:=rt fun z hz=>zn z (h.2.2.2 z hz)
theorem xf{v:V}(h:IsRootV v): ∃idv,getV v kId=some idv∧JJ idv.text:=by
  cases hg:getV v kId with
  |none=>have:=h.1;unfold eF at this;rw [hg]at this;exact absurd this aE
  |some idv=>
    have e:eF v=idv.text:=by unfold eF;rw [hg];rfl
    refine⟨idv,rfl,?_⟩
    have h1:=h.1;have h2:=h.2.1;have h3:=h.2.2.1
    rw [e]at h1 h2 h3
    exact⟨h1,h2,h3⟩
theorem ru{v:V}(hs:IsShape v)(hp:Pl v):eF (bx v)=eF v:=by
  unfold eF
  rw [rI hs hp,if_pos aD]
  cases getV v kId with
  |none=>rfl
  |some a=>rfl
theorem qR{id ref:ByteArray}{p:ByteArray×ByteArray}(h:dd id ref=some p):Gy ref p.1 p.2∧(p.1=kHash∨p.1=id)∧(p.2=kDefs∨p.2=kProps):=by
 have h1:=List.find?_some h
 have h2:=List.mem_of_find?_eq_some h
 refine⟨yP.1 h1,?_⟩
 simp only [mP,List.mem_cons,List.not_mem_nil,or_false]at h2
 rcases h2 with rfl|rfl|rfl|rfl<;>simp
theorem ES{v:V}{ref:ByteArray}{p:ByteArray×ByteArray}(hp:Pl v)(hr:IsRootV v)(h:dd (eF v) ref=some p): ∃idv p0 rest,getV v kId=some idv∧p0.size≤1000∧rest.size≤ref.size∧(∀ l,rp 35 ref l→l=[p0,rest])∧(∀ l,rp 47 rest l→l=[⟨#[]⟩,p.2,mY ref p.1 p.2])∧
  (p0++(⟨#[35]⟩:ByteArray)=⟨#[35]⟩∨(p0++(⟨#[35]⟩:ByteArray)=idv.text∧ ¬ idv.text=(⟨#[35]⟩:ByteArray))):=by
 obtain⟨hm,hb,hpt⟩:=qR h
 obtain⟨idv,hid,hok⟩:=xf hr
 have e:eF v=idv.text:=by unfold eF;rw [hid];rfl
 obtain⟨q1,q2⟩:=uq hok
 obtain⟨p0,e1,e2,e3,e4⟩: ∃p0:ByteArray,bl p.1=bl p0++[35]∧(35:UInt8)∉bl p0∧p0.size≤1000∧(p0++(⟨#[35]⟩:ByteArray)=⟨#[35]⟩∨(p0++(⟨#[35]⟩:ByteArray)=idv.text∧ ¬ idv.text=(⟨#[35]⟩:ByteArray))):=by
  rcases hb with h|h
  ·exact⟨⟨#[]⟩,by rw [h];rfl,by decide,by decide, .inl (oh (by rw [fG];rfl))⟩
  ·rw [e]at h
   refine⟨idv.text.extract 0 (idv.text.size - 1),by rw [h];exact q1,q2,?_, .inr ⟨CU q1,fun e=>?_⟩⟩
   ·have:=lG (hp.item _ (uG hid))
    rw [ByteArray.size_extract]
    omega
   ·have:=hok.1
    rw [e]at this
    exact absurd this aE
 obtain⟨rest,h1,h2,h3⟩:=zm hm e1 e2 hpt
 exact⟨idv,p0,rest,hid,e3,h3,h1,h2,e4⟩
theorem G5{U:Nat→V→Prop}{v x:V}{f:Flds}{part:ByteArray}(h: ∀ i,1≤i→i≤36→FldRel U v i (f i))(hpt:part=kDefs∨part=kProps)(hx:getV v part=some x): ∃l ps,(part=kDefs→f 32=some (.named l))∧(part=kProps→f 23=some (.named l))∧ps.Perm (x.keys.zip x.items)∧All2 (fun(q:ByteArray×Nat) (p:ByteArray×V)=>q.1=p.1∧U q.2 p.2) l ps:=by
  rcases hpt with rfl|rfl
  · obtain⟨l,ps,h1,h2,h3⟩:=xd (h 32 aE aE) aD aE aE hx
    exact⟨l,ps,fun _=>h1,fun e=>absurd e aE,h2,h3⟩
  · obtain⟨l,ps,h1,h2,h3⟩:=xd (h 23 aE aE) aD aE aE hx
    exact⟨l,ps,fun e=>absurd e aE,fun _=>h1,h2,h3⟩
theorem xg{part:ByteArray}(h:part=kDefs∨part=kProps):bw part=9:=by
 rcases h with rfl|rfl<;>decide+kernel
end Go.Jw

namespace Go.Jw
open Go Go.RowKit Go.Proofs
set_option maxRecDepth 8000
theorem LH(mb b ck:Nat)(G:Gr)(cs:List Value)(f:Flds)(idt ref p0 rest part name:ByteArray)(l:List (ByteArray×Nat))(hm:(b,cs,f)∈G)(hid:f 2=some (.text idt))(hr1:ref.size≤2147483648)(hr2:rest.size≤2147483648)(hp0:p0.size≤1000)(hsp: ∀ l,rp 35 ref l→l=[p0,rest])(hsp2: ∀ l,rp 47 rest l→l=[⟨#[]⟩,part,name])(hpt:part=kDefs∨part=kProps)(hdef:part=kDefs→f 32=some (.named l))(hprop:part=kProps→f 23=some (.named l))(hcase:p0++(⟨#[35]⟩:ByteArray)=⟨#[35]⟩∨(p0++(⟨#[35]⟩:ByteArray)=idt∧ ¬ idt=(⟨#[35]⟩:ByteArray))):Ct Tryz.prog 114 #[cD b, .string ref] [.many 124 (Gr.blks G),HA.obj mb (.map #[{key:= .string idt,val:=cD b,born:=0}] ck)] [.graph mb G] (fun u M' D'=>M'=[.many 124 (Gr.blks G),HA.obj mb (.map #[{key:= .string idt,val:=cD b,born:=0}] ck)]∧D'=[.graph mb G]∧ ∃o er,u= .tuple #[oP o,er]∧FndO l name o∧((o.isSome=true∧er= .nilIface)∨(o=none∧ ∃S v,er= .iface S v))):=
 hcase.elim (fun h=>JK mb b ck G cs f idt ref p0 rest part name l hm hid hr1 hr2 hp0 hsp hsp2 hpt hdef hprop h) (fun h=>JL mb b ck G cs f idt ref p0 rest part name l hm hid hr1 hr2 hp0 hsp hsp2 hpt hdef hprop h.1 h.2)
section rules
variable {P:Program} {n:Nat} {F:List Nat} {c:Ctx F} {ops:Array Oper} {d:Nat} {T:TypeId} {l:List Oper} {k:List KI} {Q:Post} {e:cp} {M:List HA} {D:List DA}
end rules

def G6(v:V):Prop:=Hp (v.keys.zip v.items)∧v.keys.length=v.items.length
theorem ET{l:kT}(h:Hp l):G6 (ox l):=⟨by rw [ob];exact h,by simp [ox,V.keys,V.items]⟩
theorem EU{v:V}(hp:Pl v)(hk:v.kind=5):G6 v:=⟨ul (hp.keys hk) _,(rY hp hk).2.1⟩
theorem zp{v:V}(hv:G6 v)(hk:v.kind=5)(h: ∀ key x,(key,x)∈v.keys.zip v.items→FitLoc (bw key) x∧(∀ z∈kidsOf (bw key) x,IsShape z)∧(key=kId→ ∃u,getV v cz=some u∧dB u.text)):IsShape v:=by
 refine(xX v).2 ⟨hk,fun j k x hj hx=>h k x ?_⟩
 refine List.mem_of_getElem? (i:=j) ?_
 rw [List.getElem?_zip_eq_some]
 exact⟨hj,hx⟩


abbrev mT:ByteArray:=⟨#[111,98,106,101,99,116]⟩
def cI(z:V):Prop:=(getV z k3).isSome=true
noncomputable def refT(z:V):ByteArray:=((getV z k3).getD zV).text
def eE(t:V)(name:ByteArray):Prop:=(((getV t k27).getD zV).kind=3∧((getV t k27).getD zV).text=name)∨(((getV t k27).getD zV).kind≠3∧ ∃y∈((getV t k27).getD zV).items,y.text=name)
def dC(t:V):Prop:=eE t mT∨(getV t dg).isSome=true
def jX(t:V):Prop:= ¬ cu (fun z=> ¬ (getV z dg).isSome=true) t∨(getV t Hn).isSome=true
noncomputable def kp(z:V):V:=if z.kind=5 then z else ox []
theorem ol(z:V):(kp z).kind=5:=by
 unfold kp
 split
 ·assumption
 ·rfl
theorem jY{z:V}(h:z.kind=5):kp z=z:=if_pos h
noncomputable def de(g:ByteArray→V→V)(v:V):V:=ox ((v.keys.zip v.items).map fun p=>(p.1,cA (bw p.1) (g p.1) p.2))
open Classical in
noncomputable def cQ(w:V):Nat→Bool→V→V
  |0,_,z=>kp z
  |n+1,one,z=>if cI z then(match PtV w (refT z)with
      |none=>kp z
      |some t=>if one=true∨dC t then kp z else cQ w n false t)
    else de (fun key=>cQ w n (decide (key=dg))) z
def co(w:V):Nat→Bool→V→Prop
  |0,_,_=>False
  |n+1,one,z=>(cI z→z.keys.length=1∧ ∃t,PtV w (refT z)=some t∧(one=true∨dC t∨(¬ dC t∧ ¬ jX t∧co w n false t)))∧
      (¬ cI z→ ∀ p∈z.keys.zip z.items,∀ y∈kidsOf (bw p.1) p.2,co w n (decide (p.1=dg)) y)
theorem uV{w z t:V}{n:Nat}{one:Bool}(h:cI z)(ht:PtV w (refT z)=some t)(hk:one=true∨dC t):cQ w (n+1) one z=kp z:=by
 rw [cQ,if_pos h,ht]
 exact if_pos hk
theorem pS{w z t:V}{n:Nat}{one:Bool}(h:cI z)(ht:PtV w (refT z)=some t)(hk: ¬ (one=true∨dC t)):cQ w (n+1) one z=cQ w n false t:=by
 rw [cQ,if_pos h,ht]
 exact if_neg hk
theorem rJ{w z:V}{n:Nat}{one:Bool}(h: ¬ cI z):cQ w (n+1) one z=de (fun key=>cQ w n (decide (key=dg))) z:=by
 rw [cQ,if_neg h]
theorem gT{w:V}: ∀ (n:Nat) (one:Bool) (z:V),(cQ w n one z).kind=5
  |0,one,z=>ol z
  |n+1,one,z=>by
    by_cases h:cI z
    · cases ht:PtV w (refT z)with
      |none=>rw [cQ,if_pos h,ht];exact ol z
      |some t=>
        by_cases hk:one=true∨dC t
        · rw [uV h ht hk];exact ol z
        · rw [pS h ht hk];exact gT n false t
    · rw [rJ h];rfl
theorem gy{g g':V→V}{sh:Int}{x:V}(h: ∀ y∈kidsOf sh x,g y=g' y):cA sh g x=cA sh g' x:=by
 have al:(∀ y∈x.items.filter (fun y=>decide (y.kind=5)),g y=g' y)→cL g x=cL g' x:=fun h=>by
  unfold cL
  congr 1
  refine List.map_congr_left fun y hy=>?_
  by_cases hk:y.kind=5
  ·rw [xY hk,xY hk]
   exact h y (List.mem_filter.2 ⟨hy,decide_eq_true hk⟩)
  ·rw [vW hk,vW hk]
 unfold cA
 unfold kidsOf at h
 split
 ·rename_i h5;rw [if_pos h5]at h;exact h x (List.mem_singleton.2 rfl)
 rename_i h5;rw [if_neg h5]at h
 split
 ·rename_i h6
  rw [if_pos h6]at h
  split
  ·rename_i hk;rw [if_pos hk]at h;exact h x (List.mem_singleton.2 rfl)
  ·rfl
 rename_i h6;rw [if_neg h6]at h
 split
 ·rename_i h7
  rw [if_pos h7]at h
  split
  ·rename_i hk;rw [if_pos hk]at h;exact h x (List.mem_singleton.2 rfl)
  ·rename_i hk;rw [if_neg hk]at h;exact al h
 rename_i h7;rw [if_neg h7]at h
 split
 ·rename_i h9;rw [if_pos h9]at h;exact al h
 ·rfl
theorem fH{w:V}: ∀ {n m:Nat} {one:Bool} {z:V},co w n one z→n≤m→co w m one z∧cQ w m one z=cQ w n one z:=by
  intro n
  induction n with
  |zero=>intro m one z h;exact h.elim
  |succ n ih=>
    intro m one z h hm
    obtain⟨m,rfl⟩: ∃q,m=q+1:=⟨m - 1,aC⟩
    have hm':n≤m:=by omega
    by_cases hr:cI z
    · obtain⟨h1,t,ht,hc⟩:=h.1 hr
      by_cases hk:one=true∨dC t
      · exact⟨⟨fun _=>⟨h1,t,ht,hk.imp id .inl⟩,fun h=>absurd hr h⟩,by rw [uV hr ht hk,uV hr ht hk]⟩
      · have hg: ¬ dC t∧ ¬ jX t∧co w n false t:=by
          rcases hc with e|e|e
          · exact absurd (.inl e) hk
          · exact absurd (.inr e) hk
          · exact e
        have:=ih hg.2.2 hm'
        exact⟨⟨fun _=>⟨h1,t,ht, .inr (.inr ⟨hg.1,hg.2.1,this.1⟩)⟩,fun h=>absurd hr h⟩,by rw [pS hr ht hk,pS hr ht hk];exact this.2⟩
    · have h2:=h.2 hr
      refine⟨⟨fun h=>absurd h hr,fun _ p hp y hy=>(ih (h2 p hp y hy) hm').1⟩,?_⟩
      rw [rJ hr,rJ hr]
      unfold de
      congr 1
      refine List.map_congr_left fun p hp=>?_
      exact congrArg _ (gy fun y hy=>(ih (h2 p hp y hy) hm').2)
theorem sM{v:V}(h:v.keys.length≤v.items.length)(g:ByteArray→V→V)(k:ByteArray):getV (de g v) k=(getV v k).map (cA (bw k) (g k)):=by
 rw [de,CE,lF h,CD (v.keys.zip v.items) (fun k=>cA (bw k) (g k)) k]
theorem ur{U U':Nat→V→Prop}{g:ByteArray→V→V}(hg: ∀ k z,(g k z).kind=5){v:V}(hv:dc v){i:Nat}{f:Flds}(h1:1≤i)(h2:i≤36)(h: ∀ c z key x,cE key=i→getV v key=some x→z∈kidsOf (bw key) x→i∈c7→c∈cH f i→U c z→U' c (g key z))(hf:FldRel U v i (f i)):FldRel U' (de g v) i (f i):=by
  cases hfi:f i with
  |none=>
    rw [hfi]at hf
    intro key hkw
    rw [sM hv.1.wf.le,hf key hkw];rfl
  |some fv=>
    rw [hfi]at hf
    obtain⟨key,x,hkw,hx,hr⟩:=hf
    have hsh:=fE hkw aC
    refine⟨key,cA (bw key) (g key) x,hkw,by rw [sM hv.1.wf.le,hx];rfl,?_⟩
    have hfit:=(vC hv.2 hx).1
    have hz: ∀ z,z∈kidsOf (cU i) x→z∈kidsOf (bw key) x:=fun z h=>by rw [hsh];exact h
    rw [hsh]at hfit⊢
    exact FvRel.turn (hg key) hfit (fun c z hc hz' hu=>h c z key x hkw hx (hz z hz') (w2 h1 h2 hr hc) (by unfold cH;rw [hfi];exact hc) hu) hr
structure RX where
 σ:ce
 w:V
 b:Nat
 f:Flds
 hw:dc w
 hu:fF σ w b
 hf:σ b=some f
 hr: ¬ cI w
inductive RX.RS (c:RX):Bool→Nat→Prop where
  |top:RS c false c.b
  |kid {one:Bool} {d i e:Nat} {f:Flds} (h:RS c one d) (hf:c.σ d=some f) (hi:i∈c7) (he:e∈cH f i):RS c (decide (i=30)) e
def RX.One(c:RX):Prop:= ∀ d,c.RS true d→ ¬ c.RS false d
def RX.Tgt(c:RX)(ref:ByteArray)(t:Nat):Prop:= ∃p l,dd (eF c.w) ref=some p∧c.f (if p.2=kDefs then 32 else 23)=some (.named l)∧ ∃q∈l,q.1=mY ref p.1 p.2∧q.2=t
def dY(f:Flds):Prop:=(f 27=some (.tyS mT)∨ ∃l,f 27=some (.tyL l)∧mT∈l)∨f 30≠none∨f 22≠none
def RX.Lnk(c:RX)(d t:Nat):Prop:= ∃f ref g,c.σ d=some f∧f 3=some (.text ref)∧c.Tgt ref t∧c.σ t=some g∧ ¬ dY g
def Eqv(f g:Flds):Prop:= ∀ i,1≤i→i≤36→f i=g i
theorem Eqv.kids{f g:Flds}(h:Eqv f g){i:Nat}(hi:i∈c7):cH f i=cH g i:=by
 have:=tW i hi
 unfold cH
 rw [h i this.1 this.2]
theorem Eqv.ft{f g:Flds}(h:Eqv f g)(hg:FT g):FT f:=fun i fv h1 h2 hf=>hg i fv h1 h2 (by rw [←h i h1 h2];exact hf)
theorem Eqv.keep{f g:Flds}(h:Eqv f g):dY f↔dY g:=by
 unfold dY
 rw [h 27 aE aE,h 30 aE aE,h 22 aE aE]
theorem CV{σ:ce}{z:V}{d e:Nat}{f g:Flds}(hd:σ d=some f)(he:σ e=some g)(h:Eqv f g)(hu:fF σ z e):fF σ z d:=by
 obtain⟨g',h1,h2⟩:=(wC _ _ _).1 hu
 obtain rfl:g'=g:=by rw [he]at h1;exact(Option.some.inj h1).symm
 exact(wC _ _ _).2 ⟨f,hd,fun i hi hj=>by rw [h i hi hj];exact h2 i hi hj⟩
theorem lH{U:Nat→V→Prop}{z:V}{o:Option FVal}(h:FldRel U z 3 o):(cI z→o=some (.text (refT z)))∧(¬ cI z→o=none):=by
  cases o with
  |none=>
    have hn:getV z k3=none:=h k3 aD
    refine⟨fun hr=>?_,fun _=>rfl⟩
    unfold cI at hr
    rw [hn]at hr
    cases hr
  |some fv=>
    obtain⟨key,x,hk,hg,hF⟩:=h
    obtain rfl:=Gt hk k3 aD aE
    refine⟨fun _=>?_,fun hr=>absurd (by unfold cI;rw [hg];rfl) hr⟩
    unfold refT
    rw [hg]
    exact congrArg some (gm hF)
theorem jx{z x:V}{key:ByteArray}(hz:dc z)(h1:z.keys.length=1)(hr:cI z)(hg:getV z key=some x):key=k3:=by
  have hm: ∀ k y,getV z k=some y→k∈z.keys:=fun k y h=>(List.of_mem_zip ((yJ hz.1 hz.2.kind).2 h)).1
  obtain⟨y,hy⟩:=Option.isSome_iff_exists.1 hr
  have a:=hm _ _ hg
  have b:=hm _ _ hy
  match hk:z.keys,h1 with
  |[k],_=>
    rw [hk]at a b
    rw [List.mem_singleton.1 a,List.mem_singleton.1 b]
theorem fa{U:Nat→V→Prop}{z:V}{f:Flds}(hz:dc z)(h1:z.keys.length=1)(hr:cI z)(hU: ∀ i,1≤i→i≤36→FldRel U z i (f i)): ∀ i,1≤i→i≤36→i≠3→f i=none:=by
  intro i hi hj h3
  cases hf:f i with
  |none=>rfl
  |some fv=>
    have:=hU i hi hj
    rw [hf]at this
    obtain⟨key,x,hk,hg,_⟩:=this
    rw [jx hz h1 hr hg]at hk
    exact absurd (hk.symm.trans (by decide+kernel:cE k3=3)) h3
theorem CW{key:ByteArray}{i:Nat}(h:cE key=i)(hi:i∈c7):decide (key=dg)=decide (i=30):=by
 by_cases e:i=30
 ·rw [decide_eq_true e,decide_eq_true (Gt (h.trans e) dg aD aE)]
 ·rw [decide_eq_false e,decide_eq_false (fun ek=>e (by rw [←h,ek];decide+kernel))]
section
variable {c:RX}
theorem RX.told0{N:Nat}(ht:co c.w N false c.w){one:Bool}{d:Nat}(h:c.RS one d): ∃n z,n≤N∧dc z∧fF c.σ z d∧co c.w n one z:=by
  induction h with
  |top=>exact⟨N,c.w,Nat.le_refl _,c.hw,c.hu,ht⟩
  | @kid one d i e f h hf hi he ih=>
    obtain⟨n,z,hnN,hz,hu,hn⟩:=ih
    obtain⟨f',h1,hU⟩:=(wC _ _ _).1 hu
    obtain rfl:f'=f:=by rw [hf]at h1;exact(Option.some.inj h1).symm
    have hle:=tW i hi
    cases n with
    |zero=>exact hn.elim
    |succ n=>
      by_cases hr:cI z
      · have:=fa hz (hn.1 hr).1 hr hU i hle.1 hle.2 (fun e=>by subst e;exact absurd hi aE)
        unfold cH at he
        rw [this]at he
        cases he
      · have hFi:=hU i hle.1 hle.2
        unfold cH at he
        cases hfi:f' i with
        |none=>rw [hfi]at he;cases he
        |some fv=>
          rw [hfi]at hFi he
          obtain⟨key,x,hk,hg,hF⟩:=hFi
          have hsh:=fE hk aC
          have hfit:=(vC hz.2 hg).1
          rw [hsh]at hfit
          obtain⟨y,hy,hue⟩:=hF.kid hfit he
          rw [←hsh]at hy
          have:=hn.2 hr (key,x) ((yJ hz.1 hz.2.kind).2 hg) y hy
          rw [CW hk hi]at this
          have hkid:=wI hz.1 hz.2.kind hg hy
          exact⟨n,y,aC,⟨vD hz.1 hkid,xO hz.1 hz.2 hkid⟩,hue,this⟩
theorem RX.told{N:Nat}(ht:co c.w N false c.w){one:Bool}{d:Nat}(h:c.RS one d): ∃n z,dc z∧fF c.σ z d∧co c.w n one z:=by
 obtain⟨n,z,_,h1⟩:=c.told0 ht h
 exact⟨n,z,h1⟩
theorem RX.tgt{ref:ByteArray}{tz:V}(h:PtV c.w ref=some tz): ∃t,c.Tgt ref t∧fF c.σ tz t∧c.RS false t∧dc tz:=by
  unfold PtV at h
  cases hh:dd (eF c.w) ref with
  |none=>rw [hh]at h;cases h
  |some p=>
    rw [hh,Option.bind_some]at h
    cases ha:getV c.w p.2 with
    |none=>rw [ha]at h;cases h
    |some all=>
      rw [ha,Option.bind_some]at h
      obtain⟨f',h1,hU⟩:=(wC _ _ _).1 c.hu
      obtain rfl:f'=c.f:=by have:=c.hf;rw [h1]at this;exact Option.some.inj this
      have hpt:=(qR hh).2.2
      obtain⟨l,ps,hd,hpp,hperm,hall⟩:=G5 hU hpt ha
      have h9:=xg hpt
      obtain⟨hpa,hk5,hit⟩:=mI c.hw.2 c.hw.1 h9 ha
      have hm:=hperm.mem_iff.2 ((yJ hpa hk5).2 h)
      obtain⟨i,hi,he⟩:=List.getElem_of_mem hm
      have hil:i<l.length:=by rw [hall.1];exact hi
      have hq:=hall.2 i _ _ (List.getElem?_eq_getElem hil) (List.getElem?_eq_getElem hi)
      rw [he]at hq
      have hsz:=hit tz (uG h)
      have hfq:c.f (if p.2=kDefs then 32 else 23)=some (FVal.named l):=by
        split
        · rename_i e;exact hd e
        · rename_i e;exact hpp (hpt.resolve_left e)
      refine⟨l[i].2,⟨p,l,hh,hfq,l[i],List.getElem_mem hil,hq.1,rfl⟩,hq.2,?_,hsz.2.2,hsz.2.1⟩
      have hmem:l[i].2∈cH c.f (if p.2=kDefs then 32 else 23):=by
        unfold cH
        rw [hfq]
        exact List.mem_map.2 ⟨l[i],List.getElem_mem hil,rfl⟩
      have:=RX.RS.kid (c:=c) .top h1 (i:=if p.2=kDefs then 32 else 23) (by split<;>decide) hmem
      have e:decide ((if p.2=kDefs then 32 else 23)=30)=false:=by split<;>rfl
      rw [e]at this
      exact this
theorem EW{α β:Type}{g:α→β}{l:List α}(h:(l.map g).Nodup){a b:α}(ha:a∈l)(hb:b∈l)(e:g a=g b):a=b:=by
  induction l with
  |nil=>cases ha
  |cons x l ih=>
    rw [List.map_cons,List.nodup_cons]at h
    rcases List.mem_cons.1 ha with ea|ha2
    · rcases List.mem_cons.1 hb with eb|hb2
      · exact ea.trans eb.symm
      · exact(h.1 (List.mem_map.2 ⟨b,hb2,by rw [←e,ea]⟩)).elim
    · rcases List.mem_cons.1 hb with eb|hb2
      · exact(h.1 (List.mem_map.2 ⟨a,ha2,by rw [e,eb]⟩)).elim
      · exact ih h.2 ha2 hb2
theorem RX.tgt_fun{ref:ByteArray}{t t':Nat}(h:c.Tgt ref t)(h':c.Tgt ref t'):t=t':=by
 obtain⟨p,l,h1,h2,q,hq,hn,rfl⟩:=h
 obtain⟨p',l',h1',h2',q',hq',hn',rfl⟩:=h'
 rw [h1]at h1'
 cases h1'
 rw [h2]at h2'
 cases h2'
 obtain⟨f',e1,hU⟩:=(wC _ _ _).1 c.hu
 obtain rfl:f'=c.f:=by have:=c.hf;rw [e1]at this;exact Option.some.inj this
 have hsplit: ∀ i,1≤i→i≤36→cU i=9→c.f i=some (FVal.named l)→q=q':=fun i hi hj h9 hf=>by
  have:=hU i hi hj
  rw [hf]at this
  obtain⟨key,x,hk,hg,hF⟩:=this
  rw [h9]at hF
  obtain⟨_,ps,hp,hA⟩:=hF
  have hsub:=mI c.hw.2 c.hw.1 (by rw [fE hk aC];exact h9) hg
  have hnd:(l.map (·.1)).Nodup:=by
   have e:l.map (·.1)=ps.map (·.1):=hA.map_eq (fun a b _ _ h=>h.1)
   rw [e]
   exact((hp.map _).nodup_iff).2 (map_fst_zip' (CH hsub.1 hsub.2.1))
  exact EW hnd hq hq' (hn.trans hn'.symm)
 split at h2
 ·rw [hsplit 32 aE aE aE h2]
 ·rw [hsplit 23 aE aE aE h2]
theorem RX.lnk_fun{d t t':Nat}(h:c.Lnk d t)(h':c.Lnk d t'):t=t':=by
 obtain⟨f,ref,g,h1,h2,h3,_⟩:=h
 obtain⟨f',ref',g',h1',h2',h3',_⟩:=h'
 rw [h1]at h1'
 cases h1'
 rw [h2]at h2'
 cases h2'
 exact c.tgt_fun h3 h3'
theorem mU{U:Nat→V→Prop}{z:V}{f:Flds}(hU: ∀ i,1≤i→i≤36→FldRel U z i (f i)):dY f↔dC z∨(getV z Hn).isSome=true:=by
  have some_iff: ∀ i key,1≤i→i≤36→cE key=i→(f i≠none↔(getV z key).isSome=true):=fun i key hi hj hk=>by
    have:=hU i hi hj
    cases hf:f i with
    |none=>rw [hf]at this;rw [this key hk];simp
    |some fv=>
      rw [hf]at this
      obtain⟨key',x,hk',hg,_⟩:=this
      obtain rfl:=Gt hk' key hk aC
      rw [hg]
      simp
  have h27:(f 27=some (.tyS mT)∨ ∃l,f 27=some (.tyL l)∧mT∈l)↔eE z mT:=by
    have:=hU 27 aE aE
    unfold eE
    cases hf:f 27 with
    |none=>
      rw [hf]at this
      rw [this k27 aD]
      constructor
      · rintro (h|⟨l,h,_⟩)<;>cases h
      · rintro (h|⟨_,y,hy,_⟩)
        · exact absurd h.1 aE
        · cases hy
    |some fv=>
      rw [hf]at this
      obtain⟨key,x,hk,hg,hF⟩:=this
      obtain rfl:=Gt hk k27 aD aE
      rw [hg]
      show _↔(x.kind=3∧x.text=mT)∨(x.kind≠3∧ ∃y∈x.items,y.text=mT)
      have hF:FvRel U 12 x fv:=hF
      cases fv with
      |tyS s=>
        obtain⟨_,h3,rfl⟩:=hF
        constructor
        · rintro (h|⟨l,h,_⟩)
          · injection h with h;injection h with h;exact .inl ⟨h3,h⟩
          · cases h
        · rintro (h|h)
          · rw [h.2];exact .inl rfl
          · exact absurd h3 h.1
      |tyL l=>
        obtain⟨_,h4,rfl⟩:=hF
        constructor
        · rintro (h|⟨l,h,hm⟩)
          · cases h
          · injection h with h
            injection h with h
            rw [←h]at hm
            obtain⟨y,hy,hyt⟩:=List.mem_map.1 hm
            exact .inr ⟨aC,y,hy,hyt⟩
        · rintro (h|⟨_,y,hy,hyt⟩)
          · omega
          · exact .inr ⟨_,rfl,List.mem_map.2 ⟨y,hy,hyt⟩⟩
      |_=>simp [FvRel]at hF
  unfold dY dC
  rw [h27,some_iff 30 dg aE aE aD,some_iff 22 Hn aE aE aD,or_assoc]
inductive RX.Ch (c:RX):Nat→Nat→Prop where
  |refl (d:Nat):Ch c d d
  |step {d t e:Nat} (h:c.Lnk d t) (k:Ch c t e):Ch c d e
theorem RX.Ch.trans{a b d:Nat}(h:c.Ch a b)(k:c.Ch b d):c.Ch a d:=by
  induction h with
  |refl=>exact k
  |step h1 _ ih=>exact .step h1 (ih k)
theorem RX.Ch.stay{d e:Nat}(h:c.Ch d e)(hn: ∀ t,¬ c.Lnk d t):e=d:=by
  cases h with
  |refl=>rfl
  |step h1 _=>exact absurd h1 (hn _)
theorem RX.refs{N:Nat}(ht:co c.w N false c.w){one:Bool}{d:Nat}{f:Flds}{ref:ByteArray}(h:c.RS one d)(hf:c.σ d=some f)(hr:f 3=some (.text ref)):
    (∀ i,1≤i→i≤36→i≠3→f i=none)∧ ∃t tz,PtV c.w ref=some tz∧c.Tgt ref t∧fF c.σ tz t∧c.RS false t∧dc tz:=by
  obtain⟨n,z,hz,hu,hn⟩:=c.told ht h
  obtain⟨f',h1,hU⟩:=(wC _ _ _).1 hu
  obtain rfl:f'=f:=by rw [hf]at h1;exact(Option.some.inj h1).symm
  cases n with
  |zero=>exact hn.elim
  |succ n=>
    have h3:=lH (hU 3 aE aE)
    by_cases hz3:cI z
    · have e:=h3.1 hz3
      rw [hr]at e
      injection e with e
      injection e with e
      obtain⟨hl,tz,hp,_⟩:=hn.1 hz3
      rw [←e]at hp
      obtain⟨t,h4,h5,h6,h7⟩:=c.tgt hp
      exact⟨fa hz hl hz3 hU,t,tz,hp,h4,h5,h6,h7⟩
    · have e:=h3.2 hz3
      rw [hr]at e
      cases e
theorem RX.lnk_ref{d t:Nat}(h:c.Lnk d t): ∃f ref,c.σ d=some f∧f 3=some (.text ref)∧c.Tgt ref t:=by
 obtain⟨f,ref,g,h1,h2,h3,_⟩:=h
 exact⟨f,ref,h1,h2,h3⟩
theorem RX.lnk_rs{N:Nat}(ht:co c.w N false c.w){one:Bool}{d t:Nat}(hd:c.RS one d)(h:c.Lnk d t):c.RS false t:=by
 obtain⟨f,ref,h1,h2,h3⟩:=c.lnk_ref h
 obtain⟨_,t',tz,_,h4,_,h5,_⟩:=c.refs ht hd h1 h2
 rw [c.tgt_fun h3 h4]
 exact h5
theorem RX.ch_rs{N:Nat}(ht:co c.w N false c.w){d e:Nat}(h:c.Ch d e):c.RS false d→c.RS false e:=by
  induction h with
  |refl=>exact id
  |step h1 _ ih=>exact fun hd=>ih (c.lnk_rs ht hd h1)
def RX.Lv(c:RX)(n d:Nat):Prop:= ∀ one,c.RS one d→ ∃z,dc z∧fF c.σ z d∧co c.w n one z
structure RX.Mu(c:RX)(mu:Nat→Nat):Prop where
 kid: ∀ {one d f},c.RS one d→c.σ d=some f→FT f∧ ∀ i∈c7,∀ e∈cH f i,mu e<mu d
 lnk: ∀ {d t},c.RS false d→c.Lnk d t→mu t<mu d
theorem RX.mu_ex{N:Nat}(ht:co c.w N false c.w)(h1:c.One): ∃mu,c.Mu mu∧ ∀ d,mu d≤N:=by
  have flag: ∀ {o o' d},c.RS o d→c.RS o' d→o=o':=by
    intro o o' d h h'
    cases o<;>cases o'
    · rfl
    · exact absurd h (h1 d h')
    · exact absurd h' (h1 d h)
    · rfl
  have ex: ∀ d,∃m,m≤N∧ ∀ one,c.RS one d→c.Lv m d∧ ∀ k,c.Lv k d→m≤k:=by
    intro d
    by_cases hd: ∃one,c.RS one d
    · obtain⟨one,hd⟩:=hd
      obtain⟨n,z,hnN,hz,hu,hn⟩:=c.told0 ht hd
      obtain⟨m,hm,hl⟩:=ze (p:=fun n=>c.Lv n d) n (fun o ho=>by rw [flag ho hd];exact⟨z,hz,hu,hn⟩)
      exact⟨m,Nat.le_trans (hl n (fun o ho=>by rw [flag ho hd];exact⟨z,hz,hu,hn⟩)) hnN,fun _ _=>⟨hm,hl⟩⟩
    · exact⟨0,Nat.zero_le _,fun one h=>absurd ⟨one,h⟩ hd⟩
  refine⟨fun d=>(ex d).choose,⟨?_,?_⟩,fun d=>(ex d).choose_spec.1⟩
  · intro one d f hd hf
    obtain⟨hL,_⟩:=(ex d).choose_spec.2 one hd
    obtain⟨z,hz,hu,hn⟩:=hL one hd
    obtain⟨f',e1,hFT⟩:=EN hu
    obtain rfl:f'=f:=by rw [hf]at e1;exact(Option.some.inj e1).symm
    refine⟨hFT,fun i hi e he=>?_⟩
    have hrs:=RX.RS.kid hd hf hi he
    obtain⟨f2,h2,hU⟩:=(wC _ _ _).1 hu
    obtain rfl:f2=f':=by rw [hf]at h2;exact(Option.some.inj h2).symm
    have hle:=tW i hi
    show(ex e).choose<(ex d).choose
    match hm:(ex d).choose,hn with
    |0,hn=>exact hn.elim
    |n+1,hn=>
      refine Nat.lt_succ_of_le (((ex e).choose_spec.2 _ hrs).2 n fun o ho=>?_)
      rw [flag ho hrs]
      by_cases hr:cI z
      · have:=fa hz (hn.1 hr).1 hr hU i hle.1 hle.2 (fun e=>by subst e;exact absurd hi aE)
        unfold cH at he
        rw [this]at he
        cases he
      · have hFi:=hU i hle.1 hle.2
        unfold cH at he
        cases hfi:f2 i with
        |none=>rw [hfi]at he;cases he
        |some fv=>
          rw [hfi]at hFi he
          obtain⟨key,x,hk,hg,hF⟩:=hFi
          have hsh:=fE hk aC
          have hfit:=(vC hz.2 hg).1
          rw [hsh]at hfit
          obtain⟨y,hy,hue⟩:=hF.kid hfit he
          rw [←hsh]at hy
          have h5:=hn.2 hr (key,x) ((yJ hz.1 hz.2.kind).2 hg) y hy
          rw [CW hk hi]at h5
          have hkid:=wI hz.1 hz.2.kind hg hy
          exact⟨y,⟨vD hz.1 hkid,xO hz.1 hz.2 hkid⟩,hue,h5⟩
  · intro d t hd hl
    have hrt:=c.lnk_rs ht hd hl
    obtain⟨hL,_⟩:=(ex d).choose_spec.2 _ hd
    obtain⟨z,hz,hu,hn⟩:=hL _ hd
    obtain⟨f2,h2,hU⟩:=(wC _ _ _).1 hu
    obtain⟨f,ref,g,e1,e2,e3,e4,e5⟩:=hl
    obtain rfl:f2=f:=by rw [e1]at h2;exact(Option.some.inj h2).symm
    have h3:=lH (hU 3 aE aE)
    show(ex t).choose<(ex d).choose
    match hm:(ex d).choose,hn with
    |0,hn=>exact hn.elim
    |n+1,hn=>
      refine Nat.lt_succ_of_le (((ex t).choose_spec.2 _ hrt).2 n fun o ho=>?_)
      rw [flag ho hrt]
      by_cases hr:cI z
      · have e:=h3.1 hr
        rw [e2]at e
        injection e with e
        injection e with e
        obtain⟨_,tz,hp,hc⟩:=hn.1 hr
        rw [←e]at hp
        obtain⟨t',h4,h5,h6,h7⟩:=c.tgt hp
        obtain rfl:=c.tgt_fun e3 h4
        obtain⟨g',h8,hUt⟩:=(wC _ _ _).1 h5
        obtain rfl:g'=g:=by rw [e4]at h8;exact(Option.some.inj h8).symm
        have hk:=mU hUt
        rcases hc with hc|hc|hc
        · cases hc
        · exact absurd (hk.2 (.inl hc)) e5
        · exact⟨tz,h7,h5,hc.2.2⟩
      · have e:=h3.2 hr
        rw [e2]at e
        cases e
end
structure RX.Inv(c:RX)(ε:Nat→Nat)(σ:ce):Prop where
 fls: ∀ d,c.RS false d→c.Ch d (ε d)
 tru: ∀ d,c.RS true d→ε d=d
 eq: ∀ one d,c.RS one d→ ∃f g,σ d=some f∧c.σ (ε d)=some g∧Eqv f g
section
variable {c:RX} {N:Nat} {mu:Nat→Nat} {ε:Nat→Nat} {σ:ce}
theorem RX.inv0(ht:co c.w N false c.w):c.Inv id c.σ where
 fls:=fun d _=> .refl d
 tru:=fun d _=>rfl
 eq:=fun one d hd=>by
  obtain⟨n,z,_,hu,_⟩:=c.told ht hd
  obtain⟨f,h1,_⟩:=(wC _ _ _).1 hu
  exact⟨f,f,h1,h1,fun i _ _=>rfl⟩
theorem RX.Ch.two{d e:Nat}(h:c.Ch d e):e=d∨ ∃t,c.Lnk d t∧c.Ch t e:=by
  cases h with
  |refl=>exact .inl rfl
  |step a b=>exact .inr ⟨_,a,b⟩
theorem RX.ch_mu(ht:co c.w N false c.w)(hmu:c.Mu mu){d e:Nat}(h:c.Ch d e):c.RS false d→mu e≤mu d:=by
  induction h with
  |refl=>exact fun _=>Nat.le_refl _
  |step h1 _ ih=>exact fun hd=>Nat.le_trans (ih (c.lnk_rs ht hd h1)) (Nat.le_of_lt (hmu.lnk hd h1))
theorem RX.Inv.rs(hI:c.Inv ε σ)(ht:co c.w N false c.w){one:Bool}{d:Nat}(h:c.RS one d):c.RS one (ε d):=by
  cases one with
  |true=>rw [hI.tru d h];exact h
  |false=>exact c.ch_rs ht (hI.fls d h) h
theorem RX.Inv.kid(hI:c.Inv ε σ)(ht:co c.w N false c.w)(hmu:c.Mu mu){one:Bool}{d:Nat}(h:c.RS one d): ∃f,σ d=some f∧FT f∧ ∀ i∈c7,∀ e∈cH f i,c.RS (decide (i=30)) e∧mu e<mu d:=by
  obtain⟨f,g,h1,h2,h3⟩:=hI.eq one d h
  have hr:=hI.rs ht h
  obtain⟨h4,h5⟩:=hmu.kid hr h2
  refine⟨f,h1,h3.ft h4,fun i hi e he=>?_⟩
  rw [h3.kids hi]at he
  refine⟨.kid hr h2 hi he,Nat.lt_of_lt_of_le (h5 i hi e he) ?_⟩
  cases one with
  |true=>rw [hI.tru d h];exact Nat.le_refl _
  |false=>exact c.ch_mu ht hmu (hI.fls d h) h
def RX.Nk(c:RX)(d:Nat):Prop:= ∃g,c.σ d=some g∧ ¬ dY g
theorem RX.ch_nk{d e:Nat}(h:c.Ch d e):c.Nk d→c.Nk e:=by
  induction h with
  |refl=>exact id
  |step h1 _ ih=>
    obtain⟨_,_,g,_,_,_,h2,h3⟩:=h1
    exact fun _=>ih ⟨g,h2,h3⟩
theorem ut{f:Flds}(h: ∀ i,1≤i→i≤36→i≠3→f i=none): ¬ dY f:=by
 unfold dY
 rw [h 27 aE aE aE,h 30 aE aE aE,h 22 aE aE aE]
 rintro ((h|⟨l,h,_⟩)|h|h)
 ·cases h
 ·cases h
 ·exact h Z
 ·exact h Z
theorem RX.Inv.keep(hI:c.Inv ε σ)(ht:co c.w N false c.w){t:Nat}{f g:Flds}(h:c.RS false t)(hf:σ t=some f)(hg:c.σ t=some g):dY f↔dY g:=by
 obtain⟨f',g',h1,h2,h3⟩:=hI.eq false t h
 obtain rfl:f'=f:=by rw [hf]at h1;exact(Option.some.inj h1).symm
 rcases(hI.fls t h).two with he|⟨t1,hl,hk⟩
 ·rw [he]at h2
  obtain rfl:g'=g:=by rw [hg]at h2;exact(Option.some.inj h2).symm
  exact h3.keep
 ·obtain⟨f0,ref,e1,e2,_⟩:=c.lnk_ref hl
  obtain rfl:f0=g:=by rw [hg]at e1;exact(Option.some.inj e1).symm
  have hn:=ut (c.refs ht h e1 e2).1
  obtain⟨g2,a1,a2⟩:=c.ch_nk (hI.fls t h) ⟨_,e1,hn⟩
  obtain rfl:g2=g':=by rw [h2]at a1;exact(Option.some.inj a1).symm
  exact⟨fun h=>absurd (h3.keep.1 h) a2,fun h=>absurd h hn⟩
theorem RX.Inv.put(hI:c.Inv ε σ)(ht:co c.w N false c.w)(h1:c.One)(hmu:c.Mu mu){d t:Nat}{f g:Flds}{ref:ByteArray}(hd:c.RS false d)(hf:σ d=some f)(hr:f 3=some (.text ref))(hT:c.Tgt ref t)(hg:σ t=some g)(hk: ¬ dY g):
    c.Inv (fun x=>if x=d then ε t else ε x) (wz σ d (some (zy (f.put 3 none) g)))∧mu (ε t)<mu (ε d):=by
  obtain⟨f',f0,e1,e2,e3⟩:=hI.eq false d hd
  obtain rfl:f'=f:=by rw [hf]at e1;exact(Option.some.inj e1).symm
  have hde:=hI.rs ht hd
  have hr0:f0 3=some (.text ref):=by rw [←e3 3 aE aE];exact hr
  obtain⟨hal,t',tz,hp,hT',hut,hrt,hst⟩:=c.refs ht hde e2 hr0
  obtain rfl:=c.tgt_fun hT hT'
  obtain⟨g0,hg0,_⟩:=(wC _ _ _).1 hut
  have hL:c.Lnk (ε d) t:=⟨f0,ref,g0,e2,hr0,hT,hg0,fun h=>hk ((hI.keep ht hrt hg hg0).2 h)⟩
  obtain⟨g',g2,a1,a2,a3⟩:=hI.eq false t hrt
  obtain rfl:g'=g:=by rw [hg]at a1;exact(Option.some.inj a1).symm
  refine⟨⟨fun x hx=>?_,fun x hx=>?_,fun one x hx=>?_⟩,Nat.lt_of_le_of_lt (c.ch_mu ht hmu (hI.fls t hrt) hrt) (hmu.lnk hde hL)⟩
  · by_cases e:x=d
    · subst e
      rw [if_pos rfl]
      exact(hI.fls x hd).trans (.step hL (hI.fls t hrt))
    · rw [if_neg e];exact hI.fls x hx
  · rw [if_neg (fun e:x=d=>h1 x hx (by rw [e];exact hd))]
    exact hI.tru x hx
  · by_cases e:x=d
    · subst e
      refine⟨_,g2,fD _ _ _,by rw [if_pos Z];exact a2,fun i hi hj=>?_⟩
      have hn:(f'.put 3 none) i=none:=by
        by_cases e:i=3
        · subst e;exact if_pos rfl
        · rw [show(f'.put 3 none) i=f' i from if_neg e,e3 i hi hj]
          exact hal i hi hj e
      unfold zy
      by_cases hm:i∈cpyL
      · rw [if_pos hm,hn,a3 i hi hj,Option.or_none]
      · rw [if_neg hm,hn]
        obtain⟨n,z,_,hu,_⟩:=c.told ht (hI.rs ht hrt)
        obtain⟨g3,h3,hU⟩:=(wC _ _ _).1 hu
        obtain rfl:g3=g2:=by rw [a2]at h3;exact(Option.some.inj h3).symm
        have hi45:i=4∨i=5:=by
          have:=CI ⟨i,aC⟩
          simp only at this
          rcases this with h|h|h|h
          · exact absurd h hm
          · omega
          · exact .inl h
          · exact .inr h
        exact(JE (hU i hi hj) hi45).symm
    · obtain⟨p,q,b1,b2,b3⟩:=hI.eq one x hx
      exact⟨p,q,(gP e _).trans b1,by rw [if_neg e];exact b2,b3⟩
theorem RX.ch_end{a x y:Nat}(h:c.Ch a x):c.Ch a y→(∀ t,¬ c.Lnk x t)→(∀ t,¬ c.Lnk y t)→x=y:=by
  induction h with
  |refl=>exact fun k h1 _=>(k.stay h1).symm
  |step h1 _ ih=>
    intro k hx hy
    cases k with
    |refl=>exact absurd h1 (hy _)
    |step h2 k2=>
      obtain rfl:=c.lnk_fun h1 h2
      exact ih k2 hx hy
theorem RX.Inv.fin(hI:c.Inv ε σ)(ht:co c.w N false c.w)(hfix: ∀ d,c.RS false d→ ∀ t,¬ c.Lnk (ε d) t):
    ∀ (n:Nat) (z:V) (one:Bool) (d:Nat),c.RS one d→dc z→co c.w n one z→fF c.σ z d→fF σ (cQ c.w n one z) d:=by
  intro n
  induction n with
  |zero=>intro z one d _ _ h;exact h.elim
  |succ n ih=>
    intro z one d hd hz hn hu
    obtain⟨f0,hf0,hU⟩:=(wC _ _ _).1 hu
    have h3:=lH (hU 3 aE aE)
    obtain⟨f,g,a1,a2,a3⟩:=hI.eq one d hd
    have stay:ε d=d→Eqv f f0:=fun e=>by
      rw [e,hf0]at a2
      rw [Option.some.inj a2]
      exact a3
    by_cases hr:cI z
    · obtain⟨hl,tz,hp,hc⟩:=hn.1 hr
      by_cases hk:one=true∨dC tz
      · rw [uV hr hp hk,jY hz.2.kind]
        have he:ε d=d:=by
          cases one with
          |true=>exact hI.tru d hd
          |false=>
            refine(hI.fls d hd).stay fun t hL=>?_
            obtain⟨f2,ref,g2,b1,b2,b3,b4,b5⟩:=hL
            obtain rfl:f2=f0:=by rw [hf0]at b1;exact(Option.some.inj b1).symm
            rw [h3.1 hr]at b2
            injection b2 with b2
            injection b2 with b2
            obtain⟨t',c1,c2,_⟩:=c.tgt hp
            rw [b2]at c1
            obtain rfl:=c.tgt_fun b3 c1
            obtain⟨g3,d1,hUt⟩:=(wC _ _ _).1 c2
            obtain rfl:g3=g2:=by rw [b4]at d1;exact(Option.some.inj d1).symm
            exact b5 ((mU hUt).2 (.inl (hk.resolve_left (fun e=>by cases e))))
        have hE:=stay he
        refine(wC _ _ _).2 ⟨f,a1,fun i hi hj=>?_⟩
        rw [hE i hi hj]
        refine oc hi hj (fun e x hik he _ _=>?_) (hU i hi hj)
        have:=fa hz hl hr hU i hi hj (fun e=>by subst e;exact absurd hik aE)
        unfold cH at he
        rw [this]at he
        cases he
      · rw [pS hr hp hk]
        have hone:one=false:=by cases one with|true=>exact absurd (.inl rfl) hk|false=>rfl
        subst hone
        have hg: ¬ dC tz∧ ¬ jX tz∧co c.w n false tz:=by
          rcases hc with e|e|e
          · cases e
          · exact absurd (.inr e) hk
          · exact e
        obtain⟨t,c1,c2,c3,c4⟩:=c.tgt hp
        obtain⟨g2,d1,hUt⟩:=(wC _ _ _).1 c2
        have hL:c.Lnk d t:=⟨f0,refT z,g2,hf0,h3.1 hr,c1,d1,fun h=>((mU hUt).1 h).elim hg.1 (fun h=>hg.2.1 (.inr h))⟩
        have hit:=ih tz false t c3 c4 hg.2.2 c2
        have he:ε d=ε t:=by
          rcases(hI.fls d hd).two with e|⟨t1,hl2,k⟩
          · exact absurd (show c.Lnk (ε d) t from by rw [e];exact hL) (hfix d hd t)
          · obtain rfl:=c.lnk_fun hL hl2
            exact c.ch_end k (hI.fls t c3) (hfix d hd) (hfix t c3)
        obtain⟨p,q,b1,b2,b3⟩:=hI.eq false t c3
        refine CV a1 b1 (fun i hi hj=>?_) hit
        rw [a3 i hi hj,b3 i hi hj]
        rw [he,b2]at a2
        rw [Option.some.inj a2]
    · rw [rJ hr]
      have he:ε d=d:=by
        cases one with
        |true=>exact hI.tru d hd
        |false=>
          refine(hI.fls d hd).stay fun t hL=>?_
          obtain⟨f2,ref,b1,b2,_⟩:=c.lnk_ref hL
          obtain rfl:f2=f0:=by rw [hf0]at b1;exact(Option.some.inj b1).symm
          rw [h3.2 hr]at b2
          cases b2
      have hE:=stay he
      refine(wC _ _ _).2 ⟨f,a1,fun i hi hj=>?_⟩
      rw [hE i hi hj]
      refine ur (fun k z=>gT n _ z) hz hi hj (fun e y key x hk hg hy hik hee hue=>?_) (hU i hi hj)
      have hkid:=wI hz.1 hz.2.kind hg hy
      refine ih y _ e ?_ ⟨vD hz.1 hkid,xO hz.1 hz.2 hkid⟩ (hn.2 hr (key,x) ((yJ hz.1 hz.2.kind).2 hg) y hy) hue
      rw [CW hk hik]
      exact .kid hd hf0 hik hee
inductive CR (σ:ce):Bool→Nat→Bool→Nat→Prop where
  |refl (one:Bool) (d:Nat):CR σ one d one d
  |step {one fl:Bool} {d e i x:Nat} {f:Flds} (h:σ d=some f) (hi:i∈c7) (he:e∈cH f i) (k:CR σ (decide (i=30)) e fl x):CR σ one d fl x
theorem CR.snoc{one fl:Bool}{d x i e:Nat}{f:Flds}(h:CR σ one d fl x)(hf:σ x=some f)(hi:i∈c7)(he:e∈cH f i):CR σ one d (decide (i=30)) e:=by
  induction h with
  |refl=>exact .step hf hi he (.refl _ _)
  |step h1 h2 h3 _ ih=>exact .step h1 h2 h3 (ih hf)
theorem RX.Inv.all(hI:c.Inv ε σ)(ht:co c.w N false c.w){one:Bool}{d:Nat}(h:c.RS one d):CR σ false c.b one d:=by
  induction h with
  |top=>exact .refl _ _
  | @kid one d i e f h hf hi he ih=>
    obtain⟨p,q,b1,b2,b3⟩:=hI.eq one d h
    have hed:ε d=d:=by
      cases one with
      |true=>exact hI.tru d h
      |false=>
        refine(hI.fls d h).stay fun t hL=>?_
        obtain⟨f2,ref,c1,c2,_⟩:=c.lnk_ref hL
        obtain rfl:f2=f:=by rw [hf]at c1;exact(Option.some.inj c1).symm
        have hle:=tW i hi
        have:=(c.refs ht h c1 c2).1 i hle.1 hle.2 (fun e=>by subst e;exact absurd hi aE)
        unfold cH at he
        rw [this]at he
        cases he
    rw [hed,hf]at b2
    obtain rfl:=Option.some.inj b2
    exact ih.snoc b1 hi (by rw [b3.kids hi];exact he)
theorem EX{l:List Nat}{m:Nat→Nat}{b x:Nat}(hb:b∈l)(hx:x<m b):(l.map (fun d=>if d=b then x else m d)).sum+1≤(l.map m).sum:=by
  have mono: ∀ l:List Nat,(l.map (fun d=>if d=b then x else m d)).sum≤(l.map m).sum:=by
    intro l
    induction l with
    |nil=>exact Nat.le_refl _
    |cons a l ih=>
      simp only [List.map_cons,List.sum_cons]
      by_cases e:a=b
      · subst e;rw [if_pos rfl];omega
      · rw [if_neg e];omega
  induction l with
  |nil=>cases hb
  |cons a l ih=>
    simp only [List.map_cons,List.sum_cons]
    by_cases e:a=b
    · subst e
      rw [if_pos rfl]
      have:=mono l
      omega
    · rw [if_neg e]
      have:=ih ((List.mem_cons.1 hb).resolve_left (Ne.symm e))
      omega
def JM(c:RX)(mb:Nat)(X:Nat→List HA)(D0:List DA)(L:List Nat)(mu:Nat→Nat)(K:Nat):Trv (Nat×(Nat→Nat)) where
 mb:=mb
 X:=fun y=>X y.1
 D0:=D0
 I:=fun x=>c.Inv x.1.2 x.2∧x.1.1+(L.map (fun d=>mu (x.1.2 d))).sum≤K
 S:=fun one d=>c.RS one d
 mu:=mu
 dn:=fun x one d=>0<x.1.1∨ ∀ fl e,CR x.2 one d fl e→fl=false→ ∀ t,¬ c.Lnk (x.1.2 e) t
def FX(c:RX)(P:Program)(fo:FuncId)(cap:Array Value)(mb:Nat)(X:Nat→List HA)(D0:List DA)(K:Nat):Prop:=
  ∀ (n:Nat) (ε:Nat→Nat) (σ:ce) (b:Nat) (f:Flds) (ctx:ByteArray) (G:Gr),n≤K→c.Inv ε σ→c.RS (decide (ctx=dX)) b→σ b=some f→GOk G σ→
    Ct P fo (#[cD b, .string ctx]++cap) (.many 124 (Gr.blks G)::X n) (.graph mb G::D0) (fun u M' D'=>u= .tuple #[]∧ ∃G',D'=[.graph mb G']∧
      ((GOk G' σ∧M'= .many 124 (Gr.blks G')::X n∧(ctx=dX∨f 3=none∨ ∃ref t g,f 3=some (.text ref)∧c.Tgt ref t∧σ t=some g∧dY g))∨
       ∃ref t g,ctx≠dX∧f 3=some (.text ref)∧c.Tgt ref t∧σ t=some g∧ ¬ dY g∧GOk G' (wz σ b (some (zy (f.put 3 none) g)))∧M'= .many 124 (Gr.blks G')::X (n+1)))
theorem G7{P:Program}{fo:FuncId}{cap:Array Value}{mb K:Nat}{X:Nat→List HA}{D0:List DA}{L:List Nat}(ht:co c.w N false c.w)(h1:c.One)(hmu:c.Mu mu)(hL: ∀ one d,c.RS one d→d∈L)(hop:FX c P fo cap mb X D0 K):(JM c mb X D0 L mu K).Ok P fo cap where
  kid:=fun x one b hI hS=>hI.1.kid ht hmu hS
  op:=fun x b f ctx G hI hS hf hk hG=>by
    have hn:x.1.1≤K:=Nat.le_trans (Nat.le_add_right _ _) hI.2
    refine(hop x.1.1 x.1.2 x.2 b f ctx G hn hI.1 hS hf hG).mono ?_
    rintro u M' D' ⟨rfl,G',rfl,h|h⟩
    · obtain⟨hG',rfl,hc⟩:=h
      refine⟨rfl,x,G',hI,hG',rfl,rfl,fun _ _=>id,?_,fun _ _=>rfl⟩
      by_cases h0:0<x.1.1
      · exact .inl h0
      refine .inr fun fl e hr hfl t hL=>?_
      cases hr with
      |step h2 hi he k=>
        rw [hf]at h2
        obtain rfl:=Option.some.inj h2
        exact((hk _ hi _ he).resolve_left h0) fl e k hfl t hL
      |refl=>
        have hS:c.RS (decide (ctx=dX)) b:=hS
        rw [hfl]at hS
        obtain⟨f',g0,e1,e2,e3⟩:=hI.1.eq false b hS
        obtain rfl:f'=f:=by rw [hf]at e1;exact(Option.some.inj e1).symm
        obtain⟨f2,ref,g2,a1,a2,a3,a4,a5⟩:=hL
        obtain rfl:f2=g0:=by rw [e2]at a1;exact(Option.some.inj a1).symm
        rw [←e3 3 aE aE]at a2
        rcases hc with hc|hc|⟨ref',t',g',b1,b2,b3,b4⟩
        · rw [decide_eq_true hc]at hfl;cases hfl
        · rw [hc]at a2;cases a2
        · rw [b1]at a2
          injection a2 with a2
          injection a2 with a2
          rw [a2]at b2
          obtain rfl:=c.tgt_fun a3 b2
          exact a5 ((hI.1.keep ht (c.lnk_rs ht (hI.1.rs ht hS) ⟨f2,ref,g2,e2,by rw [←e3 3 aE aE,b1,a2],a3,a4,a5⟩) b3 a4).1 b4)
    · obtain⟨ref,t,g,hc,b1,b2,b3,b4,hG',rfl⟩:=h
      have hS:c.RS (decide (ctx=dX)) b:=hS
      rw [decide_eq_false hc]at hS
      obtain⟨i1,i2⟩:=hI.1.put ht h1 hmu hS hf b1 b2 b3 b4
      refine⟨rfl,((x.1.1+1,fun y=>if y=b then x.1.2 t else x.1.2 y),wz x.2 b (some (zy (f.put 3 none) g))),G',⟨i1,?_⟩,hG',rfl,rfl,fun _ _ _=> .inl (Nat.succ_pos _), .inl (Nat.succ_pos _),fun d hd=>gP hd _⟩
      have h5:=EX (m:=fun d=>mu (x.1.2 d)) (x:=mu (x.1.2 t)) (hL _ _ hS) i2
      have h6:=hI.2
      have e:(L.map (fun d=>mu (if d=b then x.1.2 t else x.1.2 d)))=L.map (fun d=>if d=b then mu (x.1.2 t)else mu (x.1.2 d)):=List.map_congr_left fun d _=>by split<;>rfl
      show x.1.1+1+(L.map (fun d=>mu (if d=b then x.1.2 t else x.1.2 d))).sum≤K
      rw [e]
      omega
end
noncomputable def cd:V→Nat:=V.fix (fun v f=>1+((kidsV v).map f).sum)
theorem rU(v:V):cd v=1+((kidsV v).map cd).sum:=
 V.fix_eq (G:=fun v f=>1+((kidsV v).map f).sum) (fun t g g' h=>by
  show 1+((kidsV t).map g).sum=1+((kidsV t).map g').sum
  rw [List.map_congr_left fun z hz=>h z (wP hz)]) v
theorem uu{α:Type}(l:List α)(g:α→List V)(m:V→Nat):((l.flatMap g).map m).sum=(l.map (fun p=>((g p).map m).sum)).sum:=by
  induction l with
  |nil=>rfl
  |cons a l ih=>rw [List.flatMap_cons,List.map_append,List.sum_append,List.map_cons,List.sum_cons,ih]
theorem iS{α:Type}{m:α→Nat}{Q:α→Nat→Prop}: ∀ {l:List α},(∀ p∈l,∃L:List Nat,L.length≤m p∧ ∀ x,Q p x→x∈L)→ ∃L:List Nat,L.length≤(l.map m).sum∧ ∀ p∈l,∀ x,Q p x→x∈L
  |[],_=>⟨[],Nat.zero_le _,fun p hp=>by cases hp⟩
  |a::l,h=>by
    obtain⟨L1,h1,h2⟩:=h a List.mem_cons_self
    obtain⟨L2,h3,h4⟩:=iS (l:=l) (fun p hp=>h p (List.mem_cons_of_mem _ hp))
    refine⟨L1++L2,by rw [List.length_append,List.map_cons,List.sum_cons];omega,fun p hp x hx=>?_⟩
    rcases List.mem_cons.1 hp with rfl|hp
    · exact List.mem_append_left _ (h2 x hx)
    · exact List.mem_append_right _ (h4 p hp x hx)
theorem rv{α β:Type}{R:α→β→Prop}{m:β→Nat}{Q:α→Nat→Prop}{l:List α}{l':List β}(h:All2 R l l')(hq: ∀ a b,a∈l→b∈l'→R a b→ ∃L:List Nat,L.length≤m b∧ ∀ x,Q a x→x∈L): ∃L:List Nat,L.length≤(l'.map m).sum∧ ∀ a∈l,∀ x,Q a x→x∈L:=by
 have hz: ∃L:List Nat,L.length≤((l.zip l').map (fun p:α×β=>m p.2)).sum∧ ∀ p∈l.zip l',∀ x,Q p.1 x→x∈L:=by
  refine iS (m:=fun p:α×β=>m p.2) (Q:=fun p:α×β=>Q p.1) fun p hp=>?_
  have hm:=List.of_mem_zip hp
  obtain⟨i,hi,rfl⟩:=List.getElem_of_mem hp
  rw [List.length_zip]at hi
  have h1:i<l.length:=by omega
  have h2:i<l'.length:=by omega
  rw [List.getElem_zip]at hm⊢
  exact hq _ _ hm.1 hm.2 (h.2 i _ _ (List.getElem?_eq_getElem h1) (List.getElem?_eq_getElem h2))
 obtain⟨L,h1,h2⟩:=hz
 have e:(l.zip l').map (fun p:α×β=>m p.2)=l'.map m:=by
  have:((l.zip l').map Prod.snd).map m=l'.map m:=by rw [vZ bC]
  rw [←this,List.map_map]
  rfl
 rw [e]at h1
 refine⟨L,h1,fun a ha x hx=>?_⟩
 obtain⟨i,hi,rfl⟩:=List.getElem_of_mem ha
 have h3:i<l'.length:=by rw [←h.1];exact hi
 have hp:(l[i],l'[i])∈l.zip l':=by
  refine List.mem_of_getElem? (i:=i) ?_
  rw [List.getElem?_zip_eq_some]
  exact⟨List.getElem?_eq_getElem hi,List.getElem?_eq_getElem h3⟩
 exact h2 _ hp x hx
theorem CX{l l':List Nat}(h:l.Perm l'):l.sum=l'.sum:=by
  induction h with
  |nil=>rfl
  |cons x _ ih=>rw [List.sum_cons,List.sum_cons,ih]
  |swap x y l=>simp only [List.sum_cons];omega
  |trans _ _ h1 h2=>exact h1.trans h2
theorem CY{σ:ce}(z:V): ∀ d,dc z→fF σ z d→ ∃L:List Nat,L.length≤cd z∧ ∀ x,Rch σ d x→x∈L:=by
  refine V.indS (p:=fun z=> ∀ d,dc z→fF σ z d→ ∃L:List Nat,L.length≤cd z∧ ∀ x,Rch σ d x→x∈L) (fun z IH d hz hu=>?_) z
  obtain⟨f,hf,hU⟩:=(wC _ _ _).1 hu
  have key: ∀ p∈z.keys.zip z.items,∃L:List Nat,L.length≤((kidsOf (bw p.1) p.2).map cd).sum∧ ∀ x,(∃c∈cH f (cE p.1),cE p.1∈c7∧Rch σ c x)→x∈L:=by
    intro p hp
    by_cases hk:cE p.1∈c7
    · have hle:=tW _ hk
      have hFi:=hU _ hle.1 hle.2
      cases hfi:f (cE p.1)with
      |none=>exact⟨[],Nat.zero_le _,fun x ⟨c,hc,_⟩=>by unfold cH at hc;rw [hfi]at hc;cases hc⟩
      |some fv=>
        rw [hfi]at hFi
        obtain⟨key,x,hkw,hg,hF⟩:=hFi
        obtain rfl:=Gt hkw p.1 rfl aC
        have hgp:getV z p.1=some p.2:=(yJ hz.1 hz.2.kind).1 hp
        have hpx:p.2=x:=Option.some.inj (hgp.symm.trans hg)
        have hsh:bw p.1=cU (cE p.1):=fE rfl aC
        have hfit:=(vC hz.2 hgp).1
        have hkid: ∀ y∈kidsOf (bw p.1) p.2,dc y∧SizeOf.sizeOf y<SizeOf.sizeOf z:=fun y hy=>by
          have:=wI hz.1 hz.2.kind hgp hy
          exact⟨⟨vD hz.1 this,xO hz.1 hz.2 this⟩,wP this⟩
        have hka:cH f (cE p.1)=dT fv:=by unfold cH;rw [hfi]
        rw [hka]
        rw [←hpx]at hF
        rw [hsh]at hfit hkid⊢
        have one: ∀ c,dT fv=[c]→p.2∈kidsOf (cU (cE p.1)) p.2→kidsOf (cU (cE p.1)) p.2=[p.2]→fF σ p.2 c→ ∃L:List Nat,L.length≤((kidsOf (cU (cE p.1)) p.2).map cd).sum∧ ∀ x,(∃c∈dT fv,cE p.1∈c7∧Rch σ c x)→x∈L:=by
          intro c hc hm hk1 hu
          obtain⟨h1,h2⟩:=hkid _ hm
          obtain⟨L,h3,h4⟩:=IH p.2 h2 c h1 hu
          refine⟨L,by rw [hk1];simpa using h3,fun x ⟨c',hc',_,hr⟩=>?_⟩
          rw [hc]at hc'
          rw [List.mem_singleton.1 hc']at hr
          exact h4 x hr
        have lst: ∀ bs:List Nat,dT fv=bs→kidsOf (cU (cE p.1)) p.2=p.2.items→All2 (fun b x=>fF σ x b) bs p.2.items→ ∃L:List Nat,L.length≤((kidsOf (cU (cE p.1)) p.2).map cd).sum∧ ∀ x,(∃c∈dT fv,cE p.1∈c7∧Rch σ c x)→x∈L:=by
          intro bs hb hk1 hA
          rw [hk1]at hkid⊢
          obtain⟨L,h3,h4⟩:=rv (m:=cd) (Q:=fun c x=>Rch σ c x) hA (fun b y _ hy hu=>IH y (hkid y hy).2 b (hkid y hy).1 hu)
          rw [hb]
          exact⟨L,h3,fun x ⟨c,hc,_,hr⟩=>h4 c hc x hr⟩
        revert one lst
        generalize cU (cE p.1)=sh at*
        intro one lst
        cases fv with
        |sbS b=>obtain⟨rfl,h5,hu⟩:=hF;exact one b rfl bY bY hu
        |itS b=>obtain⟨rfl,h5,hu⟩:=hF;exact one b rfl bY bY hu
        |one b=>obtain⟨rfl,hu⟩:=hF;exact one b rfl bn bn hu
        |itL bs=>
          obtain⟨rfl,h4,hA⟩:=hF
          have hi: ∀ y∈p.2.items,y.kind=5:=by simpa [FitLoc,h4]using hfit
          exact lst bs Z (fS h4 hi) hA
        |list bs=>
          obtain⟨rfl,hA⟩:=hF
          have hi:p.2.kind=4∧ ∀ y∈p.2.items,y.kind=5:=by simpa [FitLoc]using hfit
          exact lst bs Z (gL hi.2) hA
        |named l=>
          obtain⟨rfl,ps,hp2,hA⟩:=hF
          have hi:p.2.kind=5∧ ∀ y∈p.2.items,y.kind=5:=by simpa [FitLoc]using hfit
          rw [iC hi.2]at hkid⊢
          obtain⟨L,h3,h4⟩:=rv (m:=fun q:ByteArray×V=>cd q.2) (Q:=fun(q:ByteArray×Nat) x=>Rch σ q.2 x) hA (fun q r _ hr hu=>by
            have hy:=(List.of_mem_zip (hp2.mem_iff.1 hr)).2
            exact IH r.2 (hkid _ hy).2 q.2 (hkid _ hy).1 hu.2)
          have e:(ps.map (fun q=>cd q.2)).sum≤(p.2.items.map cd).sum:=by
            rw [CX (hp2.map _)]
            have:((p.2.keys.zip p.2.items).map (fun q=>cd q.2))=((p.2.keys.zip p.2.items).map Prod.snd).map cd:=by rw [List.map_map];rfl
            have hlen:=(hz.1.item _ (uG hgp)).wf.eq hi.1
            rw [this,vZ aC]
            exact Nat.le_refl _
          refine⟨L,Nat.le_trans h3 e,fun x ⟨c,hc,_,hr⟩=>?_⟩
          obtain⟨q,hq,rfl⟩:=List.mem_map.1 hc
          exact h4 q hq x hr
        |_=>exact⟨[],Nat.zero_le _,fun x ⟨c,hc,_⟩=>by cases hc⟩
    · exact⟨[],Nat.zero_le _,fun x ⟨c,_,h,_⟩=>absurd h hk⟩
  obtain⟨L,h1,h2⟩:=iS (m:=fun p:ByteArray×V=>((kidsOf (bw p.1) p.2).map cd).sum) (Q:=fun p x=> ∃c∈cH f (cE p.1),cE p.1∈c7∧Rch σ c x) key
  refine⟨d::L,?_,fun x hx=>?_⟩
  · rw [rU,kidsV,uu,List.length_cons]
    omega
  · cases hx with
    |refl=>exact List.mem_cons_self
    |step h hi hc r=>
      rw [hf]at h
      obtain rfl:=Option.some.inj h
      have hle:=tW _ hi
      have hFi:=hU _ hle.1 hle.2
      have hc0:=hc
      unfold cH at hc
      cases hfi:f _ with
      |none=>rw [hfi]at hc;cases hc
      |some fv=>
        rw [hfi]at hFi
        obtain⟨key,y,hkw,hg,_⟩:=hFi
        subst hkw
        exact List.mem_cons_of_mem _ (h2 (key,y) ((yJ hz.1 hz.2.kind).2 hg) x ⟨_,hc0,hi,r⟩)
theorem RX.rs_rch{c:RX}{one:Bool}{d:Nat}(h:c.RS one d):Rch c.σ c.b d:=by
  induction h with
  |top=>exact .refl _
  |kid h hf hi he ih=>exact ih.trans (.step hf hi he (.refl _))
theorem CZ{α:Type}{F:α→List Nat}{l:List α}{a a':α}{d:Nat}(hn:(l.flatMap F).Nodup)(ha:a∈l)(ha':a'∈l)(h:d∈F a)(h':d∈F a'):a=a'∧(F a).Nodup:=by
  induction l with
  |nil=>cases ha
  |cons x l ih=>
    rw [List.flatMap_cons]at hn
    obtain⟨h1,h2,h3⟩:=List.nodup_append.1 hn
    rcases List.mem_cons.1 ha with rfl|hb
    · rcases List.mem_cons.1 ha' with rfl|hb'
      · exact⟨rfl,h1⟩
      · exact absurd Z (h3 d h d (List.mem_flatMap.2 ⟨_,hb',h'⟩))
    · rcases List.mem_cons.1 ha' with rfl|hb'
      · exact absurd Z (h3 d h' d (List.mem_flatMap.2 ⟨_,hb,h⟩))
      · exact ih h2 hb hb'
theorem EY{c:RX}{G:Gr}(hG:GOk G c.σ)(ho:Own G [c.b]):c.One:=by
  have hn:(c.b::G.flatMap (fun g=>gH g.2.2)).Nodup:=ho.nodup hG.1
  rw [List.nodup_cons]at hn
  have place: ∀ {one d},c.RS one d→(d=c.b∧one=false)∨ ∃g∈G,∃i,i∈c7∧d∈cH g.2.2 i∧one=decide (i=30):=by
    intro one d h
    cases h with
    |top=>exact .inl ⟨rfl,rfl⟩
    |kid h hf hi he=>
      obtain⟨cs,hm⟩:=(hG.2 _ _).2 hf
      exact .inr ⟨_,hm,_,hi,he,rfl⟩
  have inF: ∀ {g:Nat×List Value×Flds} {i d},i∈c7→d∈cH g.2.2 i→d∈gH g.2.2:=fun hi hd=>List.mem_flatMap.2 ⟨_,List.mem_range.2 (by have:=tW _ hi;omega),hd⟩
  intro d ht hf
  rcases place ht with ⟨_,h⟩|⟨g,hg,i,hi,hd,e⟩
  · cases h
  rcases place hf with ⟨rfl,_⟩|⟨g',hg',i',hi',hd',e'⟩
  · exact hn.1 (List.mem_flatMap.2 ⟨g,hg,inF hi hd⟩)
  · obtain⟨rfl,hk⟩:=CZ hn.2 hg hg' (inF hi hd) (inF hi' hd')
    have:=(CZ (F:=cH g.2.2) (l:=List.range 37) hk (List.mem_range.2 (by have:=tW _ hi;omega)) (List.mem_range.2 (by have:=tW _ hi';omega)) hd hd').1
    subst this
    rw [←e]at e'
    cases e'
theorem gz{w tz:V}{ref:ByteArray}(hw:dc w)(h:PtV w ref=some tz):tz∈kidsV w:=by
  unfold PtV at h
  cases hh:dd (eF w) ref with
  |none=>rw [hh]at h;cases h
  |some p=>
    rw [hh,Option.bind_some]at h
    cases ha:getV w p.2 with
    |none=>rw [ha]at h;cases h
    |some all=>
      rw [ha,Option.bind_some]at h
      have h9:=xg (qR hh).2.2
      obtain⟨hpa,hk5,hit⟩:=mI hw.2 hw.1 h9 ha
      refine wI hw.1 hw.2.kind ha ?_
      rw [h9,iC (fun y hy=>(hit y hy).1)]
      exact uG h
theorem fe(g:ByteArray→V→V)(v:V):(de g v).keys.zip (de g v).items=(v.keys.zip v.items).map fun p=>(p.1,cA (bw p.1) (g p.1) p.2):=ob _
theorem om{g:ByteArray→V→V}(hg: ∀ k z,(g k z).kind=5){v z:V}(hv:dc v)(h:z∈kidsV (de g v)): ∃p∈v.keys.zip v.items,∃y∈kidsOf (bw p.1) p.2,z=g p.1 y:=by
 obtain⟨q,hq,hz⟩:=List.mem_flatMap.1 h
 rw [fe]at hq
 obtain⟨p,hp,rfl⟩:=List.mem_map.1 hq
 have hgp:=(yJ hv.1 hv.2.kind).1 (show(p.1,p.2)∈v.keys.zip v.items from hp)
 obtain⟨y,hy,e⟩:=qQ (hg p.1) (vC hv.2 hgp).1 hz
 exact⟨p,hp,y,hy,e⟩
theorem nW{w:V}(hw:dc w): ∀ (n:Nat) (one:Bool) (z:V),dc z→co w n one z→IsShape (cQ w n one z):=by
  intro n
  induction n with
  |zero=>intro one z _ h;exact h.elim
  |succ n ih=>
    intro one z hz hn
    by_cases hr:cI z
    · obtain⟨hl,tz,hp,hc⟩:=hn.1 hr
      by_cases hk:one=true∨dC tz
      · rw [uV hr hp hk,jY hz.2.kind];exact hz.2
      · rw [pS hr hp hk]
        have hkid:=gz hw hp
        refine ih false tz ⟨vD hw.1 hkid,xO hw.1 hw.2 hkid⟩ ?_
        rcases hc with e|e|e
        · exact absurd (.inl e) hk
        · exact absurd (.inr e) hk
        · exact e.2.2
    · rw [rJ hr]
      have hsv:=EU hz.1 hz.2.kind
      refine zp (ET (EM (fun k x=>cA (bw k) (cQ w n (decide (k=dg))) x) hsv.1)) Z fun key y hy=>?_
      rw [fe]at hy
      obtain⟨p,hp,e⟩:=List.mem_map.1 hy
      injection e with e1 e2
      subst e1
      subst e2
      have hg:=(yJ hz.1 hz.2.kind).1 (show(p.1,p.2)∈z.keys.zip z.items from hp)
      have hgs:=vC hz.2 hg
      obtain⟨h1,h2⟩:=gR (g:=cQ w n (decide (p.1=dg))) hgs.1 fun y hy=>by
        have hkid:=wI hz.1 hz.2.kind hg hy
        exact ih _ y ⟨vD hz.1 hkid,xO hz.1 hz.2 hkid⟩ (hn.2 hr p hp y hy)
      refine⟨h1,h2,fun hid=>?_⟩
      obtain⟨u,hu,h4⟩:=hgs.2.2 hid
      exact⟨_,by rw [sM hz.1.wf.le,hu];rfl,by rw [fW];exact h4⟩
theorem Ca{w:V}(hw:dc w)(hwk:cu zx w): ∀ (n:Nat) (one:Bool) (z:V),dc z→cu zx z→co w n one z→cu zx (cQ w n one z):=by
  intro n
  induction n with
  |zero=>intro one z _ _ h;exact h.elim
  |succ n ih=>
    intro one z hz hd hn
    by_cases hr:cI z
    · obtain⟨hl,tz,hp,hc⟩:=hn.1 hr
      by_cases hk:one=true∨dC tz
      · rw [uV hr hp hk,jY hz.2.kind];exact hd
      · rw [pS hr hp hk]
        have hkid:=gz hw hp
        refine ih false tz ⟨vD hw.1 hkid,xO hw.1 hw.2 hkid⟩ (((vN _ _).1 hwk).2 tz hkid) ?_
        rcases hc with e|e|e
        · exact absurd (.inl e) hk
        · exact absurd (.inr e) hk
        · exact e.2.2
    · rw [rJ hr]
      obtain⟨h1,h2⟩:=(vN _ _).1 hd
      refine(vN _ _).2 ⟨fun k hk=>h1 k ?_,fun y hy=>?_⟩
      · have:k∈((z.keys.zip z.items).map fun p=>(p.1,cA (bw p.1) (cQ w n (decide (p.1=dg))) p.2)).map (·.1):=hk
        rw [List.map_map]at this
        obtain⟨p,hp,rfl⟩:=List.mem_map.1 this
        exact(List.of_mem_zip hp).1
      · obtain⟨p,hp,x,hx,rfl⟩:=om (fun k z=>gT n _ z) hz hy
        have hg:=(yJ hz.1 hz.2.kind).1 (show(p.1,p.2)∈z.keys.zip z.items from hp)
        have hkid:=wI hz.1 hz.2.kind hg hx
        exact ih _ x ⟨vD hz.1 hkid,xO hz.1 hz.2 hkid⟩ (h2 x hkid) (hn.2 hr p hp x hx)
theorem EZ{w out:V}{n:Nat}(hw:dc w)(hwk:cu zx w)(hn:co w n false w)(ho:out=cQ w n false w)(hp:Pl out):dc out∧bx out=out:=by
 subst ho
 have hs:=nW hw n false w hw hn
 exact⟨⟨hp,hs⟩,mM _ hp hs (Ca hw hwk n false w hw hwk hn)⟩
theorem zq{g:V→V}{x:V}(h5: ∀ z∈x.items,z.kind=5)(name:ByteArray):getV (cA 9 g x) name=(getV x name).map g:=by
  have e:cA 9 g x=cL g x:=by simp [cA]
  rw [e]
  obtain⟨q,m,s,ks,ts⟩:=x
  have h5: ∀ z∈ts,z.kind=5:=h5
  rw [show cL g (.mk q m s ks ts)= .mk q 0 ⟨#[]⟩ ks (ts.map (cZ g))from rfl,wy,wy]
  by_cases hk:dL ks name= -1
  · rw [if_pos hk,if_pos hk]
    rfl
  · rw [if_neg hk,if_neg hk,List.getElem?_map]
    cases h:ts[(dL ks name).toNat]? with
    |none=>rfl
    |some z=>
      simp only [Option.map_some]
      rw [xY (h5 z (List.mem_of_getElem? h))]
theorem rx{g:V→V}{key:ByteArray}(h:bw key=1∨bw key=12)(x:V):cA (bw key) g x=x:=jp aC
theorem pQ{o:Option V}{g:V→V}(h: ∀ x,g x=x):o.map g=o:=by cases o with|none=>rfl|some x=>rw [Option.map_some,h]
theorem ry{w w':V}{g:V→V}{sel:ByteArray→Bool}(hw:dc w)(hget: ∀ key,sel key=true→key≠dg→getV w' key=(getV w key).map (cA (bw key) g))(hi:sel kId=true)(hd:sel kDefs=true)(hp:sel kProps=true)(ref:ByteArray):eF w'=eF w∧PtV w' ref=(PtV w ref).map g:=by
  have e1:eF w'=eF w:=by
    unfold eF
    rw [hget kId hi aE,pQ fun x=>rx (.inl aD) x]
  refine⟨e1,?_⟩
  unfold PtV
  rw [e1]
  cases hh:dd (eF w) ref with
  |none=>rfl
  |some p=>
    rw [Option.bind_some,Option.bind_some]
    have hpt:=(qR hh).2.2
    have h9:=xg hpt
    have hs:sel p.2=true∧p.2≠dg:=by
      rcases hpt with e|e
      · rw [e];exact⟨hd,by decide⟩
      · rw [e];exact⟨hp,by decide⟩
    rw [hget p.2 hs.1 hs.2]
    cases ha:getV w p.2 with
    |none=>rfl
    |some all=>
      obtain⟨_,hk5,hit⟩:=mI hw.2 hw.1 h9 ha
      rw [Option.map_some,Option.bind_some,Option.bind_some,h9]
      exact zq (fun z hz=>(hit z hz).1) _
theorem Ea{w:V}{N:Nat}(hw:dc w)(hr: ¬ cI w)(hN:co w (N+1) false w){ref:ByteArray}{t:V}(h:PtV w ref=some t):PtV (cQ w (N+1) false w) ref=some (cQ w N false t)∧co w N false t:=by
  have h1:=(ry (w':=cQ w (N+1) false w) (g:=cQ w N false) (sel:=fun _=>true) hw (fun key _ hk=>by
    rw [rJ hr,sM hw.1.wf.le]
    simp only [decide_eq_false hk]) rfl rfl rfl ref).2
  rw [h]at h1
  refine⟨h1,?_⟩
  unfold PtV at h
  cases hh:dd (eF w) ref with
  |none=>rw [hh]at h;cases h
  |some p=>
    rw [hh,Option.bind_some]at h
    have hpt:=(qR hh).2.2
    have h9:=xg hpt
    cases ha:getV w p.2 with
    |none=>rw [ha]at h;cases h
    |some all=>
      rw [ha,Option.bind_some]at h
      obtain⟨_,hk5,hit⟩:=mI hw.2 hw.1 h9 ha
      have:=hN.2 hr (p.2,all) ((yJ hw.1 hw.2.kind).2 ha) t (by rw [h9,iC (fun y hy=>(hit y hy).1)];exact uG h)
      have e:decide (p.2=dg)=false:=by
        rcases hpt with e|e
        · rw [e];decide
        · rw [e];decide
      rw [e]at this
      exact this
theorem uv{t:V}(ht:dc t)(h1:cI t→t.keys.length=1)(hk:dC t): ¬ cI t:=by
  intro hr
  have hn: ∀ key,key≠k3→getV t key=none:=fun key hne=>by
    cases hg:getV t key with
    |none=>rfl
    |some x=>exact absurd (jx ht (h1 hr) hr hg) hne
  rcases hk with h|h
  · unfold eE at h
    rw [hn k27 aE]at h
    rcases h with h|⟨_,y,hy,_⟩
    · exact absurd h.1 aE
    · cases hy
  · rw [hn dg aE]at h
    cases h
theorem nX{t t':V}(h27:getV t' k27=getV t k27)(h30:(getV t' dg).isSome=(getV t dg).isSome):dC t'↔dC t:=by
 unfold dC eE
 rw [h27,h30]
theorem Cb{w t:V}{n:Nat}{one:Bool}(ht:dc t)(hn:co w n one t)(hk:dC t):dC (cQ w n one t):=by
  cases n with
  |zero=>exact hn.elim
  |succ n=>
    have hr:=uv ht (fun h=>(hn.1 h).1) hk
    refine(nX ?_ ?_).2 hk
    · rw [rJ hr,sM ht.1.wf.le,pQ fun x=>rx (.inr aD) x]
    · rw [rJ hr,sM ht.1.wf.le]
      cases getV t dg<;>rfl
theorem Eb{w:V}{N:Nat}(hw:dc w)(hr0: ¬ cI w)(hN:co w (N+1) false w): ∀ (n:Nat) (z:V) (one:Bool),dc z→co w n one z→Pl (cQ w n one z)→ ∀ m,co (cQ w (N+1) false w) m one (cQ w n one z)→cQ (cQ w (N+1) false w) m one (cQ w n one z)=cQ w n one z:=by
  intro n
  induction n with
  |zero=>intro z one _ h;exact h.elim
  |succ n ih=>
    intro z one hz hn hpl m hm
    cases m with
    |zero=>exact hm.elim
    |succ m=>
      by_cases hr:cI z
      · obtain⟨hl,tz,hp,hc⟩:=hn.1 hr
        by_cases hk:one=true∨dC tz
        · rw [uV hr hp hk,jY hz.2.kind]
          obtain⟨h1,h2⟩:=Ea hw hr0 hN hp
          have hkid:=gz hw hp
          rw [uV hr h1 (hk.imp id (Cb ⟨vD hw.1 hkid,xO hw.1 hw.2 hkid⟩ h2)),jY hz.2.kind]
        · have hone:one=false:=by cases one with|true=>exact absurd (.inl rfl) hk|false=>rfl
          subst hone
          rw [pS hr hp hk]at hpl hm⊢
          have hkid:=gz hw hp
          refine ih tz false ⟨vD hw.1 hkid,xO hw.1 hw.2 hkid⟩ ?_ hpl _ hm
          rcases hc with e|e|e
          · cases e
          · exact absurd (.inr e) hk
          · exact e.2.2
      · rw [rJ hr]at hpl hm⊢
        have hr': ¬ cI (de (fun key=>cQ w n (decide (key=dg))) z):=by
          unfold cI
          rw [sM hz.1.wf.le]
          intro h
          exact hr (by unfold cI;cases hg:getV z k3 with|none=>rw [hg]at h;cases h|some x=>rfl)
        rw [rJ hr']
        have e:(de (fun key=>cQ w n (decide (key=dg))) z).keys.zip (de (fun key=>cQ w n (decide (key=dg))) z).items=(z.keys.zip z.items).map fun p=>(p.1,cA (bw p.1) (cQ w n (decide (p.1=dg))) p.2):=fe _ _
        have hb:=hm.2 hr'
        rw [e]at hb
        show ox _=_
        rw [e,List.map_map]
        show ox _=ox _
        congr 1
        refine List.map_congr_left fun p hp=>?_
        show(p.1,cA (bw p.1) (cQ (cQ w (N+1) false w) m (decide (p.1=dg))) (cA (bw p.1) (cQ w n (decide (p.1=dg))) p.2))=_
        have hg:=(yJ hz.1 hz.2.kind).1 (show(p.1,p.2)∈z.keys.zip z.items from hp)
        have hfit:=(vC hz.2 hg).1
        have hpm:(p.1,cA (bw p.1) (cQ w n (decide (p.1=dg))) p.2)∈(z.keys.zip z.items).map fun p=>(p.1,cA (bw p.1) (cQ w n (decide (p.1=dg))) p.2):=List.mem_map.2 ⟨p,hp,rfl⟩
        have hin:cA (bw p.1) (cQ w n (decide (p.1=dg))) p.2∈(de (fun key=>cQ w n (decide (key=dg))) z).items:=by
          rw [←e]at hpm
          exact(List.of_mem_zip hpm).2
        have hsub: ∀ y∈kidsOf (bw p.1) p.2,dc y∧co w n (decide (p.1=dg)) y:=fun y hy=>by
          have hkid:=wI hz.1 hz.2.kind hg hy
          exact⟨⟨vD hz.1 hkid,xO hz.1 hz.2 hkid⟩,hn.2 hr p hp y hy⟩
        obtain⟨f1,f2⟩:=gR (g:=cQ w n (decide (p.1=dg))) hfit fun y hy=>nW hw n _ y (hsub y hy).1 (hsub y hy).2
        refine Prod.ext Z (rk (hpl.item _ hin) f1 fun y hy=>?_)
        obtain⟨y0,hy0,rfl⟩:=qQ (fun z=>gT n _ z) hfit hy
        exact ih y0 _ (hsub y0 hy0).1 (hsub y0 hy0).2 (ug hpl hin hy) m (hb _ hpm _ hy)

theorem gV{v:V}(hs:IsShape v)(hp:Pl v)(key:ByteArray):getV (wr v) key=if dv key=true then(getV v key).map (cA (bw key) wr)else none:=by
 have hpw:=qm hs hp
 rw [lF hpw.wf.le,gO,CD (((v.keys.zip v.items).filter fun p=>dv p.1)) (fun k=>cA (bw k) wr) key,zb (v.keys.zip v.items) dv key,lF hp.wf.le]
 split<;>rfl
theorem G8(v:V):zx (wr v):=by
 intro k hk
 rw [iE]at hk
 have:k∈((v.keys.zip v.items).filter (fun p=>dv p.1)).map (·.1):=by
  unfold cY at hk
  simpa [V.keys]using hk
 obtain⟨p,hp,rfl⟩:=List.mem_map.1 this
 have:=(List.mem_filter.1 hp).2
 unfold dv at this
 simp at this
 exact this.1
theorem oo{v:V}(h:dc v):dc (wr v):=⟨qm h.2 h.1,rg v h.2 h.1⟩
theorem Ec(v:V):dc v→cu zx (wr v):=by
 refine V.indS (p:=fun v=>dc v→cu zx (wr v)) (fun v IH hv=>?_) v
 refine(vN _ _).2 ⟨G8 v,fun z hz=>?_⟩
 obtain⟨q,hq,hz⟩:=List.mem_flatMap.1 hz
 rw [gO]at hq
 obtain⟨p,hp,rfl⟩:=List.mem_map.1 hq
 have hp:=(List.mem_filter.1 hp).1
 have hg:=(yJ hv.1 hv.2.kind).1 (show(p.1,p.2)∈v.keys.zip v.items from hp)
 obtain⟨y,hy,rfl⟩:=qQ rX (vC hv.2 hg).1 hz
 have hkid:=wI hv.1 hv.2.kind hg hy
 exact IH y (wP hkid) ⟨vD hv.1 hkid,xO hv.1 hv.2 hkid⟩
theorem Ed{v:V}(h:dc v):bx (wr v)=wr v:=mM _ (oo h).1 (oo h).2 (Ec v h)
theorem Cc{w:V}(hw:dc w)(ref:ByteArray):eF (wr w)=eF w∧PtV (wr w) ref=(PtV w ref).map wr:=
 ry (sel:=dv) hw (fun key hk _=>by rw [gV hw.2 hw.1,if_pos hk]) aD aD aD ref
theorem nY{z:V}(hz:dc z):(cI (wr z)↔cI z)∧refT (wr z)=refT z:=by
 have e:getV (wr z) k3=getV z k3:=by
  rw [gV hz.2 hz.1,if_pos aD,pQ fun x=>rx (.inl aD) x]
 unfold cI refT
 rw [e]
 exact⟨Iff.rfl,rfl⟩
theorem ou{t:V}(ht:dc t):dC (wr t)↔dC t:=by
  refine nX ?_ ?_
  · rw [gV ht.2 ht.1,if_pos aD,pQ fun x=>rx (.inr aD) x]
  · rw [gV ht.2 ht.1,if_pos aD]
    cases getV t dg<;>rfl
theorem ov{v z:V}(hv:dc v)(h:z∈kidsV (wr v)): ∃y∈kidsV v,z=wr y:=by
 obtain⟨q,hq,hz⟩:=List.mem_flatMap.1 h
 rw [gO]at hq
 obtain⟨p,hp,rfl⟩:=List.mem_map.1 hq
 have hp:=(List.mem_filter.1 hp).1
 have hg:=(yJ hv.1 hv.2.kind).1 (show(p.1,p.2)∈v.keys.zip v.items from hp)
 obtain⟨y,hy,rfl⟩:=qQ rX (vC hv.2 hg).1 hz
 exact⟨y,wI hv.1 hv.2.kind hg hy,rfl⟩
theorem Cd(v:V):dc v→cu (fun z=> ¬ (getV z dg).isSome=true) v→cu (fun z=> ¬ (getV z dg).isSome=true) (wr v):=by
  refine V.indS (p:=fun v=>dc v→cu (fun z=> ¬ (getV z dg).isSome=true) v→cu (fun z=> ¬ (getV z dg).isSome=true) (wr v)) (fun v IH hv hd=>?_) v
  obtain⟨h1,h2⟩:=(vN _ _).1 hd
  refine(vN _ _).2 ⟨fun h=>h1 ?_,fun z hz=>?_⟩
  · rw [gV hv.2 hv.1,if_pos aD]at h
    cases hg:getV v dg with
    |none=>rw [hg]at h;cases h
    |some x=>rfl
  · obtain⟨y,hy,rfl⟩:=ov hv hz
    exact IH y (wP hy) ⟨vD hv.1 hy,xO hv.1 hv.2 hy⟩ (h2 y hy)
theorem Ee{t:V}(ht:dc t)(h: ¬ jX t): ¬ jX (wr t):=by
  unfold jX at h⊢
  rintro (h1|h1)
  · exact h1 (Cd t ht (Classical.byContradiction fun h2=>h (.inl h2)))
  · refine h (.inr ?_)
    rw [gV ht.2 ht.1,if_pos aD]at h1
    cases hg:getV t Hn with
    |none=>rw [hg]at h1;cases h1
    |some x=>rfl
theorem HC{ks:List ByteArray}{ts:List V}(h:ks.length=ts.length):V.mk 5 0 ⟨#[]⟩ ks ts=ox (ks.zip ts):=by
 unfold ox
 rw [List.map_fst_zip aC,List.map_snd_zip aC]
theorem HD(v:V):wr v=ox ((wr v).keys.zip (wr v).items):=by
 rw [iE]
 unfold cY
 exact HC aJ
theorem HG{w:V}(hw:dc w): ∀ (n:Nat) (z:V) (one:Bool),dc z→co w n one z→co (wr w) n one (wr z)∧cQ (wr w) n one (wr z)=wr (cQ w n one z):=by
  intro n
  induction n with
  |zero=>intro z one _ h;exact h.elim
  |succ n ih=>
    intro z one hz hn
    obtain⟨hrw,hrt⟩:=nY hz
    by_cases hr:cI z
    · obtain⟨hl,tz,hp,hc⟩:=hn.1 hr
      have hkid:=gz hw hp
      have hst:dc tz:=⟨vD hw.1 hkid,xO hw.1 hw.2 hkid⟩
      have hp':PtV (wr w) (refT (wr z))=some (wr tz):=by rw [hrt,(Cc hw _).2,hp];rfl
      have hl':(wr z).keys.length=1:=by
        have h1:k3∈(wr z).keys:=by
          obtain⟨y,hy⟩:=Option.isSome_iff_exists.1 (hrw.2 hr)
          exact(List.of_mem_zip ((yJ (oo hz).1 (oo hz).2.kind).2 hy)).1
        have h2:(wr z).keys.length≤z.keys.length:=by
          have e:(wr z).keys=((z.keys.zip z.items).filter (fun p=>dv p.1)).map (·.1):=by rw [iE];unfold cY;simp [V.keys]
          rw [e,List.length_map]
          refine Nat.le_trans (List.length_filter_le _ _) ?_
          rw [List.length_zip]
          omega
        have h3:=List.length_pos_of_mem h1
        omega
      by_cases hk:one=true∨dC tz
      · have hk':=hk.imp id (ou hst).2
        refine⟨⟨fun _=>⟨hl',wr tz,hp',hk'.imp id .inl⟩,fun h=>absurd (hrw.2 hr) h⟩,?_⟩
        rw [uV hr hp hk,uV (hrw.2 hr) hp' hk',jY hz.2.kind,jY (rX z)]
      · have hg: ¬ dC tz∧ ¬ jX tz∧co w n false tz:=by
          rcases hc with e|e|e
          · exact absurd (.inl e) hk
          · exact absurd (.inr e) hk
          · exact e
        have hk': ¬ (one=true∨dC (wr tz)):=fun h=>hk (h.imp id (ou hst).1)
        obtain⟨i1,i2⟩:=ih tz false hst hg.2.2
        refine⟨⟨fun _=>⟨hl',wr tz,hp', .inr (.inr ⟨fun h=>hg.1 ((ou hst).1 h),Ee hst hg.2.1,i1⟩)⟩,fun h=>absurd (hrw.2 hr) h⟩,?_⟩
        rw [pS hr hp hk,pS (hrw.2 hr) hp' hk']
        exact i2
    · have hr': ¬ cI (wr z):=fun h=>hr (hrw.1 h)
      have hsub: ∀ p∈z.keys.zip z.items,FitLoc (bw p.1) p.2∧ ∀ y∈kidsOf (bw p.1) p.2,dc y∧co w n (decide (p.1=dg)) y:=fun p hp=>by
        have hg:=(yJ hz.1 hz.2.kind).1 (show(p.1,p.2)∈z.keys.zip z.items from hp)
        refine⟨(vC hz.2 hg).1,fun y hy=>?_⟩
        have hkid:=wI hz.1 hz.2.kind hg hy
        exact⟨⟨vD hz.1 hkid,xO hz.1 hz.2 hkid⟩,hn.2 hr p hp y hy⟩
      refine⟨⟨fun h=>absurd h hr',fun _ q hq x hx=>?_⟩,?_⟩
      · rw [gO]at hq
        obtain⟨p,hp,rfl⟩:=List.mem_map.1 hq
        have hp:=(List.mem_filter.1 hp).1
        obtain⟨hf,hs⟩:=hsub p hp
        obtain⟨y,hy,rfl⟩:=qQ rX hf hx
        exact(ih y _ (hs y hy).1 (hs y hy).2).1
      · rw [rJ hr,rJ hr']
        have e1:=gO z
        have e2:=gO (de (fun key=>cQ w n (decide (key=dg))) z)
        rw [fe,List.filter_map,List.map_map]at e2
        have ew:=HD (de (fun key=>cQ w n (decide (key=dg))) z)
        rw [ew,e2]
        show ox _=ox _
        rw [e1,List.map_map]
        congr 1
        refine List.map_congr_left fun p hp=>?_
        have hp:=(List.mem_filter.1 hp).1
        obtain⟨hf,hs⟩:=hsub p hp
        refine Prod.ext Z ?_
        show cA (bw p.1) (cQ (wr w) n (decide (p.1=dg))) (cA (bw p.1) wr p.2)=cA (bw p.1) wr (cA (bw p.1) (cQ w n (decide (p.1=dg))) p.2)
        rw [eu rX,eu (fun z=>gT n _ z)]
        refine gy fun y hy=>?_
        have h5:=(hs y hy).1.2.kind
        rw [if_pos h5,if_pos h5]
        exact(ih y _ (hs y hy).1 (hs y hy).2).2
def Ce(f:Flds)(name:ByteArray):Prop:=f 27=some (.tyS name)∨ ∃l,f 27=some (.tyL l)∧name∈l
theorem JN{l:List ByteArray}{p:ByteArray→Prop}{i:Nat}(h: ∀ j (h:j<l.length),j<i→p l[j])(hi:i<l.length)(h0:p l[i]): ∀ j (h:j<l.length),j<i+1→p l[j]:=fun j hj hlt=>by
  rcases Nat.lt_or_ge j i with h1|h1
  · exact h j hj h1
  · obtain rfl:j=i:=by omega
    exact h0
theorem JO{f:Flds}{s name:ByteArray}(h:f 27=some (.tyS s)):Ce f name↔s=name:=by
 unfold Ce
 rw [h]
 constructor
 ·rintro (e|⟨l,e,_⟩)
  ·injection e with e;injection e
  ·cases e
 ·rintro rfl;exact .inl rfl
theorem FY{f:Flds}{l:List ByteArray}{name:ByteArray}(h:f 27=some (.tyL l)):Ce f name↔name∈l:=by
 unfold Ce
 rw [h]
 constructor
 ·rintro (e|⟨l',e,hm⟩)
  ·cases e
  ·injection e with e;injection e with e;rw [e];exact hm
 ·exact fun e=> .inr ⟨l,rfl,e⟩
theorem JP{f:Flds}{name:ByteArray}(h:f 27=none): ¬ Ce f name:=by
 unfold Ce
 rw [h]
 rintro (e|⟨l,e,_⟩)<;>cases e
theorem JQ(mb b:Nat)(G:Gr)(cs:List Value)(f:Flds)(name:ByteArray)(hm:(b,cs,f)∈G)(hf:f 27=none):Ct Tryz.prog 123 #[cD b, .string name] [.many 124 (Gr.blks G)] [.graph mb G] (fun u M' D'=>u= .bool (tb (Ce f name))∧M'=[.many 124 (Gr.blks G)]∧D'=[]):=by
 refine Ct.of_run (args:=[cD b, .string name]) Tryz.func123 aF Z Tryz.ntmps123 Z (fun c=>?_)
 refine xQ 0 27 Z hm aE aE (fun p27 hc27 hp27=>?_)
 obtain rfl:p27=none:=by rw [hf]at hp27;cases p27 with|none=>rfl|some a=>cases hp27
 refine rO 13 Z (zC uS Z Z ?_)
 refine zA (yT 0 gC Z Z Z (xA hm) hc27 ?_)
 refine zA (yF p8 Z Z ?_)
 refine oR 8 Z ?_
 exact zD Tryz.results123 Z ⟨congrArg Value.bool ((tb_f (JP hf)).symm),rfl,rfl⟩ (List.Sublist.refl _) (fun _ h=>by cases h)
theorem JR(mb b:Nat)(G:Gr)(cs:List Value)(f:Flds)(name:ByteArray)(hm:(b,cs,f)∈G)(s:ByteArray)(hf:f 27=some (.tyS s)):Ct Tryz.prog 123 #[cD b, .string name] [.many 124 (Gr.blks G)] [.graph mb G] (fun u M' D'=>u= .bool (tb (Ce f name))∧M'=[.many 124 (Gr.blks G)]∧D'=[]):=by
 refine Ct.of_run (args:=[cD b, .string name]) Tryz.func123 aF Z Tryz.ntmps123 Z (fun c=>?_)
 refine xQ 0 27 Z hm aE aE (fun p27 hc27 hp27=>?_)
 refine vM 0 27 Z hm aE aE hc27 hf (vy 0 Z (fun bt pt hu hss=>?_))
 cases hu
 refine rO 13 Z (zC uS Z Z ?_)
 refine zA (yT 0 gC Z Z Z (xA hm) hc27 ?_)
 refine zA (yF p8 Z Z ?_)
 refine oO 9 Z (zC uS Z Z ?_)
 refine zA (yT 0 gC Z Z Z (xA hm) hc27 ?_)
 refine oO 3 Z (zC fL Z Z ?_)
 refine zA (yE cy Z Z (fun _ h=>rP h (j:=0) Z Z) ?_)
 refine zA (yF dN Z Z ?_)
 refine oK 1 [19,0,1] Z Z (rO 8 Z ?_)
 refine zC uS Z Z (zA ?_)
 refine yT 0 gC Z Z Z (xA hm) hc27 (oO 3 Z ?_)
 refine zC fL Z Z (zA ?_)
 refine yE cy Z Z (fun _ h=>rP h (j:=0) Z Z) (oO 3 Z ?_)
 refine yM 1 cv Z Z Z (oK 7 [4] Z Z ?_)
 exact zD Tryz.results123 Z ⟨congrArg Value.bool (lO (by rw [decide_eq_true_iff,JO hf])),rfl,rfl⟩ (List.Sublist.refl _) (fun _ h=>by cases h)
theorem JS(mb b:Nat)(G:Gr)(cs:List Value)(f:Flds)(name:ByteArray)(hm:(b,cs,f)∈G)(l:List ByteArray)(hf:f 27=some (.tyL l)):Ct Tryz.prog 123 #[cD b, .string name] [.many 124 (Gr.blks G)] [.graph mb G] (fun u M' D'=>u= .bool (tb (Ce f name))∧M'=[.many 124 (Gr.blks G)]∧D'=[]):=by
 refine Ct.of_run (args:=[cD b, .string name]) Tryz.func123 aF Z Tryz.ntmps123 Z (fun c=>?_)
 refine xQ 0 27 Z hm aE aE (fun p27 hc27 hp27=>?_)
 refine vM 0 27 Z hm aE aE hc27 hf (vz 0 Z (fun bt pt sl hu=>?_))
 cases hu
 refine lW 2 Z (fun A1 c1 hx hk1 hk2=>?_)
 subst hx
 unfold maxLen at hk2
 refine rO 13 Z (zC uS Z Z ?_)
 refine zA (yT 0 gC Z Z Z (xA hm) hc27 ?_)
 refine zA (yF p8 Z Z ?_)
 refine oO 9 Z (zC uS Z Z ?_)
 refine zA (yT 0 gC Z Z Z (xA hm) hc27 ?_)
 refine oO 3 Z (zC fL Z Z ?_)
 refine zA (yE cy Z Z (fun _ h=>rP h (j:=0) Z Z) ?_)
 refine zA (yF dN Z Z ?_)
 refine oK 1 [19,0,1] Z Z (rO 8 Z ?_)
 refine zC uS Z Z (zA ?_)
 refine yT 0 gC Z Z Z (xA hm) hc27 (oO 3 Z ?_)
 refine zC i7 Z Z (zA ?_)
 refine yE ig Z Z (fun _ h=>rP h (j:=0) Z Z) (zA ?_)
 refine yF p7 Z Z (oO 9 Z ?_)
 refine zC uS Z Z (zA ?_)
 refine yT 0 gC Z Z Z (xA hm) hc27 (oO 3 Z ?_)
 refine zC i7 Z Z (zA ?_)
 refine yE ig Z Z (fun _ h=>rP h (j:=0) Z Z) (oO 3 Z ?_)
 refine yM 1 dH Z Z Z (zA ?_)
 refine zX cG Z Z (oK 3 [49,48,47,1] Z Z ?_)
 refine rK 1 [49,48,47,1] Z Z (xF 1 (fun(i:Nat)=>i≤l.length∧ ∀ j (h:j<l.length),j<i→ ¬ l[j]=name) (fun(i:Nat)=>[(49, .int .i64 ((i:Nat):Int))]) (fun(i:Nat)=>l.length - i) 0 (⟨Nat.zero_le _,fun j _ h=>absurd h (Nat.not_lt_zero _)⟩) (eC Z (eN _)) ?_ (eC Z (eC Z (eC Z (eN _)))))
 intro i hI K hK
 change Run _ _ _ _ _ [(49,_),(48,_),(47,_),(1,_)] _ _
 obtain⟨hi,hno⟩:=hI
 refine rO 3 Z (yK Z Z Z ?_)
 refine oR 2 Z (zK Z (fun h50=>?_) (fun h50=>?_))
 ·refine rO 6 Z (wA 2 cG Z Z Z Z h50 ?_)
  refine zA (yE cv Z Z (fun _ h=>xK h (j:=2) Z (List.getElem?_eq_getElem h50)) ?_)
  refine oR 12 Z (zU Z (fun h55=>?_) (fun h55=>?_))
  ·refine rK 5 [4] Z Z ?_
   exact zD Tryz.results123 Z ⟨congrArg Value.bool ((tb_t ((FY hf).2 ((by simpa using h55:l[i]=name)▸List.getElem_mem h50))).symm),rfl,rfl⟩ (List.Sublist.refl _) (fun _ h=>by cases h)
  refine rO 4 Z (yD Z Z aC ?_)
  refine oR 3 Z ?_
  exact kQ (hK (i+1) (⟨aC,JN (p:=fun s=> ¬ s=name) hno h50 (by simpa using h55)⟩) aC)
 refine rR 6 Z ?_
 exact zD Tryz.results123 Z ⟨congrArg Value.bool ((tb_f (fun e=>by
  obtain⟨j,hj,he⟩:=List.getElem_of_mem ((FY hf).1 e)
  exact hno j hj aC he)).symm),rfl,rfl⟩ (List.Sublist.refl _) (fun _ h=>by cases h)
theorem LI(mb b:Nat)(G:Gr)(cs:List Value)(f:Flds)(name:ByteArray)(hm:(b,cs,f)∈G)(hft:FT f):Ct Tryz.prog 123 #[cD b, .string name] [.many 124 (Gr.blks G)] [.graph mb G] (fun u M' D'=>u= .bool (tb (Ce f name))∧M'=[.many 124 (Gr.blks G)]∧D'=[]):=by
  cases hf:f 27 with
  |none=>exact JQ mb b G cs f name hm hf
  |some fv=>
    have:=hft 27 fv aE aE hf
    have e:cU 27=12:=rfl
    rw [e]at this
    cases fv with
    |tyS s=>exact JR mb b G cs f name hm s hf
    |tyL l=>exact JS mb b G cs f name hm l hf
    |_=>simp [kU]at this
theorem zr{c:RX}{ε:Nat→Nat}{σ:ce}(hI:c.Inv ε σ): ∃f,σ c.b=some f∧Eqv f c.f:=by
 obtain⟨f,g,h1,h2,h3⟩:=hI.eq false c.b .top
 have he:ε c.b=c.b:=(hI.fls c.b .top).stay fun t hL=>by
  obtain⟨f2,ref,e1,e2,_⟩:=c.lnk_ref hL
  obtain⟨f',e3,hU⟩:=(wC _ _ _).1 c.hu
  have e4:=(lH (hU 3 aE aE)).2 c.hr
  rw [e1]at e3
  rw [←Option.some.inj e3,e2]at e4
  cases e4
 rw [he,c.hf]at h2
 rw [←Option.some.inj h2]at h3
 exact⟨f,h1,h3⟩
noncomputable abbrev jZ(c:RX)(mb ck:Nat):HA:= .obj mb (.map #[{key:= .string (eF c.w),val:=cD c.b,born:=0}] ck)
theorem Ef{c:RX}{N:Nat}(ht:co c.w N false c.w){one:Bool}{d:Nat}{f:Flds}{ref:ByteArray}(hd:c.RS one d)(hf:c.σ d=some f)(hr:f 3=some (.text ref)):ref.size≤200:=by
 obtain⟨n,z,hz,hu,_⟩:=c.told ht hd
 obtain⟨f',h1,hU⟩:=(wC _ _ _).1 hu
 obtain rfl:f'=f:=by rw [hf]at h1;exact(Option.some.inj h1).symm
 have h3:=hU 3 aE aE
 rw [hr]at h3
 obtain⟨key,x,_,hg,hF⟩:=h3
 obtain⟨_,e⟩:(1:Int)=1∧ref=x.text:=hF
 rw [e]
 exact lG (hz.1.item x (uG hg))
theorem JT{c:RX}{N:Nat}{ε:Nat→Nat}{σ:ce}{G:Gr}{d:Nat}{one:Bool}{f:Flds}{ref:ByteArray}(mb ck:Nat)(hroot:IsRootV c.w)(ht:co c.w N false c.w)(hI:c.Inv ε σ)(hG:GOk G σ)(hd:c.RS one d)(hf:σ d=some f)(hr3:f 3=some (.text ref)):
    ∃t g,c.Tgt ref t∧c.RS false t∧σ t=some g∧Ct Tryz.prog 114 #[cD c.b, .string ref] [.many 124 (Gr.blks G),jZ c mb ck] [.graph mb G] (fun u M' D'=>M'=[.many 124 (Gr.blks G),jZ c mb ck]∧D'=[.graph mb G]∧u= .tuple #[cD t, .nilIface]):=by
  obtain⟨f',g0,e1,e2,e3⟩:=hI.eq one d hd
  obtain rfl:f'=f:=by rw [hf]at e1;exact(Option.some.inj e1).symm
  have hsz:=Ef ht (hI.rs ht hd) e2 (by rw [←e3 3 aE aE];exact hr3)
  obtain⟨_,t,tz,hp,hT,hut,hrt,hst⟩:=c.refs ht (hI.rs ht hd) e2 (by rw [←e3 3 aE aE];exact hr3)
  obtain⟨g,_,hg,_,_⟩:=hI.eq false t hrt
  refine⟨t,g,hT,hrt,hg,?_⟩
  obtain⟨p,l,hh,hl,q,hq,hqn,rfl⟩:=id hT
  obtain⟨fr,hfr,hre⟩:=zr hI
  obtain⟨csr,hmr⟩:=(hG.2 _ _).2 hfr
  obtain⟨idv,p0,rest,h1,h2,h3,h4,h5,h6⟩:=ES c.hw.1 hroot hh
  have hid:eF c.w=idv.text:=by unfold eF;rw [h1];rfl
  obtain⟨fc,e4,hU⟩:=(wC _ _ _).1 c.hu
  obtain rfl:fc=c.f:=by have:=c.hf;rw [e4]at this;exact Option.some.inj this
  have hpt:=(qR hh).2.2
  unfold jZ
  rw [hid]
  refine(LH mb c.b ck G csr fr idv.text ref p0 rest p.2 (mY ref p.1 p.2) l hmr (by rw [hre 2 aE aE];exact G4 (hU 2 aE aE) h1) aC aC h2 h4 h5 hpt (fun e=>by rw [hre 32 aE aE];rw [if_pos e]at hl;exact hl) (fun e=>by rw [hre 23 aE aE];rw [if_neg (by rw [e];decide)]at hl;exact hl) h6).mono ?_
  rintro u M' D' ⟨rfl,rfl,o,er,rfl,hF,her⟩
  refine⟨rfl,rfl,?_⟩
  cases o with
  |none=>exact absurd hqn (hF q hq)
  |some b'=>
    obtain⟨q',hq',hn',rfl⟩:=hF
    have e:=c.tgt_fun hT ⟨p,l,hh,hl,q',hq',hn',rfl⟩
    rcases her with ⟨_,rfl⟩|⟨h,_⟩
    · rw [e];rfl
    · cases h
theorem mV{g:Flds}(h:Ce g mT∨g 30≠none∨g 22≠none):dY g:=h
theorem xh{G R R2:Gr}{b t:Nat}{cs ct:List Value}{f g:Flds}{X:List HA}(h1:G.Perm ((b,cs,f)::R))(h2:R.Perm ((t,ct,g)::R2)):HE (.many 124 (Gr.blks G)::X) (.blk b cs 124:: .blk t ct 124:: .many 124 (Gr.blks R2)::X):=
 HE.append (M:=[.many 124 (Gr.blks G)]) (N:=[.blk b cs 124, .blk t ct 124, .many 124 (Gr.blks R2)]) ((ri h1).trans (HE.append (M:=[.blk b cs 124]) (N:=[.blk b cs 124]) (HE.refl _) (ri h2))) (HE.refl X)
theorem Cf{R2:Gr}{b t:Nat}{cs ct:List Value}{f g:Flds}{X:List HA}:HE (.blk b cs 124:: .blk t ct 124:: .many 124 (Gr.blks R2)::X) (.many 124 (Gr.blks ((b,cs,f)::(t,ct,g)::R2))::X):=
 (xh (List.Perm.refl _) (List.Perm.refl _)).symm

noncomputable abbrev XR(c:RX)(mb ck cq rq:Nat)(n:Nat):List HA:=[.blk cq [.int .i64 (n:Nat)] 3, .blk rq [cD c.b] 63,jZ c mb ck]
theorem JU(C:RX)(mb ck cq rq n:Nat)(σ:ce)(b:Nat)(f:Flds)(ctx:ByteArray)(G:Gr)(hG:GOk G σ)(hf:σ b=some f)(hf3:f 3=none):Ct Tryz.prog 122 #[cD b, .string ctx,cD rq,cD cq] (.many 124 (Gr.blks G)::XR C mb ck cq rq n) [.graph mb G] (fun u M' D'=>u= .tuple #[]∧ ∃G',D'=[.graph mb G']∧((GOk G' σ∧M'= .many 124 (Gr.blks G')::XR C mb ck cq rq n∧(ctx=dX∨f 3=none∨ ∃ref t g,f 3=some (.text ref)∧C.Tgt ref t∧σ t=some g∧dY g))∨ ∃ref t g,ctx≠dX∧f 3=some (.text ref)∧C.Tgt ref t∧σ t=some g∧ ¬ dY g∧GOk G' (wz σ b (some (zy (f.put 3 none) g)))∧M'= .many 124 (Gr.blks G')::XR C mb ck cq rq (n+1))):=by
 obtain⟨cs,hm⟩:=(hG.2 b f).2 hf
 change Ct Tryz.prog 122 #[cD b, .string ctx,cD rq,cD cq] [.many 124 (Gr.blks G), .blk cq [.int .i64 (n:Nat)] 3, .blk rq [cD C.b] 63,jZ C mb ck] [.graph mb G] _
 refine Ct.of_run (args:=[cD b, .string ctx,cD rq,cD cq]) Tryz.func122 aF Z Tryz.ntmps122 Z (fun c=>?_)
 refine xQ 0 3 Z hm aE aE (fun p3 hc3 hp3=>?_)
 obtain rfl:p3=none:=by rw [hf3]at hp3;cases p3 with|none=>rfl|some a=>cases hp3
 refine rO 7 Z (zC pJ Z Z ?_)
 refine zA (yT 0 cy Z Z Z (xA hm) hc3 ?_)
 refine zA (yF dN Z Z ?_)
 refine oR 3 Z ?_
 refine yW (M':= .many 124 (Gr.blks G)::XR C mb ck cq rq n) (by repeat (first|exact zO _|refine zB 0 Z ?_|refine zB 1 Z ?_|refine zB 2 Z ?_|refine zB 3 Z ?_|refine zB 4 Z ?_|refine zB 5 Z ?_)) ?_
 exact tN Tryz.results122 ⟨rfl,G,rfl, .inl ⟨hG,rfl, .inr (.inl hf3)⟩⟩ (List.Sublist.refl _) aS
theorem JV(C:RX)(mb ck cq rq n:Nat)(σ:ce)(b:Nat)(f:Flds)(ctx:ByteArray)(G:Gr)(hG:GOk G σ)(hf:σ b=some f)(ref:ByteArray)(t:Nat)(g:Flds)(hf3:f 3=some (.text ref))(hT:C.Tgt ref t)(hg:σ t=some g)(hgt:FT g)(hne:t≠b)(hn:n<1000000000)(hct:Ct Tryz.prog 114 #[cD C.b, .string ref] [.many 124 (Gr.blks G),jZ C mb ck] [.graph mb G] (fun u M' D'=>M'=[.many 124 (Gr.blks G),jZ C mb ck]∧D'=[.graph mb G]∧u= .tuple #[cD t, .nilIface])):Ct Tryz.prog 122 #[cD b, .string ctx,cD rq,cD cq] (.many 124 (Gr.blks G)::XR C mb ck cq rq n) [.graph mb G] (fun u M' D'=>u= .tuple #[]∧ ∃G',D'=[.graph mb G']∧((GOk G' σ∧M'= .many 124 (Gr.blks G')::XR C mb ck cq rq n∧(ctx=dX∨f 3=none∨ ∃ref t g,f 3=some (.text ref)∧C.Tgt ref t∧σ t=some g∧dY g))∨ ∃ref t g,ctx≠dX∧f 3=some (.text ref)∧C.Tgt ref t∧σ t=some g∧ ¬ dY g∧GOk G' (wz σ b (some (zy (f.put 3 none) g)))∧M'= .many 124 (Gr.blks G')::XR C mb ck cq rq (n+1))):=by
 obtain⟨cs,hm⟩:=(hG.2 b f).2 hf
 change Ct Tryz.prog 122 #[cD b, .string ctx,cD rq,cD cq] [.many 124 (Gr.blks G), .blk cq [.int .i64 (n:Nat)] 3, .blk rq [cD C.b] 63,jZ C mb ck] [.graph mb G] _
 refine Ct.of_run (args:=[cD b, .string ctx,cD rq,cD cq]) Tryz.func122 aF Z Tryz.ntmps122 Z (fun c=>?_)
 obtain⟨cst,hmt⟩:=(hG.2 t g).2 hg
 refine xQ 0 3 Z hm aE aE (fun p3 hc3 hp3=>?_)
 refine xQ 0 30 Z hmt aE aE (fun p30 hc30 hp30=>?_)
 refine xQ 0 22 Z hmt aE aE (fun p22 hc22 hp22=>?_)
 refine vM 0 3 Z hm aE aE hc3 hf3 (en 0 Z (fun pt hu hss=>?_))
 cases hu
 refine rO 7 Z (zC pJ Z Z ?_)
 refine zA (yT 0 cy Z Z Z (xA hm) hc3 ?_)
 refine zA (yF dN Z Z ?_)
 refine oR 3 Z (yX yI ?_)
 refine zS (tP 1 Z br (zZ Z) ?_)
 refine tP 2 Z br (yV Z) (tP 3 Z br (yA pJ Z) ?_)
 refine tE (zB 0 Z (zB 1 Z (zO _))) (wE (zB 0 Z (zB 1 Z (zO _))) 0 (yS _ _ _ _) Z br aD aD aD Z (wL da Z (fun _ h=>dQ h (i:=1) Z Z)) ?_)
 refine wE (zB 0 Z (zB 1 Z (zO _))) 4 (yS _ _ _ _) Z br aD aD aD Z (wL cy Z (fun _ h=>nC h (i:=0) Z (xA hm) hc3)) (zS ?_)
 refine tP 5 Z br (yV Z) (eK ?_)
 refine qM 6 (yS _ _ _ _) Z br aD aD aD Z (te 0 cv Z Z) (zN 7 aD ?_)
 refine zP (I2:=[[],[],[],[],[]]) Z br aD (fun Kd hKd=>?_)
 refine rE 0 2 Z Z Z hct Z Z aS (fun u21 M21 D21 hv21=>?_)
 obtain⟨rfl,rfl,rfl⟩:=hv21
 refine hKd _ _ _ (zE (zE (zE (zE (zE (zQ)))))) (zS ?_)
 refine tP 8 Z br (zZ Z) (tP 9 Z br (fK Z Z) ?_)
 refine tP 10 Z br (fK Z Z) (tP 11 Z br (yZ Z) ?_)
 refine tP 12 Z br (yZ Z) (yG aD ?_)
 refine rK 0 [7,6,0,1,3] Z Z (rO 5 Z ?_)
 refine mC EB Z Z (oO 7 Z ?_)
 refine xU 0 Z Z Z (LI mb t G cst g mT hmt hgt) Z aS (fun u27 M27 D27 hv27=>?_)
 obtain⟨rfl,rfl,rfl⟩:=hv27
 refine zY (zU Z (fun h27=>?_) (fun h27=>?_))
 ·refine wB ?_
  refine yW (M':= .many 124 (Gr.blks G)::XR C mb ck cq rq n) (by repeat (first|exact zO _|refine zB 0 Z ?_|refine zB 1 Z ?_|refine zB 2 Z ?_|refine zB 3 Z ?_|refine zB 4 Z ?_|refine zB 5 Z ?_)) ?_
  exact tN Tryz.results122 ⟨rfl,G,rfl, .inl ⟨hG,rfl, .inr (.inr ⟨ref,t,g,hf3,hT,hg,mV (.inl (yP.1 h27))⟩)⟩⟩ (List.Sublist.refl _) aS
 refine rR 7 Z (zU Z (fun h29=>?_) (fun h29=>?_))
 ·refine wB ?_
  refine yW (M':= .many 124 (Gr.blks G)::XR C mb ck cq rq n) (by repeat (first|exact zO _|refine zB 0 Z ?_|refine zB 1 Z ?_|refine zB 2 Z ?_|refine zB 3 Z ?_|refine zB 4 Z ?_|refine zB 5 Z ?_)) ?_
  exact tN Tryz.results122 ⟨rfl,G,rfl, .inl ⟨hG,rfl, .inl (of_decide_eq_true h29)⟩⟩ (List.Sublist.refl _) aS
 refine rO 7 Z (zC qW Z Z ?_)
 refine zA (yT 0 dm Z Z Z (xA hmt) hc30 ?_)
 refine zA (yF fm Z Z ?_)
 refine oK 1 [34,6,0,3] Z Z (zU Z (fun h34=>?_) (fun h34=>?_))
 ·refine wB ?_
  refine yW (M':= .many 124 (Gr.blks G)::XR C mb ck cq rq n) (by repeat (first|exact zO _|refine zB 0 Z ?_|refine zB 1 Z ?_|refine zB 2 Z ?_|refine zB 3 Z ?_|refine zB 4 Z ?_|refine zB 5 Z ?_)) ?_
  exact tN Tryz.results122 ⟨rfl,G,rfl, .inl ⟨hG,rfl, .inr (.inr ⟨ref,t,g,hf3,hT,hg,mV (.inr (.inl (fun e=>by rw [e]at hp30;rw [h34]at hp30;cases hp30)))⟩)⟩⟩ (List.Sublist.refl _) aS
 refine rO 7 Z (zC qV Z Z ?_)
 refine zA (yT 0 gB Z Z Z (xA hmt) hc22 ?_)
 refine zA (yF lw Z Z ?_)
 refine zY (zU Z (fun h39=>?_) (fun h39=>?_))
 ·refine wB ?_
  refine yW (M':= .many 124 (Gr.blks G)::XR C mb ck cq rq n) (by repeat (first|exact zO _|refine zB 0 Z ?_|refine zB 1 Z ?_|refine zB 2 Z ?_|refine zB 3 Z ?_|refine zB 4 Z ?_|refine zB 5 Z ?_)) ?_
  exact tN Tryz.results122 ⟨rfl,G,rfl, .inl ⟨hG,rfl, .inr (.inr ⟨ref,t,g,hf3,hT,hg,mV (.inr (.inr (fun e=>by rw [e]at hp22;rw [h39]at hp22;cases hp22)))⟩)⟩⟩ (List.Sublist.refl _) aS
 refine rS 4 Z ?_
 obtain⟨cs1,R1,hp1,hR1⟩:=hG.split hf
 have hutg0:(wz σ b none) t=some g:=(gP hne none).trans hg
 obtain⟨ct,R2,hp2,hR2⟩:=hR1.split hutg0
 have hutg:=hutg0
 refine oa (xh hp1 hp2) (jI (.flds mb ct g) (fun w ok hh=>(hh (.graph mb G) aj:(DA.graph mb G).p w ok) _ (hp1.mem_iff.2 (List.mem_cons_of_mem _ (hp2.mem_iff.2 List.mem_cons_self)))) ?_)
 refine jI (.flds mb cs1 f) (fun w ok hh=>(hh (.graph mb G) aj:(DA.graph mb G).p w ok) _ (hp1.mem_iff.2 List.mem_cons_self)) (o0 (p:=cs1.length=37) (fun w ok hh=>(dget hh 0 Z:CellsP w ok mb cs1 f).1) (fun hl1=>?_))
 refine jI (.flds mb (cs1.set 3 (.pointer none)) (f.put 3 none)) (fun w ok hh=>mJ (hh (.flds mb cs1 f) List.mem_cons_self:CellsP w ok mb cs1 f) aE Z (fun fv e=>by cases e)) (oO 3 Z ?_)
 refine zC pJ Z Z (zA ?_)
 refine eh 0 Z Z Z Z Z dz aC (oK 1 [6,0,3] Z Z ?_)
 refine rO 7 Z (rA (M1:=[_,_]) Z Z Z (M4 b t mb mb (cs1.set 3 (.pointer none)) ct (f.put 3 none) g) Z (cn 0 2 Z Z) (fun u45 M45 D45 hv45=>?_))
 obtain⟨rfl,cs45,rfl,rfl⟩:=hv45
 refine oO 3 Z (zG 4 Hl Z Z Z Z ?_)
 refine zA (xL (s:=((n+1:Nat):Int)) Z Z Z aC aC aC ?_)
 refine zA (zF 4 (M':=[_,_,_,_,HA.blk _ [_] _,_]) Z Z Z Z Hm Z Z Z ?_)
 refine zY ?_
 have hnk: ¬ dY g:=by
  rintro (e|e|e)
  ·exact wD.1 h27 e
  ·cases hg30:g 30 with
   |none=>exact e hg30
   |some a=>rw [hg30,h34]at hp30;cases hp30
  ·cases hg22:g 22 with
   |none=>exact e hg22
   |some a=>rw [hg22,h39]at hp22;cases hp22
 have hj2:=hR2.join ct g
 rw [B9 (hutg)]at hj2
 have hj:=hj2.join cs45 (zy (f.put 3 none) g)
 refine Gp (N:= .many 124 (Gr.blks ((b,cs45,zy (f.put 3 none) g)::(t,ct,g)::R2))::_) ((HE.perm (List.Perm.refl _)).trans Cf) (yO (.graph mb ((b,cs45,zy (f.put 3 none) g)::(t,ct,g)::R2)) (fun w ok hh x hx=>?_) ?_)
 ·have hgr:(DA.graph mb G).p w ok:=hh _ aj
  rcases List.mem_cons.1 hx with e|e
  ·rw [e];exact(hh (.flds mb cs45 (zy (f.put 3 none) g)) aj:_)
  ·exact hgr x (hp1.mem_iff.2 (List.mem_cons_of_mem _ (hp2.mem_iff.2 e)))
 refine yW (M':= .many 124 (Gr.blks ((b,cs45,zy (f.put 3 none) g)::(t,ct,g)::R2))::XR C mb ck cq rq (n+1)) (by repeat (first|exact zO _|refine zB 0 Z ?_|refine zB 1 Z ?_|refine zB 2 Z ?_|refine zB 3 Z ?_|refine zB 4 Z ?_|refine zB 5 Z ?_)) ?_
 exact tN Tryz.results122 ⟨rfl,_,rfl, .inr ⟨ref,t,g,of_decide_eq_false h29,hf3,hT,hg,hnk,hj,rfl⟩⟩ (List.Sublist.refl _) (cC 0 Z)
abbrev uw(L:List Nat)(mu:Nat→Nat)(ε:Nat→Nat):Nat:=(L.map (fun d=>mu (ε d))).sum
theorem Cg{c:RX}{N:Nat}{mu:Nat→Nat}{ε:Nat→Nat}{σ:ce}(ht:co c.w N false c.w)(hmu:c.Mu mu)(hI:c.Inv ε σ){t:Nat}{f:Flds}{ref:ByteArray}(hrt:c.RS false t)(hf:σ t=some f)(hf3:f 3=some (.text ref))(hT:c.Tgt ref t):False:=by
 obtain⟨f',g0,e1,e2,e3⟩:=hI.eq false t hrt
 obtain rfl:f'=f:=by rw [hf]at e1;exact(Option.some.inj e1).symm
 have hr0:g0 3=some (.text ref):=by rw [←e3 3 aE aE];exact hf3
 have hre:=hI.rs ht hrt
 obtain⟨hal,t',tz,_,hT',hut,_,_⟩:=c.refs ht hre e2 hr0
 obtain rfl:=c.tgt_fun hT hT'
 obtain⟨gt,hgt,_⟩:=(wC _ _ _).1 hut
 have hch:=hI.fls t hrt
 have hnk: ¬ dY gt:=by
  by_cases e:ε t=t
  ·rw [e,hgt]at e2
   rw [Option.some.inj e2]
   exact ut hal
  ·rcases hch.two with e'|⟨t1,hl,_⟩
   ·exact absurd e' e
   ·obtain⟨f0,ref0,a1,a2,_⟩:=c.lnk_ref hl
    have ef:gt=f0:=Option.some.inj (hgt.symm.trans a1)
    rw [ef]
    exact ut (c.refs ht hrt a1 a2).1
 have h5:=hmu.lnk hre (⟨g0,ref,gt,e2,hr0,hT,hgt,hnk⟩:c.Lnk (ε t) t)
 have h6:=c.ch_mu ht hmu hch hrt
 omega
theorem LJ{c:RX}{N:Nat}(mb ck cq rq K:Nat)(hroot:IsRootV c.w)(ht:co c.w N false c.w)(h1:c.One){mu:Nat→Nat}(hmu:c.Mu mu)(hK:K<1000000000):FX c Tryz.prog 122 #[cD rq,cD cq] mb (XR c mb ck cq rq) [] K:=by
  intro n ε σ b f ctx G hn hI hS hf hG
  obtain⟨o,ho⟩: ∃o,o=f 3:=⟨_,rfl⟩
  have hf3:=ho.symm
  clear ho
  cases o with
  |none=>exact JU c mb ck cq rq n σ b f ctx G hG hf hf3
  |some fv=>
    obtain⟨f',hf',hft,_⟩:=hI.kid ht hmu hS
    obtain rfl:f'=f:=by rw [hf]at hf';exact(Option.some.inj hf').symm
    have hok:=hft 3 fv aE aE hf3
    obtain⟨ref,rfl⟩: ∃ref,fv= .text ref:=by
      have e:cU 3=1:=rfl
      rw [e]at hok
      cases fv<;>first|exact⟨_,rfl⟩|exact absurd hok bq
    obtain⟨t,g,hT,hrt,hg,hct⟩:=JT mb ck hroot ht hI hG hS hf hf3
    obtain⟨g',hg',hgt,_⟩:=hI.kid ht hmu hrt
    obtain rfl:g'=g:=by rw [hg]at hg';exact(Option.some.inj hg').symm
    refine JV c mb ck cq rq n σ b _ ctx G hG hf ref t _ hf3 hT hg hgt (fun e=>?_) aC hct
    subst e
    exact Cg ht hmu hI hrt hf hf3 hT

theorem NA(C:RX)(mb ck N:Nat)(G0:Gr)(L:List Nat)(mu:Nat→Nat)(hroot:IsRootV C.w)(ht:co C.w N false C.w)(h1:C.One)(hmu:C.Mu mu)(hL: ∀ one d,C.RS one d→d∈L)(hphi:uw L mu id<999999999)(hG0:GOk G0 C.σ):Ct Tryz.prog 82 #[cD C.b] [.many 124 (Gr.blks G0),jZ C mb ck] [.graph mb G0] (fun u M' D'=>u= .tuple #[]∧ ∃G' σ',GOk G' σ'∧fF σ' (cQ C.w N false C.w) C.b∧M'=[.many 124 (Gr.blks G'),jZ C mb ck]∧D'=[.graph mb G']):=by
 refine Ct.of_run (args:=[cD C.b]) Tryz.func82 aF Z Tryz.ntmps82 Z (fun c=>?_)
 refine rO 5 Z (zT J6 Z (fun b2=>?_))
 change bu _ _ _ _ _ _ _ _ (HA.blk _ [_] _::_) _
 refine zA (zF 0 (M':=[HA.blk _ [_] _,_,_]) Z Z Z Z DJ Z Z Z ?_)
 refine oO 4 Z (zT MD Z (fun b3=>?_))
 change bu _ _ _ _ _ _ _ _ (HA.blk _ [_] _::_) _
 refine zA (zF 0 (M':=[HA.blk _ [_] _,_,_,_]) Z Z Z Z Hm Z Z Z ?_)
 refine oK 2 [3,2,0] Z Z ?_
 refine yW (M':=HA.many 124 (Gr.blks G0)::HA.blk b3 [.int .i64 ((1:Nat):Int)] 3::HA.blk b2 [cD C.b] 63::jZ C mb ck::[]) (by repeat (first|exact zO _|refine zB 0 Z ?_|refine zB 1 Z ?_|refine zB 2 Z ?_|refine zB 3 Z ?_|refine zB 4 Z ?_|refine zB 5 Z ?_)) ?_
 refine yR 0 (fun(⟨n,ε,σ,G⟩:Nat×(Nat→Nat)×ce×Gr)=>C.Inv ε σ∧GOk G σ∧uw L mu ε+n≤uw L mu id+1∧(n=0→ ∀ d,C.RS false d→ ∀ t,¬ C.Lnk (ε d) t)) (fun(⟨n,ε,σ,G⟩:Nat×(Nat→Nat)×ce×Gr)=>[]) (fun(⟨n,ε,σ,G⟩:Nat×(Nat→Nat)×ce×Gr)=>HA.many 124 (Gr.blks G)::HA.blk b3 [.int .i64 (n:Nat)] 3::HA.blk b2 [cD C.b] 63::jZ C mb ck::[]) (fun(⟨n,ε,σ,G⟩:Nat×(Nat→Nat)×ce×Gr)=> .graph mb G::[]) (fun(⟨n,ε,σ,G⟩:Nat×(Nat→Nat)×ce×Gr)=>uw L mu ε+n) (1,id,C.σ,G0) (⟨RX.inv0 ht,hG0,Nat.le_refl _,fun e=>by cases e⟩) (eN _) Z Z ?_ (eC Z (eC Z (eC Z (eN _))))
 intro ⟨n,ε,σ,G⟩ hI K hK
 change Run _ _ _ _ _ [(3,_),(2,_),(0,_)] [_,_,_,_] [_]
 obtain⟨hI0,hG,hpn,hfx⟩:=hI
 refine rO 4 Z (zG 1 Hl Z Z Z Z ?_)
 refine zA (wU Z Z Z ?_)
 refine zY (zK Z (fun h6=>?_) (fun h6=>?_))
 ·refine rO 5 Z (zF 1 (M':=[_,HA.blk _ [_] _,_,_]) Z Z Z Z Hm Z Z Z ?_)
  refine oO 5 Z (rZ Z Z Z ?_)
  refine zA ?_
  have hok:=G7 (mb:=mb) (X:=XR C mb ck b3 b2) (D0:=[]) (K:=uw L mu ε) ht h1 hmu hL (LJ mb ck b3 b2 (uw L mu ε) hroot ht h1 hmu aC)
  refine ro Z Z Z (LD (JM C mb (XR C mb ck b3 b2) [] L mu (uw L mu ε)) 122 #[cD b2,cD b3] hok C.b ((0,ε),σ) G ⟨#[]⟩ .top ⟨hI0,by show 0+uw L mu ε≤_;omega⟩ hG) (cC 0 Z) (fun u9 M9 D9 hv9=>?_)
  obtain⟨rfl,⟨⟨n9,ε9⟩,σ9⟩,G9,⟨hI9,hK9⟩,hG9,rfl,rfl,_,hdn9,_⟩:=hv9
  refine oR 2 Z ?_
  exact kQ (hK (n9,ε9,σ9,G9) (⟨hI9,hG9,(by have:n9+uw L mu ε9≤uw L mu ε:=hK9;omega),fun e d hd tt=>((hdn9.resolve_left (by show ¬ 0<n9;omega)) false d (hI9.all ht hd) Z tt)⟩) (by have:n9+uw L mu ε9≤uw L mu ε:=hK9;have:0<n:=(by exact_mod_cast h6);show uw L mu ε9+n9<uw L mu ε+n;omega)) (hD:=(cR 0 Z (by intro d hd;cases hd)))
 have hn0:n=0:=by have: ¬ (0:Int)<(n:Int):=h6;omega
 refine tB Z ?_
 refine yW (M':=[.many 124 (Gr.blks G),jZ C mb ck]) (by repeat (first|exact zO _|refine zB 0 Z ?_|refine zB 1 Z ?_|refine zB 2 Z ?_|refine zB 3 Z ?_|refine zB 4 Z ?_|refine zB 5 Z ?_)) ?_
 exact tN Tryz.results82 ⟨rfl,G,σ,hG,hI0.fin ht (hfx hn0) N C.w false C.b .top C.hw ht C.hu,rfl,rfl⟩ (List.Sublist.refl _) (cC 0 Z)
section rules
variable {P:Program} {n:Nat} {F:List Nat} {c:Ctx F} {ops:Array Oper} {d:Nat} {T:TypeId} {l:List Oper} {k:List KI} {Q:Post} {e:cp} {M:List HA} {D:List DA}
theorem rz(i:Nat){A:Option Addr}{m cap E:Nat}{xs:List Value}(ks:List ByteArray)(hA: ∀ a,A=some a→c.w0.heap.size≤a.block)(hi:M[i]? =some (.row A m cap E 1 xs))(hx:xs=ks.map Value.string)(hs: ∀ s∈ks,s.size≤maxLen)(next:Run P n c k Q e (M.eraseIdx i) (.strs (.slice A m cap) ks::D)):Run P n c k Q e M D:=
  kM i [.strs (.slice A m cap) ks] (fun b hb=>by
    cases A with
    |none=>cases hb
    |some a=>rw [List.mem_singleton.1 hb];exact hA a rfl) hi (fun w ok h hok hD d hd=>by
    rcases List.mem_singleton.1 hd with rfl
    exact kB h hok hx hs) next
end rules
inductive Ci {α:Type} (Rl:V→α→α→V→Prop) (a0:α):kT→α→kT→Prop where
  |nil:Ci Rl a0 [] a0 []
  |step {l l':kT} {a a1:α} {p:ByteArray×V} {v:V} (h:Ci Rl a0 l a l') (hr:dM Rl (bw p.1) p.2 a a1 v):Ci Rl a0 (l++[p]) a1 (l'++[(p.1,v)])
theorem ja(ks:List ByteArray)(ts:List V)(i:Nat)(h:ks.length≤ts.length):((ks.zip ts).take i).map (·.1)=ks.take i:=by
 rw [List.map_take,List.map_fst_zip h]



section rules
variable {P:Program} {n:Nat} {F:List Nat} {c:Ctx F} {ops:Array Oper} {d:Nat} {T:TypeId} {l:List Oper} {k:List KI} {Q:Post} {e:cp} {M:List HA} {D:List DA}
end rules
theorem JW{l:List V}{p:V→Prop}{i:Nat}(h: ∀ j (h:j<l.length),j<i→p l[j])(hi:i<l.length)(h0:p l[i]): ∀ j (h:j<l.length),j<i+1→p l[j]:=fun j hj hlt=>by
  rcases Nat.lt_or_ge j i with h1|h1
  · exact h j hj h1
  · obtain rfl:j=i:=by omega
    exact h0
theorem gW{t own:V}{name:ByteArray}(h:own=(getV t k27).getD zV):eE t name↔(own.kind=3∧own.text=name)∨(own.kind≠3∧ ∃y∈own.items,y.text=name):=by
 subst h
 exact Iff.rfl
theorem r0{own:V}{name:ByteArray}{i:Nat}(h3: ¬ own.kind=3)(hi:own.items.length≤i)(h: ∀ j (h:j<own.items.length),j<i→ ¬ own.items[j].text=name): ¬ ((own.kind=3∧own.text=name)∨(own.kind≠3∧ ∃y∈own.items,y.text=name)):=by
 rintro (e|⟨_,y,hy,e⟩)
 ·exact h3 e.1
 ·obtain⟨j,hj,rfl⟩:=List.getElem_of_mem hy
  exact h j hj aC e

theorem LK(t:V)(name:ByteArray)(hp:Pl t)(x:Value):dP Tryz.prog 171 #[x, .string name] [.val x t] (.bool (tb (eE t name))):=by
 refine Ct.of_run (args:=[x, .string name]) Tryz.func171 aF Z Tryz.ntmps171 Z (fun c=>?_)
 refine xB 0 Z (fun A1 c1 A2 c2 hx hsz1 hk1 hk2 hi1 hi2=>?_)
 subst hx
 have hle:=hp.wf.le
 have hmx:maxLen≤9223372036854775807:=by decide
 refine rO 3 Z (yN Z Z Z (fun b2=>?_))
 refine oO 6 Z (zL 0 Z cB Z Z ?_)
 refine zA ?_
 refine zW Z Z Z (y9 _ t k27 hle) aA (fun u11 D11 hv11=>?_)
 obtain⟨own,hown⟩: ∃own,own=(getV t k27).getD zV:=⟨_,rfl⟩
 rw [←hown]at hv11
 obtain⟨_,rfl,A11,m11,B11,d11,rfl,rfl⟩:=hv11
 refine oO 7 Z (zT cl Z (fun b5=>?_))
 change bu _ _ _ _ _ _ _ _ (HA.blk _ [_,_,_,_,_] _::_) _
 refine zA (zF 0 (M':=[HA.blk _ [_,_,_,_,_] _,_]) Z Z Z Z cN Z Z Z ?_)
 refine oK 3 [5,1] Z Z (rO 4 Z ?_)
 refine zC vR Z Z (zA ?_)
 refine zG 0 eJ Z Z Z Z (oR 3 Z ?_)
 refine zU Z (fun h16=>?_) (fun h16=>?_)
 ·refine rO 3 Z (zC sH Z Z ?_)
  refine zA (zG 0 cv Z Z Z Z ?_)
  refine oK 7 [4] Z Z ?_
  exact zD Tryz.results171 Z ⟨congrArg Value.bool (lO (by rw [decide_eq_true_iff,gW hown];exact⟨fun e=> .inl ⟨of_decide_eq_true h16,e⟩,fun e=>e.elim (fun e=>e.2) (fun e=>absurd (of_decide_eq_true h16) e.1)⟩)),rfl,rfl⟩ nS (fun _ h=>by cases h)
 refine rO 5 Z (zC xG Z Z ?_)
 refine zA (zG 0 dK Z Z Z Z ?_)
 refine zA (zX cV Z Z ?_)
 refine oK 4 [24,23,22,1] Z Z (xB 0 Z (fun A3 c3 A4 c4 hx hsz3 hk3 hk4 hi3 hi4=>?_))
 cases hx
 refine sY (D':= .strs (.slice A11 own.keys.length m11) own.keys:: .vals (.slice B11 own.items.length d11) own.items:: .val (.agg #[.int .i64 own.kind, .int .i64 own.num, .string own.text, .slice A11 own.keys.length m11, .slice B11 own.items.length d11]) own::[]) aR (yR 1 (fun(i:Nat)=>i≤own.items.length∧ ∀ j (h:j<own.items.length),j<i→ ¬ own.items[j].text=name) (fun(i:Nat)=>[(24, .int .i64 ((i:Nat):Int))]) (fun(i:Nat)=>HA.blk b5 [.int .i64 own.kind, .int .i64 own.num, .string own.text, .slice A11 own.keys.length m11, .slice B11 own.items.length d11] 25::HA.blk b2 [.int .i64 t.kind, .int .i64 t.num, .string t.text, .slice A1 t.keys.length c1, .slice A2 t.items.length c2] 25::[]) (fun(i:Nat)=> .strs (.slice A11 own.keys.length m11) own.keys:: .vals (.slice B11 own.items.length d11) own.items:: .val (.agg #[.int .i64 own.kind, .int .i64 own.num, .string own.text, .slice A11 own.keys.length m11, .slice B11 own.items.length d11]) own::[]) (fun(i:Nat)=>own.items.length - i) 0 (⟨Nat.zero_le _,fun j _ h=>absurd h (Nat.not_lt_zero _)⟩) (eC Z (eN _)) Z Z ?_ (eC Z (eC Z (eC Z (eN _)))))
 intro i hI K hK
 change Run _ _ _ _ _ [(24,_),(23,_),(22,_),(1,_)] _ _
 obtain⟨hi,hno⟩:=hI
 refine rO 3 Z (yK Z Z Z ?_)
 refine oR 2 Z (zK Z (fun h25=>?_) (fun h25=>?_))
 ·refine rO 6 Z (wM 1 cV Z Z Z Z h25 ?_)
  refine zA (wJ 1 cB Z Z Z (List.getElem?_eq_getElem h25) (fun A27 c27 B27 d27=>?_))
  refine zA (zT cl Z (fun b8=>?_))
  change bu _ _ _ _ _ _ _ _ (HA.blk _ [_,_,_,_,_] _::_) _
  refine zA (zF 0 (M':=[HA.blk _ [_,_,_,_,_] _,_,_]) Z Z Z Z cN Z Z Z ?_)
  refine oO 4 Z (zC sH Z Z ?_)
  refine zA (zG 0 cv Z Z Z Z ?_)
  refine oR 5 Z (zU Z (fun h31=>?_) (fun h31=>?_))
  ·refine rK 5 [4] Z Z ?_
   exact zD Tryz.results171 Z ⟨congrArg Value.bool ((tb_t ((gW hown).2 (.inr ⟨of_decide_eq_false h16,_,List.getElem_mem h25,of_decide_eq_true h31⟩))).symm),rfl,rfl⟩ nS (fun _ h=>by cases h)
  refine rO 4 Z (yD Z Z aC ?_)
  refine oK 3 [24,23,22,1] Z Z ?_
  exact kQ (hK (i+1) (⟨aC,JW (p:=fun z=> ¬ z.text=name) hno h25 (of_decide_eq_false h31)⟩) aC) (hD:=(cR 1 Z sQ))
 refine rR 6 Z ?_
 exact zD Tryz.results171 Z ⟨congrArg Value.bool ((tb_f (fun e=>r0 (of_decide_eq_false h16) aC hno ((gW hown).1 e))).symm),rfl,rfl⟩ nS (fun _ h=>by cases h)
theorem LL(z:V)(hp:Pl z)(y:Value):dP Tryz.prog 172 #[y] [.val y z] (.bool (tb ((getV z dg).isSome=true))):=by
 refine Ct.of_run (args:=[y]) Tryz.func172 aF Z Tryz.ntmps172 Z (fun c=>?_)
 refine xB 0 Z (fun A1 c1 A2 c2 hx hsz1 hk1 hk2 hi1 hi2=>?_)
 subst hx
 have hle:=hp.wf.le
 have hmx:maxLen≤9223372036854775807:=by decide
 refine rO 3 Z (yN Z Z Z (fun b1=>?_))
 refine oO 6 Z (zL 0 Z cB Z Z ?_)
 refine zA (zJ Z Z Z (C7 _ z _) (cC 2 Z) ?_)
 refine zA (tY Z Z Z ?_)
 refine oR 3 Z ?_
 exact zD Tryz.results172 Z ⟨congrArg Value.bool (lO (by rw [decide_eq_true_iff];exact tO hle)),rfl,rfl⟩ nS (fun _ h=>by cases h)
theorem LM(z:V)(hp:Pl z)(y:Value):dP Tryz.prog 119 #[y] [.val y z] (.bool (tb (cI z))):=by
 refine Ct.of_run (args:=[y]) Tryz.func119 aF Z Tryz.ntmps119 Z (fun c=>?_)
 refine xB 0 Z (fun A1 c1 A2 c2 hx hsz1 hk1 hk2 hi1 hi2=>?_)
 subst hx
 have hle:=hp.wf.le
 have hmx:maxLen≤9223372036854775807:=by decide
 refine rO 3 Z (yN Z Z Z (fun b1=>?_))
 refine oO 6 Z (zL 0 Z cB Z Z ?_)
 refine zA (zJ Z Z Z (C7 _ z _) (cC 2 Z) ?_)
 refine zA (tY Z Z Z ?_)
 refine oR 3 Z ?_
 exact zD Tryz.results119 Z ⟨congrArg Value.bool (lO (by rw [decide_eq_true_iff];exact tO hle)),rfl,rfl⟩ nS (fun _ h=>by cases h)
theorem JX(v:V)(hp:Pl v)(x:Value):dP Tryz.prog 116 #[x] [.val x v] (.tuple #[.string (refT v), .bool (tb (cI v∧v.keys.length=1))]):=by
 refine Ct.of_run (args:=[x]) Tryz.func116 aF Z Tryz.ntmps116 Z (fun c=>?_)
 refine xB 0 Z (fun A1 c1 A2 c2 hx hsz1 hk1 hk2 hi1 hi2=>?_)
 subst hx
 have hle:=hp.wf.le
 have hmx:maxLen≤9223372036854775807:=by decide
 refine rO 3 Z (yN Z Z Z (fun b1=>?_))
 refine oO 8 Z (zL 0 Z cB Z Z ?_)
 refine zA ?_
 refine zW Z Z Z (y9 _ v k3 hle) aA (fun u8 D8 hv8=>?_)
 obtain⟨xe,hxe0⟩: ∃z,z=(getV v k3).getD zV:=⟨_,rfl⟩
 have hxe:refT v=xe.text:=by unfold refT;rw [hxe0]
 rw [←hxe0]at hv8
 obtain⟨_,rfl,A8,m8,B8,d8,rfl,rfl⟩:=hv8
 refine oO 7 Z (zT cl Z (fun b4=>?_))
 change bu _ _ _ _ _ _ _ _ (HA.blk _ [_,_,_,_,_] _::_) _
 refine zA (zF 0 (M':=[HA.blk _ [_,_,_,_,_] _,_]) Z Z Z Z cN Z Z Z ?_)
 refine oR 4 Z (yX yI ?_)
 refine zS (tP 0 Z br (yA sH Z) ?_)
 refine tP 2 Z br (zZ Z) (tP 3 Z br (zZ Z) ?_)
 refine pX (s:=14) Z (fun h14=>?_) (fun h14=>?_)
 ·refine tP 4 Z (cT Z Z) (yA xT Z) (yH ?_)
  refine tM 1 Z br (xD 0 cv Z Z Z) (zS ?_)
  refine tP 9 Z br (yZ Z) (yH ?_)
  refine tM 5 Z (cT Z Z) (xD 1 dH Z Z Z) (tM 6 Z (cT Z Z) (gA cG Z) ?_)
  refine tM 7 Z (cT Z Z) (lR Z Z) (zS ?_)
  refine tP 8 Z br (rB Z Z) (tP 10 Z br (yZ Z) ?_)
  refine yG aD (rK 0 [3,2] Z Z ?_)
  exact vF Tryz.results116 Z Z ⟨(by rw [hxe];exact congrArg (fun b=>Value.tuple #[.string xe.text, .bool b]) (lO (by rw [decide_eq_true_iff];exact⟨fun e=>⟨(h14:(getV v k3).isSome=true),by exact_mod_cast e⟩,fun e=>by exact_mod_cast e.2⟩))),rfl,rfl⟩ nS (fun _ h=>by cases h)
 refine yH (tS 4 Z Z Z Z ?_)
 refine tM 1 Z br (xD 0 cv Z Z Z) (zS ?_)
 refine tP 9 Z br (yZ Z) (yH ?_)
 refine tS 5 Z Z Z Z (tS 6 Z Z Z Z ?_)
 refine tS 7 Z Z Z Z (zS ?_)
 refine tP 8 Z br (rB Z Z) (tP 10 Z br (yZ Z) ?_)
 refine yG aD (rK 0 [3,2] Z Z ?_)
 exact vF Tryz.results116 Z Z ⟨(by rw [hxe];exact congrArg (fun b=>Value.tuple #[.string xe.text, .bool b]) (tb_f (fun e=>by have:=e.1;unfold cI at this;simp_all)).symm),rfl,rfl⟩ nS (fun _ h=>by cases h)
theorem LN(rb:Nat)(w t:V)(Ar Br A:Option Addr)(cr dr n c9:Nat)(o:Bool)(s:Int)(x:Value)(hp:Pl t):Ct Tryz.prog 117 #[cD rb,x] [.blk rb [.int .i64 w.kind, .int .i64 w.num, .string w.text, .slice Ar w.keys.length cr, .slice Br w.items.length dr, .bool o, .int .i64 s, .slice A n c9] 86] [.val x t] (fun u M' D'=>u= .bool (tb (dC t))∧ ∃o',M'=[.blk rb [.int .i64 w.kind, .int .i64 w.num, .string w.text, .slice Ar w.keys.length cr, .slice Br w.items.length dr, .bool o', .int .i64 s, .slice A n c9] 86]∧D'=[]∧(o'=false→o=false∧(dC t∨ ¬ jX t))):=by
 refine Ct.of_run (args:=[cD rb,x]) Tryz.func117 aF Z Tryz.ntmps117 Z (fun c=>?_)
 refine xB 0 Z (fun A1 c1 A2 c2 hx hsz1 hk1 hk2 hi1 hi2=>?_)
 subst hx
 have hle:=hp.wf.le
 have hmx:maxLen≤9223372036854775807:=by decide
 refine rO 3 Z (yN Z Z Z (fun b3=>?_))
 refine oO 7 Z (zL 0 Z cB Z Z ?_)
 refine zA (zJ Z Z Z (LK t mT hp _) aA ?_)
 refine oS 2 Z (yQ (s:=7) Z (fun h7=>?_) (fun h7=>?_))
 ·refine oK 12 [4] Z Z ?_
  refine yW (M':=[HA.blk rb [_,_,_,_,_,_,_,_] 86]) (by repeat (first|exact zO _|refine zB 0 Z ?_|refine zB 1 Z ?_|refine zB 2 Z ?_|refine zB 3 Z ?_|refine zB 4 Z ?_|refine zB 5 Z ?_|refine zB 6 Z ?_)) ?_
  exact zD Tryz.results117 Z ⟨congrArg Value.bool (tb_t (.inl (yP.1 (by simpa using h7)))).symm,o,rfl,rfl,fun e=>⟨e, .inl (.inl (yP.1 (by simpa using h7)))⟩⟩ (List.Sublist.refl _) (fun _ h=>by cases h)
 refine zI Z Z (zL 0 Z cB Z Z ?_)
 refine zI Z Z (zJ Z Z Z (C7 _ t dg) aA ?_)
 refine zI Z Z (tY Z Z Z ?_)
 refine oR 3 Z (zU Z (fun h11=>?_) (fun h11=>?_))
 ·have hk11:(getV t dg).isSome=true:=(tO hle).1 (by simpa using h11)
  refine rK 5 [4] Z Z ?_
  refine yW (M':=[HA.blk rb [_,_,_,_,_,_,_,_] 86]) (by repeat (first|exact zO _|refine zB 0 Z ?_|refine zB 1 Z ?_|refine zB 2 Z ?_|refine zB 3 Z ?_|refine zB 4 Z ?_|refine zB 5 Z ?_|refine zB 6 Z ?_)) ?_
  exact zD Tryz.results117 Z ⟨congrArg Value.bool (tb_t (.inr hk11)).symm,o,rfl,rfl,fun e=>⟨e, .inl (.inr hk11)⟩⟩ (List.Sublist.refl _) (fun _ h=>by cases h)
 have hnk: ¬ dC t:=by
  rintro (e|e)
  ·exact wD.1 (by simpa using h7) e
  ·exact absurd ((tO hle).2 e) (by simpa using h11)
 refine rO 5 Z (zL 0 Z cB Z Z ?_)
 refine zA (zJ Z Z Z (LF 172 (fun z=>(getV z dg).isSome=true) (fun z hz y=>LL z hz y) t hp _) aA ?_)
 refine oS 2 Z (yQ (s:=14) Z (fun h14=>?_) (fun h14=>?_))
 ·refine oK 6 [18,0] Z Z (rO 7 Z ?_)
  refine zC qU Z Z (zA ?_)
  refine zF 1 (M':=[_,HA.blk _ [_,_,_,_,_,_,_,_] _]) Z Z Z Z C6 Z Z Z (oR 6 Z ?_)
  refine yW (M':=[HA.blk rb [_,_,_,_,_,_,_,_] 86]) (by repeat (first|exact zO _|refine zB 0 Z ?_|refine zB 1 Z ?_|refine zB 2 Z ?_|refine zB 3 Z ?_|refine zB 4 Z ?_|refine zB 5 Z ?_|refine zB 6 Z ?_)) ?_
  exact zD Tryz.results117 Z ⟨congrArg Value.bool (tb_f hnk).symm,true,rfl,rfl,fun e=>by cases e⟩ (List.Sublist.refl _) (fun _ h=>by cases h)
 refine zI Z Z (zL 0 Z cB Z Z ?_)
 refine zI Z Z (zJ Z Z Z (C7 _ t Hn) aA ?_)
 refine zI Z Z (tY Z Z Z ?_)
 refine oK 3 [18,0] Z Z (zU Z (fun h18=>?_) (fun h18=>?_))
 ·refine rO 6 Z (zC qU Z Z ?_)
  refine zA (zF 1 (M':=[_,HA.blk _ [_,_,_,_,_,_,_,_] _]) Z Z Z Z C6 Z Z Z ?_)
  refine oR 6 Z ?_
  refine yW (M':=[HA.blk rb [_,_,_,_,_,_,_,_] 86]) (by repeat (first|exact zO _|refine zB 0 Z ?_|refine zB 1 Z ?_|refine zB 2 Z ?_|refine zB 3 Z ?_|refine zB 4 Z ?_|refine zB 5 Z ?_|refine zB 6 Z ?_)) ?_
  exact zD Tryz.results117 Z ⟨congrArg Value.bool (tb_f hnk).symm,true,rfl,rfl,fun e=>by cases e⟩ (List.Sublist.refl _) (fun _ h=>by cases h)
 refine rR 6 Z ?_
 refine yW (M':=[HA.blk rb [_,_,_,_,_,_,_,_] 86]) (by repeat (first|exact zO _|refine zB 0 Z ?_|refine zB 1 Z ?_|refine zB 2 Z ?_|refine zB 3 Z ?_|refine zB 4 Z ?_|refine zB 5 Z ?_|refine zB 6 Z ?_)) ?_
 exact zD Tryz.results117 Z ⟨congrArg Value.bool (tb_f hnk).symm,o,rfl,rfl,fun e=>⟨e, .inr (fun e=>Or.elim e (fun e=>wD.1 (by simpa using h14) e) (fun e=>absurd ((tO hle).2 e) (by simpa using h18)))⟩⟩ (List.Sublist.refl _) (fun _ h=>by cases h)

abbrev SA:=Bool×Int×List ByteArray×Option Addr×Nat
abbrev Cj(w:V)(Ar Br:Option Addr)(cr dr:Nat)(a:SA):List Value:=[.int .i64 w.kind, .int .i64 w.num, .string w.text, .slice Ar w.keys.length cr, .slice Br w.items.length dr, .bool a.1, .int .i64 a.2.1, .slice a.2.2.2.1 a.2.2.1.length a.2.2.2.2]
abbrev XS(rb:Nat)(w:V)(Ar Br:Option Addr)(cr dr:Nat)(a:SA):List HA:=[.blk rb (Cj w Ar Br cr dr a) 86, .row a.2.2.2.1 a.2.2.1.length a.2.2.2.2 9 1 (a.2.2.1.map Value.string)]
abbrev DS(w:V)(Ar Br:Option Addr)(cr dr:Nat)(_:SA):DA:= .val (.agg #[.int .i64 w.kind, .int .i64 w.num, .string w.text, .slice Ar w.keys.length cr, .slice Br w.items.length dr]) w
def Ck(m:Nat)(_:Nat)(a:SA):Prop:=a.2.2.1.length≤2000∧(a.1=false→0≤a.2.1∧a.2.1<m∧(a.2.2.1.length:Int)+a.2.1≤2000)
def mi(w:V)(one:Bool)(own:V)(a a':SA)(v:V):Prop:=a'.2.2.1=a.2.2.1∧(a'.1=false→a.1=false∧0≤a'.2.1∧a'.2.1+cd own≤a.2.1∧ ∃n:Nat,(n:Int)+a'.2.1≤a.2.1∧co w n one own∧v=cQ w n one own)
theorem ff{m k k':Nat}{w own v:V}{one:Bool}{a a':SA}(h:Ck m k a)(hr:mi w one own a a' v):Ck m k' a':=by
 refine⟨by rw [hr.1];exact h.1,fun h0=>?_⟩
 obtain⟨h1,h2,h3,_⟩:=hr.2 h0
 obtain⟨h5,h6,h7⟩:=h.2 h1
 rw [hr.1]
 exact⟨h2,aC,aC⟩
def J1(w:V)(one:Bool)(kids:List V)(g:(V→V)→V)(a a':SA)(v:V):Prop:=a'.2.2.1=a.2.2.1∧(a'.1=false→a.1=false∧(0≤a.2.1→0≤a'.2.1)∧a'.2.1+(kids.map cd).sum≤a.2.1∧ ∃n:Nat,(n:Int)+a'.2.1≤a.2.1∧(∀ z∈kids,co w n one z)∧v=g (cQ w n one))
theorem ux{g g':V→V}{l:List V}(h: ∀ z∈l.filter (fun x=>decide (x.kind=5)),g z=g' z):l.map (cZ g)=l.map (cZ g'):=
 List.map_congr_left fun y hy=>by
  by_cases hk:y.kind=5
  ·rw [xY hk,xY hk]
   exact h y (List.mem_filter.2 ⟨hy,decide_eq_true hk⟩)
  ·rw [vW hk,vW hk]
theorem HH{w:V}{one:Bool}{a0 a:SA}{l l':List V}(h:FoldR (mi w one) a0 l a l'):a.2.2.1=a0.2.2.1∧(a.1=false→a0.1=false∧(0≤a0.2.1→0≤a.2.1)∧a.2.1+((l.filter (fun x=>decide (x.kind=5))).map cd).sum≤a0.2.1∧ ∃n:Nat,(n:Int)+a.2.1≤a0.2.1∧(∀ z∈l.filter (fun x=>decide (x.kind=5)),co w n one z)∧l'=l.map (cZ (cQ w n one))):=by
  induction h with
  |nil=>exact⟨rfl,fun h=>⟨h,id,by simp,0,by simp,(fun z hz=>by cases hz),rfl⟩⟩
  | @pos l a a1 l' own v h hk hr ih=>
    refine⟨hr.1.trans ih.1,fun h0=>?_⟩
    obtain⟨b1,b2,b3,n1,b4,b5,b6⟩:=hr.2 h0
    obtain⟨c1,c2,c3,n2,c4,c5,c6⟩:=ih.2 b1
    have hf:(l++[own]).filter (fun x=>decide (x.kind=5))=l.filter (fun x=>decide (x.kind=5))++[own]:=by simp [hk]
    have m1:=fH b5 (Nat.le_max_left n1 n2)
    have m2: ∀ z∈l.filter (fun x=>decide (x.kind=5)),co w (max n1 n2) one z∧cQ w (max n1 n2) one z=cQ w n2 one z:=fun z hz=>fH (c5 z hz) (Nat.le_max_right n1 n2)
    refine⟨c1,fun _=>b2,?_,max n1 n2,?_,fun z hz=>?_,?_⟩
    · rw [hf,List.map_append,List.sum_append]
      simp only [List.map_cons,List.map_nil,List.sum_cons,List.sum_nil]
      omega
    · have hn:=rU own
      rcases Nat.le_total n1 n2 with e|e
      · rw [Nat.max_eq_right e];omega
      · rw [Nat.max_eq_left e];omega
    · rw [hf]at hz
      rcases List.mem_append.1 hz with hz|hz
      · exact(m2 z hz).1
      · rw [List.mem_singleton.1 hz];exact m1.1
    · rw [List.map_append,c6,b6,←m1.2,ux fun z hz=>(m2 z hz).2.symm]
      simp [xY hk]
  | @neg l a l' own h hk ih=>
    refine⟨ih.1,fun h0=>?_⟩
    obtain⟨c1,c2,c3,n2,c4,c5,c6⟩:=ih.2 h0
    have hf:(l++[own]).filter (fun x=>decide (x.kind=5))=l.filter (fun x=>decide (x.kind=5)):=by simp [hk]
    refine⟨c1,c2,by rw [hf];exact c3,n2,c4,by rw [hf];exact c5,?_⟩
    rw [List.map_append,c6]
    simp [vW hk]
theorem Cl{w:V}{one:Bool}{sh:Int}{t v:V}{a a':SA}(h:dM (mi w one) sh t a a' v):J1 w one (kidsOf sh t) (fun g=>cA sh g t) a a' v:=by
 have al:CN (mi w one) t a a' v→J1 w one (t.items.filter (fun x=>decide (x.kind=5))) (fun g=>cL g t) a a' v:=fun⟨ts,h,e⟩=>by
  obtain⟨h1,h2⟩:=HH h
  refine⟨h1,fun h0=>?_⟩
  obtain⟨c1,c2,c3,n2,c4,c5,c6⟩:=h2 h0
  exact⟨c1,c2,c3,n2,c4,c5,by rw [e,c6];rfl⟩
 have on1:mi w one t a a' v→J1 w one [t] (fun g=>g t) a a' v:=fun h=>⟨h.1,fun h0=>by
  obtain⟨b1,b2,b3,n1,b4,b5,b6⟩:=h.2 h0
  exact⟨b1,fun _=>b2,by simpa using b3,n1,b4,fun z hz=>by rw [List.mem_singleton.1 hz];exact b5,b6⟩⟩
 have no:(a'=a∧v=t)→J1 w one [] (fun _=>t) a a' v:=fun h=>by
  rw [h.1]
  exact⟨rfl,fun h0=>⟨h0,id,by simp,0,by simp,(fun z hz=>by cases hz),h.2⟩⟩
 unfold dM at h
 unfold cA kidsOf
 split at h
 ·rename_i h5;simp only [if_pos h5];exact on1 h
 rename_i h5;simp only [if_neg h5]
 split at h
 ·rename_i h6
  simp only [if_pos h6]
  split at h
  ·rename_i hk;simp only [if_pos hk];exact on1 h
  ·rename_i hk;simp only [if_neg hk];exact no h
 rename_i h6;simp only [if_neg h6]
 split at h
 ·rename_i h7
  simp only [if_pos h7]
  split at h
  ·rename_i hk;simp only [if_pos hk];exact on1 h
  ·rename_i hk;simp only [if_neg hk];exact al h
 rename_i h7;simp only [if_neg h7]
 split at h
 ·rename_i h9;simp only [if_pos h9];exact al h
 ·rename_i h9;simp only [if_neg h9];exact no h
inductive FoldK (w:V) (a0:SA):kT→SA→kT→Prop where
  |nil:FoldK w a0 [] a0 []
  |step {l l':kT} {a a1:SA} {p:ByteArray×V} {v:V} (h:FoldK w a0 l a l') (hr:dM (mi w (decide (p.1=dg))) (bw p.1) p.2 a a1 v):FoldK w a0 (l++[p]) a1 (l'++[(p.1,v)])
theorem FoldK.keys{w:V}{a0 a:SA}{l l':kT}(h:FoldK w a0 l a l'):l'.map (·.1)=l.map (·.1):=by
  induction h with
  |nil=>rfl
  |step h hr ih=>simp [ih]
theorem FoldK.stepI{w:V}{a0 a a1:SA}{t v:V}{l:kT}{i:Nat}(h1:i<t.keys.length)(h2:i<t.items.length)(h:FoldK w a0 ((t.keys.zip t.items).take i) a l)(hr:dM (mi w (decide (t.keys[i]=dg))) (bw t.keys[i]) t.items[i] a a1 v):
  FoldK w a0 ((t.keys.zip t.items).take (i+1)) a1 (l++[(t.keys[i],v)]):=by
 rw [List.take_add_one,(by rw [List.getElem?_zip_eq_some];exact⟨List.getElem?_eq_getElem h1,List.getElem?_eq_getElem h2⟩:(t.keys.zip t.items)[i]? =some (t.keys[i],t.items[i]))]
 exact .step h hr
theorem Eg{w:V}{a0 a:SA}{l l':kT}(h:FoldK w a0 l a l'):a.2.2.1=a0.2.2.1∧(a.1=false→a0.1=false∧(0≤a0.2.1→0≤a.2.1)∧a.2.1+((l.flatMap (fun p=>kidsOf (bw p.1) p.2)).map cd).sum≤a0.2.1∧ ∃n:Nat,(n:Int)+a.2.1≤a0.2.1∧(∀ p∈l,∀ z∈kidsOf (bw p.1) p.2,co w n (decide (p.1=dg)) z)∧l'=l.map (fun p=>(p.1,cA (bw p.1) (cQ w n (decide (p.1=dg))) p.2))):=by
  induction h with
  |nil=>exact⟨rfl,fun h=>⟨h,id,by simp,0,by simp,(fun p hp=>by cases hp),rfl⟩⟩
  | @step l l' a a1 p v h hr ih=>
    obtain⟨h1,h2⟩:=Cl hr
    refine⟨h1.trans ih.1,fun h0=>?_⟩
    obtain⟨b1,b2,b3,n1,b4,b5,b6⟩:=h2 h0
    obtain⟨c1,c2,c3,n2,c4,c5,c6⟩:=ih.2 b1
    refine⟨c1,fun e=>b2 (c2 e),?_,max n1 n2,?_,fun q hq z hz=>?_,?_⟩
    · rw [List.flatMap_append,List.map_append,List.sum_append]
      simp only [List.flatMap_cons,List.flatMap_nil,List.append_nil]
      omega
    · rcases Nat.le_total n1 n2 with e|e
      · rw [Nat.max_eq_right e];omega
      · rw [Nat.max_eq_left e];omega
    · rcases List.mem_append.1 hq with hq|hq
      · exact(fH (c5 q hq z hz) (Nat.le_max_right n1 n2)).1
      · obtain rfl:=List.mem_singleton.1 hq
        exact(fH (b5 z hz) (Nat.le_max_left n1 n2)).1
    · rw [List.map_append,c6,b6]
      congr 1
      · refine List.map_congr_left fun q hq=>?_
        exact congrArg _ (gy fun z hz=>((fH (c5 q hq z hz) (Nat.le_max_right n1 n2)).2).symm)
      · show [(p.1,cA (bw p.1) (cQ w n1 (decide (p.1=dg))) p.2)]=_
        rw [gy fun z hz=>((fH (b5 z hz) (Nat.le_max_left n1 n2)).2).symm]
        rfl
theorem jy{z:V}(hz:dc z)(h1:z.keys.length=1)(hr:cI z):cd z=1:=by
  have hk:kidsV z=[]:=by
    cases hl:kidsV z with
    |nil=>rfl
    |cons y l=>
      exfalso
      have hy:y∈kidsV z:=by rw [hl];exact List.mem_cons_self
      obtain⟨p,hp,hk⟩:=List.mem_flatMap.1 hy
      have hg:=(yJ hz.1 hz.2.kind).1 (show(p.1,p.2)∈z.keys.zip z.items from hp)
      rw [jx hz h1 hr hg]at hk
      have e:bw k3=1:=by decide+kernel
      rw [e]at hk
      simp [kidsOf]at hk
  rw [rU,hk]
  rfl
section rules
variable {P:Program} {n:Nat} {F:List Nat} {c:Ctx F} {ops:Array Oper} {d:Nat} {T:TypeId} {l:List Oper} {k:List KI} {Q:Post} {e:cp} {M:List HA} {D:List DA}
theorem uy{h h':HA}(i:Nat){w:World}(hi:M[i]? =some h)(hw:h.holds w→h'.holds w)(hf:h'.foot=h.foot)(hfit:FitsW c M D w):FitsW c (h'::M.eraseIdx i) D w:=by
 have h1:=hfit.perm (vH hi)
 refine⟨h1.chg,?_,?_,?_,?_⟩
 ·intro x hx
  rcases List.mem_cons.1 hx with rfl|hx
  ·exact hw (h1.own _ List.mem_cons_self)
  ·exact h1.own x (List.mem_cons_of_mem _ hx)
 ·have:=h1.nodup
  simpa [foots,hf]using this
 ·intro b hb
  exact h1.foot b (by simpa [foots,hf]using hb)
 ·intro x hx
  refine x.mono (fun q hq=>⟨hq.1,hq.2.1,?_⟩) (fun _ _=>rfl) (h1.dat x hx)
  have:=hq.2.2
  simpa [foots,hf]using this
theorem zt{h h':HA}(i:Nat)(hi:M[i]? =some h)(hw: ∀ w,h.holds w→h'.holds w)(hf:h'.foot=h.foot)(next:Run P n c k Q e (h'::M.eraseIdx i) D):Run P n c k Q e M D:=
 fun a w hfit=>next a w (hfit.world (uy i hi (hw w) hf hfit.toFitsW))
theorem Eh{A:Option Addr}{m cap E:Nat}{xs:List Value}{v:Value}(hl:xs.length=m)(w:World)(h:(HA.row A (m+1) cap E 1 (xs++[v])).holds w):(HA.row A m cap E 1 xs).holds w:=by
 obtain⟨h1,h2⟩:=h
 refine⟨by simpa using hl,?_⟩
 rcases h2 with ⟨h2,h3⟩|⟨g,cap',cur,hv,hb,hg,hn,hc,hs,ht⟩
 ·omega
 ·injection hv with e1 e2 e3
  subst e1
  subst e3
  refine .inr ⟨g,cap,cur,rfl,hb,hg,aC,hc,hs,?_⟩
  have e:cur.toList.take (m*1)=(cur.toList.take ((m+1)*1)).take m:=by rw [List.take_take];congr 1;omega
  rw [e,ht,←hl,List.take_left']
  rfl
theorem Cm{A:Option Addr}{m m' cap E:Nat}{xs ys:List Value}:(HA.row A m cap E 1 xs).foot=(HA.row A m' cap E 1 ys).foot:=by cases A<;>rfl
theorem uz{x y:Operand}{S S':TypeId}{A:Option Addr}{m cap h E sz by_:Nat}{kd:IntKind}(hS:cM P S E sz by_)(hx:ev e x=some (.slice A m cap))(hy:ev e y=some (.int kd (h:Nat)))(hh:h≤cap):St P n c (.slice S x none (some y) none) S' e M D (.slice A h cap):=fun _ a w hfit=>by
 obtain⟨ti,z,hu,hinf,hs,_⟩:=hS
 have hmap:A.map (fun q=>q.add 0)=A:=by cases A<;>simp [Addr.add]
 simp [execOp,cx,hfit.ev hx,hfit.ev hy,Instr.sliceAt,Instr.slice,Instr.sliceBounds,Instr.sliceBound,asIntOf,run_underlying hu,xZ hinf,hh,hmap]
end rules
section rules
variable {P:Program} {n:Nat} {F:List Nat} {c:Ctx F} {ops:Array Oper} {d:Nat} {T:TypeId} {l:List Oper} {k:List KI} {Q:Post} {e:cp} {M:List HA} {D:List DA}
theorem r3(i:Nat){x y:Operand}{S S':TypeId}{A:Option Addr}{m cap h E sz by_ U:Nat}{xs:List Value}{kd:IntKind}(hS:cM P S E sz by_)(hx:ev e x=some (.slice A m cap))(hy:ev e y=some (.int kd (h:Nat)))(hi:M[i]? =some (.row A m cap U sz xs))(hh:h≤m):St P n c (.slice S x none (some y) none) S' e M D (.slice A h cap):=fun d a w hfit=>by
 have h3:=(uW (hfit.toFitsW.mem hi)).1
 exact uz (S':=S') hS hx hy (Nat.le_trans hh h3) d a w hfit
theorem Cn{d:Option Nat}{op:Op}{N:List HA}(he:HE M N)(next:b0 P n c ops d op T l k Q e N D):b0 P n c ops d op T l k Q e M D:=fun a w hf=>next a w (hf.world (hf.toFitsW.he he))
end rules
theorem r4{m k k':Nat}{w t v:V}{one:Bool}{sh:Int}{a a':SA}(h:Ck m k a)(hr:dM (mi w one) sh t a a' v):Ck m k' a':=by
 obtain⟨h1,h2⟩:=Cl hr
 refine⟨by rw [h1];exact h.1,fun h0=>?_⟩
 obtain⟨b1,b2,b3,n,b4,_⟩:=h2 h0
 obtain⟨h5,h6,h7⟩:=h.2 b1
 rw [h1]
 exact⟨b2 h5,aC,aC⟩

theorem JY(rb:Nat)(w:V)(Ar Br:Option Addr)(cr dr:Nat)(kb qb m:Nat)(key:ByteArray)(own:V)(ho:dc own)(IH: ∀ own,dc own→ ∀ one,Gv (XS rb w Ar Br cr dr) (DS w Ar Br cr dr) (Ck m) (mi w one) 78 #[cD rb] #[.bool one] own):Gv (fun a=> .blk kb [.string key] 9:: .blk qb [cD rb] 84::XS rb w Ar Br cr dr a) (DS w Ar Br cr dr) (Ck m) (mi w (decide (key=dg))) 118 #[] #[cD kb,cD qb] own:=by
 intro k a x hOk
 have hp:=ho.1
 change Ct Tryz.prog 118 #[x,cD kb,cD qb] [.blk kb [.string key] 9, .blk qb [cD rb] 84, .blk rb (Cj w Ar Br cr dr a) 86, .row a.2.2.2.1 a.2.2.1.length a.2.2.2.2 9 1 (a.2.2.1.map Value.string)] [.val x own,DS w Ar Br cr dr a] _
 refine Ct.of_run (args:=[x,cD kb,cD qb]) Tryz.func118 aF Z Tryz.ntmps118 Z (fun c=>?_)
 refine xB 0 Z (fun A1 c1 A2 c2 hx hsz1 hk1 hk2 hi1 hi2=>?_)
 subst hx
 have hle:=hp.wf.le
 refine rO 3 Z (yN Z Z Z (fun b3=>?_))
 refine zA (zT cl Z (fun b4=>?_))
 change bu _ _ _ _ _ _ _ _ (HA.blk _ [_,_,_,_,_] _::_) _
 refine oO 5 Z (zG 2 cv Z Z Z Z ?_)
 refine oS 4 Z (yC (s:=9) Z (fun h9=>?_) (fun h9=>?_))
 ·refine zI Z Z (zL 1 Z cB Z Z ?_)
  refine zI Z Z (zJ Z Z Z (LF 119 (fun z=>cI z) (fun z hz y=>LM z hz y) own hp _) aA ?_)
  refine oR 3 Z (zU Z (fun h12=>?_) (fun h12=>?_))
  ·refine rO 3 Z (zL 1 Z cB Z Z ?_)
   refine zA (zJ Z Z Z (JX own hp _) aA ?_)
   refine oK 11 [6,4,3,1,2] Z Z (rR 7 Z ?_)
   refine zU Z (fun h19=>?_) (fun h19=>?_)
   ·refine rO 2 Z (zG 3 eB Z Z Z Z ?_)
    refine oO 3 Z (zC qU Z Z ?_)
    refine zA (zF 4 (M':=[_,_,_,_,HA.blk _ [_,_,_,_,_,_,_,_] _,_]) Z Z Z Z C6 Z Z Z ?_)
    refine oO 4 Z (zG 3 eB Z Z Z Z ?_)
    refine zA (zL 1 Z cB Z Z ?_)
    refine zA (zG 2 cv Z Z Z Z ?_)
    refine oO 3 Z ?_
    have hct27:=IH own ho (decide (key=dg)) k ((true,a.2):SA) (.agg #[.int .i64 own.kind, .int .i64 own.num, .string own.text, .slice A1 own.keys.length c1, .slice A2 own.items.length c2]) (⟨hOk.1,fun e=>by cases e⟩)
    change Ct Tryz.prog 78 #[cD rb, .agg #[.int .i64 own.kind, .int .i64 own.num, .string own.text, .slice A1 own.keys.length c1, .slice A2 own.items.length c2], .bool (decide (key=dg))] _ _ _ at hct27
    refine fC (pre:=[_,_,_,_]) Z Z Z hct27 Z (cn 2 3 Z Z) (fun u27 M27 D27 hv27=>?_)
    obtain⟨a27,v27,D27,hR27,hO27,rfl,⟨A27,m27,B27,d27,rfl,rfl⟩,rfl⟩:=hv27
    refine zA (zF 0 (M':=[HA.blk _ [_,_,_,_,_] _,_,_,_,_,_]) Z Z Z Z cN Z Z Z ?_)
    refine oK 1 [4] Z Z ?_
    refine yW (M':=HA.blk b4 [_,_,_,_,_] 25::HA.blk kb [.string key] 9::HA.blk qb [cD rb] 84::XS rb w Ar Br cr dr a27) (by repeat (first|exact zO _|refine zB 0 Z ?_|refine zB 1 Z ?_|refine zB 2 Z ?_|refine zB 3 Z ?_|refine zB 4 Z ?_|refine zB 5 Z ?_|refine zB 6 Z ?_|refine zB 7 Z ?_|refine zB 8 Z ?_)) ?_
    exact xC 0 Tryz.results118 Z Z cB ⟨a27,v27,_,⟨hR27.1,fun e=>by have:=(hR27.2 e).1;cases this⟩,hO27,rfl,⟨_,_,_,_,rfl,rfl⟩,rfl⟩ ak aO
   refine rO 4 Z (zG 3 eB Z Z Z Z ?_)
   refine zA (zL 1 Z cB Z Z ?_)
   refine zA (zG 2 cv Z Z Z Z ?_)
   refine oO 3 Z ?_
   have hct27:=IH own ho (decide (key=dg)) k a (.agg #[.int .i64 own.kind, .int .i64 own.num, .string own.text, .slice A1 own.keys.length c1, .slice A2 own.items.length c2]) (hOk)
   change Ct Tryz.prog 78 #[cD rb, .agg #[.int .i64 own.kind, .int .i64 own.num, .string own.text, .slice A1 own.keys.length c1, .slice A2 own.items.length c2], .bool (decide (key=dg))] _ _ _ at hct27
   refine fC (pre:=[_,_,_,_]) Z Z Z hct27 Z (cn 2 3 Z Z) (fun u27 M27 D27 hv27=>?_)
   obtain⟨a27,v27,D27,hR27,hO27,rfl,⟨A27,m27,B27,d27,rfl,rfl⟩,rfl⟩:=hv27
   refine zA (zF 0 (M':=[HA.blk _ [_,_,_,_,_] _,_,_,_,_,_]) Z Z Z Z cN Z Z Z ?_)
   refine oK 1 [4] Z Z ?_
   refine yW (M':=HA.blk b4 [_,_,_,_,_] 25::HA.blk kb [.string key] 9::HA.blk qb [cD rb] 84::XS rb w Ar Br cr dr a27) (by repeat (first|exact zO _|refine zB 0 Z ?_|refine zB 1 Z ?_|refine zB 2 Z ?_|refine zB 3 Z ?_|refine zB 4 Z ?_|refine zB 5 Z ?_|refine zB 6 Z ?_|refine zB 7 Z ?_|refine zB 8 Z ?_)) ?_
   exact xC 0 Tryz.results118 Z Z cB ⟨a27,v27,_,hR27,hO27,rfl,⟨_,_,_,_,rfl,rfl⟩,rfl⟩ ak aO
  refine rO 4 Z (zG 3 eB Z Z Z Z ?_)
  refine zA (zL 1 Z cB Z Z ?_)
  refine zA (zG 2 cv Z Z Z Z ?_)
  refine oO 3 Z ?_
  have hct27:=IH own ho (decide (key=dg)) k a (.agg #[.int .i64 own.kind, .int .i64 own.num, .string own.text, .slice A1 own.keys.length c1, .slice A2 own.items.length c2]) (hOk)
  change Ct Tryz.prog 78 #[cD rb, .agg #[.int .i64 own.kind, .int .i64 own.num, .string own.text, .slice A1 own.keys.length c1, .slice A2 own.items.length c2], .bool (decide (key=dg))] _ _ _ at hct27
  refine fC (pre:=[_,_,_,_]) Z Z Z hct27 Z (cn 2 3 Z Z) (fun u27 M27 D27 hv27=>?_)
  obtain⟨a27,v27,D27,hR27,hO27,rfl,⟨A27,m27,B27,d27,rfl,rfl⟩,rfl⟩:=hv27
  refine zA (zF 0 (M':=[HA.blk _ [_,_,_,_,_] _,_,_,_,_,_]) Z Z Z Z cN Z Z Z ?_)
  refine oK 1 [4] Z Z ?_
  refine yW (M':=HA.blk b4 [_,_,_,_,_] 25::HA.blk kb [.string key] 9::HA.blk qb [cD rb] 84::XS rb w Ar Br cr dr a27) (by repeat (first|exact zO _|refine zB 0 Z ?_|refine zB 1 Z ?_|refine zB 2 Z ?_|refine zB 3 Z ?_|refine zB 4 Z ?_|refine zB 5 Z ?_|refine zB 6 Z ?_|refine zB 7 Z ?_|refine zB 8 Z ?_)) ?_
  exact xC 0 Tryz.results118 Z Z cB ⟨a27,v27,_,hR27,hO27,rfl,⟨_,_,_,_,rfl,rfl⟩,rfl⟩ ak aO
 refine oO 10 Z (zG 3 eB Z Z Z Z ?_)
 refine zA (zL 1 Z cB Z Z ?_)
 refine zA (zG 2 cv Z Z Z Z ?_)
 refine oO 3 Z ?_
 have hct27:=IH own ho (decide (key=dg)) k a (.agg #[.int .i64 own.kind, .int .i64 own.num, .string own.text, .slice A1 own.keys.length c1, .slice A2 own.items.length c2]) (hOk)
 change Ct Tryz.prog 78 #[cD rb, .agg #[.int .i64 own.kind, .int .i64 own.num, .string own.text, .slice A1 own.keys.length c1, .slice A2 own.items.length c2], .bool (decide (key=dg))] _ _ _ at hct27
 refine fC (pre:=[_,_,_,_]) Z Z Z hct27 Z (cn 2 3 Z Z) (fun u27 M27 D27 hv27=>?_)
 obtain⟨a27,v27,D27,hR27,hO27,rfl,⟨A27,m27,B27,d27,rfl,rfl⟩,rfl⟩:=hv27
 refine zA (zF 0 (M':=[HA.blk _ [_,_,_,_,_] _,_,_,_,_,_]) Z Z Z Z cN Z Z Z ?_)
 refine oK 1 [4] Z Z ?_
 refine yW (M':=HA.blk b4 [_,_,_,_,_] 25::HA.blk kb [.string key] 9::HA.blk qb [cD rb] 84::XS rb w Ar Br cr dr a27) (by repeat (first|exact zO _|refine zB 0 Z ?_|refine zB 1 Z ?_|refine zB 2 Z ?_|refine zB 3 Z ?_|refine zB 4 Z ?_|refine zB 5 Z ?_|refine zB 6 Z ?_|refine zB 7 Z ?_|refine zB 8 Z ?_)) ?_
 exact xC 0 Tryz.results118 Z Z cB ⟨a27,v27,_,hR27,hO27,rfl,⟨_,_,_,_,rfl,rfl⟩,rfl⟩ ak aO
theorem Co{v:V}(h:Pl v):(refT v).size≤maxLen:=by
  unfold refT maxLen
  cases hg:getV v k3 with
  |none=>exact Nat.zero_le _
  |some x=>
    have:=lG (h.item x (uG hg))
    simp only [Option.getD_some]
    omega
theorem NB(rb:Nat)(w:V)(Ar Br:Option Addr)(cr dr:Nat)(hw:dc w)(m:Nat): ∀ (own:V),dc own→ ∀ one,Gv (XS rb w Ar Br cr dr) (DS w Ar Br cr dr) (Ck m) (mi w one) 78 #[cD rb] #[.bool one] own:=by
 refine Nat.strongRecOn (motive:=fun m=> ∀ (own:V),dc own→ ∀ one,Gv (XS rb w Ar Br cr dr) (DS w Ar Br cr dr) (Ck m) (mi w one) 78 #[cD rb] #[.bool one] own) m (fun m IHm=>?_)
 intro own ho one k a x hOk
 obtain⟨o,s,on,A0,c0⟩:=a
 change Ct Tryz.prog 78 #[cD rb,x, .bool one] [.blk rb [.int .i64 w.kind, .int .i64 w.num, .string w.text, .slice Ar w.keys.length cr, .slice Br w.items.length dr, .bool o, .int .i64 s, .slice A0 on.length c0] 86, .row A0 on.length c0 9 1 (on.map Value.string)] [.val x own,DS w Ar Br cr dr (o,s,on,A0,c0)] _
 refine Ct.of_run (args:=[cD rb,x, .bool one]) Tryz.func78 aF Z Tryz.ntmps78 Z (fun c=>?_)
 refine xB 0 Z (fun A1 c1 A2 c2 hx hsz1 hk1 hk2 hi1 hi2=>?_)
 subst hx
 have hle:=ho.1.wf.le
 refine sP 0 Z (fun hksz=>?_)
 have hkl:=ho.1.wf.kl
 have hil:=ho.1.wf.il
 refine rO 3 Z (yN Z Z Z (fun b3=>?_))
 refine zA (yN Z Z Z (fun b4=>?_))
 refine zA (zT cl Z (fun b6=>?_))
 change bu _ _ _ _ _ _ _ _ (HA.blk _ [_,_,_,_,_] _::_) _
 refine oO 5 Z (zG 2 eB Z Z Z Z ?_)
 refine oO 3 Z (zC sq Z Z ?_)
 refine zA (zG 3 Hl Z Z Z Z ?_)
 refine zA (ni Z Z Z ?_)
 obtain⟨s1,hs1⟩: ∃s1,s1=IntKind.i64.wrap (s - 1):=⟨_,rfl⟩
 rw [←hs1]
 have hs1':o=false→s1=s - 1:=fun e=>by
  obtain⟨g1,g2,g3⟩:=hOk.2 e
  simp only at g1 g2 g3
  rw [hs1]
  exact uP aC aC
 refine oO 3 Z (zC sq Z Z ?_)
 refine zA (zF 3 (M':=[_,_,_,HA.blk _ [_,_,_,_,_,_,_,_] _,_]) Z Z Z Z Hm Z Z Z ?_)
 refine oK 1 [6,4,3,2] Z Z (rO 3 Z ?_)
 refine zG 2 eB Z Z Z Z (oO 3 Z ?_)
 refine zC sq Z Z (zA ?_)
 refine zG 3 Hl Z Z Z Z (zA ?_)
 refine wX Z Z Z (zY ?_)
 refine zU Z (fun h29=>?_) (fun h29=>?_)
 ·refine rO 2 Z (zG 2 eB Z Z Z Z ?_)
  refine oO 3 Z (zC qU Z Z ?_)
  refine zA (zF 3 (M':=[_,_,_,HA.blk _ [_,_,_,_,_,_,_,_] _,_]) Z Z Z Z C6 Z Z Z ?_)
  refine oO 5 Z (zG 2 eB Z Z Z Z ?_)
  refine oO 3 Z (zC qU Z Z ?_)
  refine zA (zG 3 DH Z Z Z Z ?_)
  refine oK 1 [36,6,4,3,2] Z Z (zU Z (fun h36=>?_) (fun h36=>?_))
  ·refine rO 3 Z (zL 1 Z cB Z Z ?_)
   refine zA (zF 0 (M':=[HA.blk _ [_,_,_,_,_] _,_,_,_,_]) Z Z Z Z cN Z Z Z ?_)
   refine zY ?_
   have hRR:mi w one own (o,s,on,A0,c0) (true,s1,on,A0,c0) own:=⟨rfl,fun e=>by cases e⟩
   refine yW (M':=HA.blk b6 [_,_,_,_,_] 25::XS rb w Ar Br cr dr (true,s1,on,A0,c0)) (by repeat (first|exact zO _|refine zB 0 Z ?_|refine zB 1 Z ?_|refine zB 2 Z ?_|refine zB 3 Z ?_|refine zB 4 Z ?_|refine zB 5 Z ?_|refine zB 6 Z ?_|refine zB 7 Z ?_|refine zB 8 Z ?_)) ?_
   exact xC 0 Tryz.results78 Z Z cB ⟨(true,s1,on,A0,c0),own,_,hRR,ff (m:=m) (k:=k) hOk hRR,rfl,⟨_,_,_,_,rfl,rfl⟩,rfl⟩ ak aO
  cases h36
 refine rO 5 Z (zG 2 eB Z Z Z Z ?_)
 refine oO 3 Z (zC qU Z Z ?_)
 refine zA (zG 3 DH Z Z Z Z ?_)
 refine zY (zU Z (fun h36=>?_) (fun h36=>?_))
 ·refine rO 3 Z (zL 1 Z cB Z Z ?_)
  refine zA (zF 0 (M':=[HA.blk _ [_,_,_,_,_] _,_,_,_,_]) Z Z Z Z cN Z Z Z ?_)
  refine oK 1 [6] Z Z ?_
  have hRR:mi w one own (o,s,on,A0,c0) (o,s1,on,A0,c0) own:=⟨rfl,fun e=>by rw [show o=true from h36]at e;cases e⟩
  refine yW (M':=HA.blk b6 [_,_,_,_,_] 25::XS rb w Ar Br cr dr (o,s1,on,A0,c0)) (by repeat (first|exact zO _|refine zB 0 Z ?_|refine zB 1 Z ?_|refine zB 2 Z ?_|refine zB 3 Z ?_|refine zB 4 Z ?_|refine zB 5 Z ?_|refine zB 6 Z ?_|refine zB 7 Z ?_|refine zB 8 Z ?_)) ?_
  exact xC 0 Tryz.results78 Z Z cB ⟨(o,s1,on,A0,c0),own,_,hRR,ff (m:=m) (k:=k) hOk hRR,rfl,⟨_,_,_,_,rfl,rfl⟩,rfl⟩ ak aO
 obtain rfl:o=false:=by simpa using h36
 have h29x:0≤s1:=by simpa using h29
 have hsv:=hs1' rfl
 obtain⟨hz1,hz2,hz3⟩:=hOk.2 rfl
 simp only at hz1 hz2 hz3
 have hon:on.length≤2000:=hOk.1
 refine rO 5 Z (zL 1 Z cB Z Z ?_)
 refine zA (zJ Z Z Z (C7 _ own k3) aA ?_)
 refine zA (tY Z Z Z ?_)
 refine oK 1 [40,6,4,3,2] Z Z (zU Z (fun h40=>?_) (fun h40=>?_))
 ·have hr:cI own:=(tO hle).1 (by simpa using h40)
  refine rO 3 Z (zL 1 Z cB Z Z ?_)
  refine zA (zJ Z Z Z (JX own ho.1 _) aA ?_)
  refine oO 14 Z (zG 2 eB Z Z Z Z ?_)
  refine oO 3 Z (zC Fq Z Z ?_)
  refine zA (oy 3 Z cB Z Z Z Z ?_)
  refine oO 3 Z ?_
  refine zW Z Z Z (M7 w _ (refT own) hw.1 (Co ho.1)) aA (fun u52 D52 hv52=>?_)
  obtain⟨ot,hot⟩: ∃z,z=PtV w (refT own):=⟨_,rfl⟩
  rw [←hot]at hv52
  obtain⟨_,rfl,A52,m52,B52,d52,rfl,rfl⟩:=hv52
  refine oO 7 Z (zT cl Z (fun b9=>?_))
  change bu _ _ _ _ _ _ _ _ (HA.blk _ [_,_,_,_,_] _::_) _
  refine zA (zF 0 (M':=[HA.blk _ [_,_,_,_,_] _,_,_,_,_,_]) Z Z Z Z cN Z Z Z ?_)
  refine oK 3 [10,9,8,7,6,4,3,2] Z Z (rS 9 Z ?_)
  refine yQ (s:=57) Z (fun h57=>?_) (fun h57=>?_)
  ·refine oO 9 Z (zG 3 eB Z Z Z Z ?_)
   refine oO 3 Z (zC qU Z Z ?_)
   refine zA (zF 4 (M':=[_,_,_,_,HA.blk _ [_,_,_,_,_,_,_,_] _,_]) Z Z Z Z C6 Z Z Z ?_)
   refine oK 1 [6,4] Z Z (rO 3 Z ?_)
   refine zL 2 Z cB Z Z (zA ?_)
   refine zF 1 (M':=[_,HA.blk _ [_,_,_,_,_] _,_,_,_,_]) Z Z Z Z cN Z Z Z (zY ?_)
   have hRR:mi w one own (false,s,on,A0,c0) (true,s1,on,A0,c0) own:=⟨rfl,fun e=>by cases e⟩
   refine yW (M':=HA.blk b6 [_,_,_,_,_] 25::XS rb w Ar Br cr dr (true,s1,on,A0,c0)) (by repeat (first|exact zO _|refine zB 0 Z ?_|refine zB 1 Z ?_|refine zB 2 Z ?_|refine zB 3 Z ?_|refine zB 4 Z ?_|refine zB 5 Z ?_|refine zB 6 Z ?_|refine zB 7 Z ?_|refine zB 8 Z ?_)) ?_
   exact xC 0 Tryz.results78 Z Z cB ⟨(true,s1,on,A0,c0),own,_,hRR,ff (m:=m) (k:=k) hOk hRR,rfl,⟨_,_,_,_,rfl,rfl⟩,rfl⟩ ak aO
  have hal:own.keys.length=1:=(yP.1 (by simpa using h57:tb (cI own∧own.keys.length=1)=true)).2
  refine oR 7 Z (zU Z (fun h60=>?_) (fun h60=>?_))
  ·refine rO 3 Z (zG 3 eB Z Z Z Z ?_)
   refine oO 3 Z (zC qU Z Z ?_)
   refine zA (zF 4 (M':=[_,_,_,_,HA.blk _ [_,_,_,_,_,_,_,_] _,_]) Z Z Z Z C6 Z Z Z ?_)
   refine oK 1 [6,4] Z Z (rO 3 Z ?_)
   refine zL 2 Z cB Z Z (zA ?_)
   refine zF 1 (M':=[_,HA.blk _ [_,_,_,_,_] _,_,_,_,_]) Z Z Z Z cN Z Z Z (zY ?_)
   have hRR:mi w one own (false,s,on,A0,c0) (true,s1,on,A0,c0) own:=⟨rfl,fun e=>by cases e⟩
   refine yW (M':=HA.blk b6 [_,_,_,_,_] 25::XS rb w Ar Br cr dr (true,s1,on,A0,c0)) (by repeat (first|exact zO _|refine zB 0 Z ?_|refine zB 1 Z ?_|refine zB 2 Z ?_|refine zB 3 Z ?_|refine zB 4 Z ?_|refine zB 5 Z ?_|refine zB 6 Z ?_|refine zB 7 Z ?_|refine zB 8 Z ?_)) ?_
   exact xC 0 Tryz.results78 Z Z cB ⟨(true,s1,on,A0,c0),own,_,hRR,ff (m:=m) (k:=k) hOk hRR,rfl,⟨_,_,_,_,rfl,rfl⟩,rfl⟩ ak aO
  obtain⟨tz,htz⟩: ∃tz,ot=some tz:=Option.isSome_iff_exists.1 (by simpa using h60)
  subst htz
  have hpt:PtV w (refT own)=some tz:=hot.symm
  have hkz:=gz hw hpt
  have hst:dc tz:=⟨vD hw.1 hkz,xO hw.1 hw.2 hkz⟩
  refine rS 8 Z (yQ (s:=66) Z (fun h66=>?_) (fun h66=>?_))
  ·refine oK 6 [70,9,7,6,4,3] Z Z (rO 4 Z ?_)
   refine zL 2 Z cB Z Z (zA ?_)
   refine zF 1 (M':=[_,HA.blk _ [_,_,_,_,_] _,_,_,_,_]) Z Z Z Z cN Z Z Z (zY ?_)
   have hRR:mi w one own (false,s,on,A0,c0) (false,s1,on,A0,c0) own:=⟨rfl,fun e=>⟨e,by simp only;omega,by simp only [jy ho hal hr];have:=hs1' (e);omega,1,by simp only;have:=hs1' (e);omega,⟨fun _=>⟨hal,tz,hpt, .inl (by simpa using h66)⟩,fun hn=>absurd hr hn⟩,by rw [uV hr hpt (.inl (by simpa using h66)),jY ho.2.kind]⟩⟩
   refine yW (M':=HA.blk b6 [_,_,_,_,_] 25::XS rb w Ar Br cr dr (false,s1,on,A0,c0)) (by repeat (first|exact zO _|refine zB 0 Z ?_|refine zB 1 Z ?_|refine zB 2 Z ?_|refine zB 3 Z ?_|refine zB 4 Z ?_|refine zB 5 Z ?_|refine zB 6 Z ?_|refine zB 7 Z ?_|refine zB 8 Z ?_)) ?_
   exact xC 0 Tryz.results78 Z Z cB ⟨(false,s1,on,A0,c0),own,_,hRR,ff (m:=m) (k:=k) hOk hRR,rfl,⟨_,_,_,_,rfl,rfl⟩,rfl⟩ ak aO
  have hone:one=false:=by simpa using h66
  refine zI Z Z (zG 3 eB Z Z Z Z ?_)
  refine zI Z Z (zL 0 Z cB Z Z ?_)
  refine zI Z Z ?_
  refine xU 4 Z Z Z (LN rb w tz Ar Br A0 cr dr on.length c0 false s1 _ hst.1) Z aA (fun u69 M69 D69 hv69=>?_)
  obtain⟨rfl,o69,rfl,rfl,ho69⟩:=hv69
  refine oK 3 [70,9,7,6,4,3] Z Z (zU Z (fun h70=>?_) (fun h70=>?_))
  ·have hkv:dC tz:=yP.1 (by simpa using h70)
   refine rO 3 Z (zL 3 Z cB Z Z ?_)
   refine zA (zF 2 (M':=[_,_,HA.blk _ [_,_,_,_,_] _,_,_,_]) Z Z Z Z cN Z Z Z ?_)
   refine zY ?_
   have hRR:mi w one own (false,s,on,A0,c0) (o69,s1,on,A0,c0) own:=⟨rfl,fun e=>⟨(ho69 e).1,by simp only;omega,by simp only [jy ho hal hr];have:=hs1' ((ho69 e).1);omega,1,by simp only;have:=hs1' ((ho69 e).1);omega,⟨fun _=>⟨hal,tz,hpt, .inr (.inl hkv)⟩,fun hn=>absurd hr hn⟩,by rw [uV hr hpt (.inr hkv),jY ho.2.kind]⟩⟩
   refine yW (M':=HA.blk b6 [_,_,_,_,_] 25::XS rb w Ar Br cr dr (o69,s1,on,A0,c0)) (by repeat (first|exact zO _|refine zB 0 Z ?_|refine zB 1 Z ?_|refine zB 2 Z ?_|refine zB 3 Z ?_|refine zB 4 Z ?_|refine zB 5 Z ?_|refine zB 6 Z ?_|refine zB 7 Z ?_|refine zB 8 Z ?_)) ?_
   exact xC 0 Tryz.results78 Z Z cB ⟨(o69,s1,on,A0,c0),own,_,hRR,ff (m:=m) (k:=k) hOk hRR,rfl,⟨_,_,_,_,rfl,rfl⟩,rfl⟩ ak aO
  have hnk: ¬ dC tz:=wD.1 (by simpa using h70)
  refine rO 5 Z (zG 4 eB Z Z Z Z ?_)
  refine oO 3 Z (zC je Z Z ?_)
  refine zA (zG 0 dH Z Z Z Z ?_)
  refine zA (zX cG Z Z ?_)
  refine oK 4 [77,76,75,9,7,6,4,3] Z Z (gb 1 (fun(⟨i,o3⟩:Nat×Bool)=>i≤on.length∧(o3=false→o69=false)) (fun(⟨i,o3⟩:Nat×Bool)=>[(77, .int .i64 ((i:Nat):Int))]) (fun(⟨i,o3⟩:Nat×Bool)=>HA.blk rb [.int .i64 w.kind, .int .i64 w.num, .string w.text, .slice Ar w.keys.length cr, .slice Br w.items.length dr, .bool o3, .int .i64 s1, .slice A0 on.length c0] 86::HA.blk b9 [.int .i64 tz.kind, .int .i64 tz.num, .string tz.text, .slice A52 tz.keys.length m52, .slice B52 tz.items.length d52] 25::HA.blk b6 [.int .i64 0, .int .i64 0, .string ⟨#[]⟩, .slice none 0 0, .slice none 0 0] 25::HA.blk b4 [.int .i64 own.kind, .int .i64 own.num, .string own.text, .slice A1 own.keys.length c1, .slice A2 own.items.length c2] 25::HA.blk b3 [cD rb] 84::HA.row A0 on.length c0 9 1 (on.map Value.string)::[]) (fun(⟨i,o3⟩:Nat×Bool)=>on.length - i) (0,o69) (⟨Nat.zero_le _,id⟩) (eC Z (eN _)) Z ?_ (eC Z (eC Z (eC Z (eC Z (eC Z (eC Z (eC Z (eN _)))))))))
  intro ⟨i,o3⟩ hI K hK
  change Run _ _ _ _ _ [(77,_),(76,_),(75,_),(9,_),(7,_),(6,_),(4,_),(3,_)] [_,_,_,_,_,_] (_)
  obtain⟨hi,hio⟩:=hI
  refine rO 3 Z (yK Z Z Z ?_)
  refine oR 2 Z (zK Z (fun h78=>?_) (fun h78=>?_))
  ·refine rO 6 Z (nR 5 cG Z Z Z Z h78 ?_)
   refine zA ?_
   refine yE (v:= .string (on[i]'h78)) cv Z Z (fun _ h=>wg h (i:=5) Z (by rw [List.getElem?_map,List.getElem?_eq_getElem h78];rfl)) ?_
   refine oK 12 [83,77,76,75,9,7,6,4,3] Z Z (zU Z (fun h83=>?_) (fun h83=>?_))
   ·refine rO 2 Z (zG 4 eB Z Z Z Z ?_)
    refine oO 3 Z (zC qU Z Z ?_)
    refine zA (zF 0 (M':=[HA.blk _ [_,_,_,_,_,_,_,_] _,_,_,_,_,_]) Z Z Z Z C6 Z Z Z ?_)
    refine oO 4 Z (yD Z Z aC ?_)
    refine oR 3 Z ?_
    exact kQ (hK (i+1,true) (⟨by show i+1≤_;omega,fun e=>by cases e⟩) (by show on.length - (i+1)<on.length - i;omega)) (eC Z (eC Z (eC Z (eC Z (eC Z (eC Z (eC Z (eC Z (eN _)))))))))
   refine rO 4 Z (yD Z Z aC ?_)
   refine oR 3 Z ?_
   exact kQ (hK (i+1,o3) (⟨by show i+1≤_;omega,hio⟩) (by show on.length - (i+1)<on.length - i;omega)) (eC Z (eC Z (eC Z (eC Z (eC Z (eC Z (eC Z (eC Z (eN _)))))))))
  refine rO 5 Z (zG 4 eB Z Z Z Z ?_)
  refine oO 3 Z (zC qU Z Z ?_)
  refine zA (zG 0 DH Z Z Z Z ?_)
  refine zY (zU Z (fun h91=>?_) (fun h91=>?_))
  ·refine rO 3 Z (zL 3 Z cB Z Z ?_)
   refine zA (zF 2 (M':=[_,_,HA.blk _ [_,_,_,_,_] _,_,_,_]) Z Z Z Z cN Z Z Z ?_)
   refine oK 1 [6] Z Z ?_
   have hRR:mi w one own (false,s,on,A0,c0) (o3,s1,on,A0,c0) own:=⟨rfl,fun e=>by rw [show o3=true from h91]at e;cases e⟩
   refine yW (M':=HA.blk b6 [_,_,_,_,_] 25::XS rb w Ar Br cr dr (o3,s1,on,A0,c0)) (by repeat (first|exact zO _|refine zB 0 Z ?_|refine zB 1 Z ?_|refine zB 2 Z ?_|refine zB 3 Z ?_|refine zB 4 Z ?_|refine zB 5 Z ?_|refine zB 6 Z ?_|refine zB 7 Z ?_|refine zB 8 Z ?_)) ?_
   exact xC 0 Tryz.results78 Z Z cB ⟨(o3,s1,on,A0,c0),own,_,hRR,ff (m:=m) (k:=k) hOk hRR,rfl,⟨_,_,_,_,rfl,rfl⟩,rfl⟩ ak aO
  obtain rfl:o3=false:=by simpa using h91
  obtain rfl:o69=false:=hio rfl
  obtain⟨ho0,hko⟩:=ho69 rfl
  have hopn: ¬ jX tz:=hko.resolve_left hnk
  refine rR 2 Z (yX yI ?_)
  refine zS (tP 5 Z br (zZ Z) ?_)
  refine tE (zB 4 Z (zO _)) (wE (zB 4 Z (zO _)) 0 (yS _ _ _ _) Z br aD aD aD Z (wL eB Z (fun _ h=>dQ h (i:=0) Z Z)) ?_)
  refine wE (zB 4 Z (zO _)) 1 (yS _ _ _ _) Z br aD aD aD Z (wL eB Z (fun _ h=>dQ h (i:=0) Z Z)) (zS ?_)
  refine tP 2 Z br (yV Z) (tP 3 Z br (yA je Z) ?_)
  refine tE (zB 0 Z (zO _)) (wE (zB 0 Z (zO _)) 4 (yS _ _ _ _) Z br aD aD aD Z (wL dH Z (fun _ h=>dQ h (i:=0) Z Z)) ?_)
  refine zN 6 aD ?_
  refine zP (I2:=[[4],[3,2],[1,0],[],[]]) Z br aD (fun Kd hKd=>?_)
  refine zM cG Z Z Z Z Z (fun b99=>?_)
  refine hKd _ _ _ (uA sK sQ (hC (uA sK sQ (zE (zE (zQ)))))) ?_
  refine zN 7 aD ?_
  refine zP (I2:=[[],[],[0],[],[]]) Z br aD (fun Kd hKd=>?_)
  refine lX 6 0 cG Z Z Z Z Z Z Z (by have:=hOk.1;unfold maxLen;simp only at this;omega) (by have:=hOk.1;simp only at this;omega) (fun A100 c100=>?_)
  refine hKd _ _ _ (zE (zE (uA sK sQ (zE (zE (zQ)))))) ?_
  refine zS (tP 8 Z br (yV Z) ?_)
  refine tP 9 Z br (yA je Z) (zN 10 aD ?_)
  refine zP (I2:=[[],[],[],[],[],[]]) Z br aD (fun Kd hKd=>?_)
  refine zF 1 (M':=[_,HA.blk _ [_,_,_,_,_,_,_,_] _,_,_,_,_,_]) Z Z Z Z fp Z Z Z (hKd _ _ _ (zE (zE (zE (zE (zE (zE (zQ))))))) ?_)
  refine yG aD (rK 0 [9,6,3] Z Z ?_)
  refine rO 3 Z (zG 5 eB Z Z Z Z ?_)
  refine zA (zL 2 Z cB Z Z ?_)
  refine zA ?_
  have hct105:=IHm (m - 1) aC tz hst false 0 (false,s1,on++[refT own],A100,c100) (.agg #[.int .i64 tz.kind, .int .i64 tz.num, .string tz.text, .slice A52 tz.keys.length m52, .slice B52 tz.items.length d52]) ⟨by simp only [List.length_append,List.length_cons,List.length_nil];omega,fun _=>⟨by simp only;omega,by simp only;omega,by simp only [List.length_append,List.length_cons,List.length_nil];omega⟩⟩
  change Ct Tryz.prog 78 #[cD rb, .agg #[.int .i64 tz.kind, .int .i64 tz.num, .string tz.text, .slice A52 tz.keys.length m52, .slice B52 tz.items.length d52], .bool false] [.blk rb [.int .i64 w.kind, .int .i64 w.num, .string w.text, .slice Ar w.keys.length cr, .slice Br w.items.length dr, .bool false, .int .i64 s1, .slice A100 (on++[refT own]).length c100] 86, .row A100 (on++[refT own]).length c100 9 1 ((on++[refT own]).map Value.string)] _ _ at hct105
  rw [List.length_append,List.map_append]at hct105
  refine rE 1 5 Z Z Z hct105 Z Z aB (fun u105 M105 D105 hv105=>?_)
  obtain⟨a105,v105,D105,hR105,hO105,rfl,⟨A105,m105,B105,d105,rfl,rfl⟩,rfl⟩:=hv105
  obtain⟨o5,s5,on5,A5,c5⟩:=a105
  obtain rfl:on5=on++[refT own]:=hR105.1
  have hlen5:(on++[refT own]).length=on.length+1:=by simp
  change bu _ _ _ _ _ _ _ _ (HA.blk rb [.int .i64 w.kind, .int .i64 w.num, .string w.text, .slice Ar w.keys.length cr, .slice Br w.items.length dr, .bool o5, .int .i64 s5, .slice A5 (on++[refT own]).length c5] 86::HA.row A5 (on++[refT own]).length c5 9 1 ((on++[refT own]).map Value.string)::_) _
  rw [List.map_append,hlen5]
  refine zA (zT cl Z (fun b13=>?_))
  change bu _ _ _ _ _ _ _ _ (HA.blk _ [_,_,_,_,_] _::_) _
  refine zA (zF 0 (M':=[HA.blk _ [_,_,_,_,_] _,_,_,_,_,_,_,_]) Z Z Z Z cN Z Z Z ?_)
  refine oR 2 Z (yX yI ?_)
  refine tE (zB 7 Z (zO _)) (wE (zB 7 Z (zO _)) 0 (yS _ _ _ _) Z br aD aD aD Z (wL eB Z (fun _ h=>dQ h (i:=0) Z Z)) ?_)
  refine wE (zB 7 Z (zO _)) 1 (yS _ _ _ _) Z br aD aD aD Z (wL eB Z (fun _ h=>dQ h (i:=0) Z Z)) (zS ?_)
  refine tP 2 Z br (yV Z) (tP 3 Z br (yA je Z) ?_)
  refine tE (zB 1 Z (zB 6 Z (zO _))) (wE (zB 1 Z (zB 6 Z (zO _))) 4 (yS _ _ _ _) Z br aD aD aD Z (wL dH Z (fun _ h=>dQ h (i:=0) Z Z)) ?_)
  refine wE (zB 1 Z (zB 6 Z (zO _))) 5 (yS _ _ _ _) Z br aD aD aD Z (wL eB Z (fun _ h=>dQ h (i:=1) Z Z)) (zS ?_)
  refine tP 6 Z br (yV Z) (tP 7 Z br (yA je Z) ?_)
  refine tE (zB 1 Z (zO _)) (wE (zB 1 Z (zO _)) 8 (yS _ _ _ _) Z br aD aD aD Z (wL dH Z (fun _ h=>dQ h (i:=0) Z Z)) ?_)
  refine zS (tP 9 Z br (gA cG Z) ?_)
  refine tP 10 Z br (vd (s:=((on.length:Nat):Int)) Z Z (by first|omega|(simp only [List.length_cons,List.length_nil];omega)|(simp;omega)|simp) aC aC) (tE (zB 2 Z (zO _)) ?_)
  refine wE (zB 2 Z (zO _)) 11 (yS _ _ _ _) Z br aD aD aD Z (r3 0 cG Z Z Z aC) (zS ?_)
  refine tP 12 Z br (yV Z) (tP 13 Z br (yA je Z) ?_)
  refine zN 14 aD ?_
  refine zP (I2:=[[],[],[],[],[],[],[],[],[]]) Z br aD (fun Kd hKd=>?_)
  refine zF 1 (M':=[_,HA.blk _ [_,_,_,_,_,_,_,_] _,_,_,_,_,_,_]) Z Z Z Z fp Z Z Z (hKd _ _ _ (zE (zE (zE (zE (zE (zE (zE (zE (zE (zQ)))))))))) ?_)
  refine yG aD (rK 0 [13,6] Z Z ?_)
  refine zt 2 Z (Eh aJ) Cm (rO 3 Z ?_)
  refine oy 1 Z cB Z Z Z Z (zA ?_)
  refine zF 5 (M':=[_,_,_,_,_,HA.blk _ [_,_,_,_,_] _,_,_]) Z Z Z Z cN Z Z Z (zY ?_)
  have hRR:mi w one own (false,s,on,A0,c0) (o5,s5,on,A5,c5) v105:=⟨rfl,fun e=>by
   obtain⟨_,g2,g3,n5,g4,g5,g6⟩:=hR105.2 e
   simp only at g2 g3 g4
   have hs:=hs1' ho0
   refine⟨ho0,g2,?_,n5+1,?_,⟨fun _=>⟨hal,tz,hpt, .inr (.inr ⟨hnk,hopn,g5⟩)⟩,fun hn=>absurd hr hn⟩,?_⟩
   ·rw [jy ho hal hr];simp only;have:=rU tz;omega
   ·simp only;push_cast;omega
   ·rw [g6,pS hr hpt (fun e=>e.elim (fun e=>by rw [hone]at e;cases e) hnk)]⟩
  refine yW (M':=HA.blk b6 [_,_,_,_,_] 25::XS rb w Ar Br cr dr (o5,s5,on,A5,c5)) (by repeat (first|exact zO _|refine zB 0 Z ?_|refine zB 1 Z ?_|refine zB 2 Z ?_|refine zB 3 Z ?_|refine zB 4 Z ?_|refine zB 5 Z ?_|refine zB 6 Z ?_|refine zB 7 Z ?_|refine zB 8 Z ?_)) ?_
  exact xC 0 Tryz.results78 Z Z cB ⟨(o5,s5,on,A5,c5),v105,_,hRR,ff (m:=m) (k:=k) hOk hRR,rfl,⟨_,_,_,_,rfl,rfl⟩,rfl⟩ ak aO
 have hnr: ¬ cI own:=fun e=>absurd ((tO hle).2 e) (by simpa using h40)
 refine rO 4 Z (yY Z Z (nv ..) ?_)
 refine zA (zT cl Z (fun b14=>?_))
 change bu _ _ _ _ _ _ _ _ (HA.blk _ [_,_,_,_,_] _::_) _
 refine zA (zF 0 (M':=[HA.blk _ [_,_,_,_,_] _,_,_,_,_,_]) Z Z Z Z cN Z Z Z ?_)
 refine oO 5 Z (zC xT Z Z ?_)
 refine zA (zG 2 dH Z Z Z Z ?_)
 refine zA (zX cG Z Z ?_)
 refine oK 4 [125,124,123,14,6,4,3] Z Z (wZ 25 5 ?_)
 refine wZ 9 1 (qD ?_)
 refine yR 1 (fun(⟨i,a,Ak,ck,xk,A,ca,xs,ts,l⟩:Nat×SA×Option Addr×Nat×List Value×Option Addr×Nat×List Value×List V×kT)=>i≤own.keys.length∧FoldK w (false,s1,on,A0,c0) ((own.keys.zip own.items).take i) a l∧Ck (m - 1) 0 a∧xk=(own.keys.take i).map Value.string∧ts=l.map (·.2)∧(∀ q,Ak=some q→c.w0.heap.size≤q.block)∧ ∀ q,A=some q→c.w0.heap.size≤q.block) (fun(⟨i,a,Ak,ck,xk,A,ca,xs,ts,l⟩:Nat×SA×Option Addr×Nat×List Value×Option Addr×Nat×List Value×List V×kT)=>[(125, .int .i64 ((i:Nat):Int))]) (fun(⟨i,a,Ak,ck,xk,A,ca,xs,ts,l⟩:Nat×SA×Option Addr×Nat×List Value×Option Addr×Nat×List Value×List V×kT)=>HA.row Ak i ck 9 1 xk::HA.row A i ca 25 5 xs::HA.blk b14 [.int .i64 5, .int .i64 0, .string ⟨#[]⟩, .slice Ak i ck, .slice A i ca] 25::HA.blk b6 [.int .i64 0, .int .i64 0, .string ⟨#[]⟩, .slice none 0 0, .slice none 0 0] 25::HA.blk b4 [.int .i64 own.kind, .int .i64 own.num, .string own.text, .slice A1 own.keys.length c1, .slice A2 own.items.length c2] 25::HA.blk b3 [cD rb] 84::XS rb w Ar Br cr dr a) (fun(⟨i,a,Ak,ck,xk,A,ca,xs,ts,l⟩:Nat×SA×Option Addr×Nat×List Value×Option Addr×Nat×List Value×List V×kT)=> .its xs ts:: .strs (.slice A1 own.keys.length c1) own.keys:: .vals (.slice A2 own.items.length c2) own.items:: .val (.agg #[.int .i64 own.kind, .int .i64 own.num, .string own.text, .slice A1 own.keys.length c1, .slice A2 own.items.length c2]) own::DS w Ar Br cr dr a::[]) (fun(⟨i,a,Ak,ck,xk,A,ca,xs,ts,l⟩:Nat×SA×Option Addr×Nat×List Value×Option Addr×Nat×List Value×List V×kT)=>own.keys.length - i) (0,(false,s1,on,A0,c0),none,0,[],none,0,[],[],[]) (⟨Nat.zero_le _, .nil,⟨hon,fun _=>⟨by simp only;omega,by simp only;omega,by simp only;omega⟩⟩,rfl,rfl,(fun q h=>by cases h),(fun q h=>by cases h)⟩) (eC Z (eN _)) Z Z ?_ (eC Z (eC Z (eC Z (eC Z (eC Z (eC Z (eN _)))))))
 intro ⟨i,a,Ak,ck,xk,A,ca,xs,ts,l⟩ hI K hK1
 change Run _ _ _ _ _ [(125,_),(124,_),(123,_),(14,_),(6,_),(4,_),(3,_)] (HA.row Ak i ck 9 1 xk::HA.row A i ca 25 5 xs::HA.blk b14 [.int .i64 5, .int .i64 0, .string ⟨#[]⟩, .slice Ak i ck, .slice A i ca] 25::HA.blk b6 [.int .i64 0, .int .i64 0, .string ⟨#[]⟩, .slice none 0 0, .slice none 0 0] 25::HA.blk b4 [.int .i64 own.kind, .int .i64 own.num, .string own.text, .slice A1 own.keys.length c1, .slice A2 own.items.length c2] 25::HA.blk b3 [cD rb] 84::XS rb w Ar Br cr dr a) [_,_,_,_,_]
 obtain⟨hi,hF,hOka,hxk,hts,hAk,hA⟩:=hI
 refine rO 3 Z (yK Z Z Z ?_)
 refine oR 2 Z (zK Z (fun h126=>?_) (fun h126=>?_))
 ·refine rO 8 Z (wA 1 cG Z Z Z Z h126 ?_)
  have hlt:i<own.items.length:=by omega
  refine zA (yE cv Z Z (fun _ h=>xK h (j:=1) Z (List.getElem?_eq_getElem h126)) ?_)
  refine zA (zT MF Z (fun b16=>?_))
  change bu _ _ _ _ _ _ _ _ (HA.blk _ [_] _::_) _
  refine oO 3 Z (zF 0 (M':=[HA.blk _ [_] _,_,_,_,_,_,_,_,_]) Z Z Z Z ME Z Z Z ?_)
  refine oR 2 Z (yX yI ?_)
  refine zS (tP 1 Z br (yA xG Z) ?_)
  refine tP 3 Z br (zZ Z) (tP 6 Z br (o1 Z Z) ?_)
  refine tE (zB 0 Z (zB 4 Z (zO _))) (wE (zB 0 Z (zB 4 Z (zO _))) 0 (yS _ _ _ _) Z br aD aD aD Z (xD 0 cv Z Z Z) ?_)
  refine wE (zB 0 Z (zB 4 Z (zO _))) 2 (yS _ _ _ _) Z br aD aD aD Z (xD 1 dK Z Z Z) (eK ?_)
  refine qM 4 (yS _ _ _ _) Z br aD aD aD Z (rL 2 cV Z Z Z hlt) (eW 2 Z (List.getElem?_eq_getElem hlt) (fun vs135 hl135=>?_))
  refine eK (qM 5 (yS _ _ _ _) Z br aD aD aD Z (eX 0 hl135 cB Z Z) ?_)
  refine tR (rs:=[7,8]) aD aJ ?_
  intro j hj
  simp only [List.mem_cons,List.not_mem_nil,or_false]at hj
  rcases hj with rfl|rfl
  ·refine zP (I2:=[[],[],[],[],[]]) Z br aD (fun Kd hKd=>?_)
   refine Cn (HE.perm (List.perm_middle (l₁:=[_,_,_,_,_])).symm) ?_
   have hkid: ∀ y∈kidsOf (bw own.keys[i]) (own.items[i]'hlt),dc y:=fun y hy=>by
    have hgk:=(yJ ho.1 ho.2.kind).1 (List.mem_of_getElem? (i:=i) (by rw [List.getElem?_zip_eq_some];exact⟨List.getElem?_eq_getElem h126,List.getElem?_eq_getElem hlt⟩):(own.keys[i],own.items[i]'hlt)∈own.keys.zip own.items)
    have hk:=wI ho.1 ho.2.kind hgk hy
    exact⟨vD ho.1 hk,xO ho.1 ho.2 hk⟩
   have hpi:=ho.1.item _ (List.getElem_mem hlt)
   refine fC (pre:=[_,_,_,_,_]) Z Z Z (Gx (X:=fun a=> .blk b16 [.string own.keys[i]] 9:: .blk b3 [cD rb] 84::XS rb w Ar Br cr dr a) (DX:=DS w Ar Br cr dr) (Ok:=Ck (m - 1)) (fun _ _ h=>h) (own.keys[i]'h126) (own.items[i]'hlt) _ 118 #[] #[cD b16,cD b3] hpi.wf.kl hpi.wf.il (fun y hy=>JY rb w Ar Br cr dr b16 b3 (m - 1) _ y (hkid y hy) (fun y2 hy2 one2=>IHm (m - 1) aC y2 hy2 one2)) a hOka) Z aB (fun u137 M137 D137 hv137=>?_)
   obtain⟨a137,v137,D137,hR137,rfl,⟨A137,m137,B137,d137,rfl,rfl⟩,rfl⟩:=hv137
   refine hKd _ _ _ (zE (zE (zE (zE (zE (zQ)))))) (zN 8 aD ?_)
   refine zP (I2:=[[],[],[],[],[]]) Z br aD (fun Kd hKd=>?_)
   refine zT cl Z (fun b17=>?_)
   change bu _ _ _ _ _ _ _ _ (HA.blk _ [_,_,_,_,_] _::_) _
   refine hKd _ _ _ (zE (zE (zE (zE (zE (zQ)))))) (zN 9 aD ?_)
   refine zP (I2:=[[],[],[],[],[]]) Z br aD (fun Kd hKd=>?_)
   refine zF 0 (M':=[HA.blk _ [_,_,_,_,_] _,_,_,_,_,_,_,_,_,_]) Z Z Z Z cN Z Z Z (hKd _ _ _ (zE (zE (zE (zE (zE (zQ)))))) ?_)
   refine yG aD (rK 0 [17,16,125,124,123,14,6,4,3] Z Z ?_)
   refine rO 3 Z (zC xT Z Z ?_)
   refine zA (zG 3 dH Z Z Z Z ?_)
   refine zA (zG 6 cv Z Z Z Z ?_)
   refine zA (zM cG Z Z Z Z Z (fun b141=>?_))
   refine zA ?_
   refine sX 2 0 cG Z Z Z Z Z Z Z bT aC hAk (fun A142 c142 hA142=>?_)
   refine zA (zC xT Z Z ?_)
   refine zA (zF 4 (M':=[_,_,_,_,HA.blk _ [_,_,_,_,_] _,_,_,_,_,_,_]) Z Z Z Z fp Z Z Z ?_)
   refine oK 1 [17,125,124,123,14,6,4,3] Z Z (rO 2 Z ?_)
   refine zC xG Z Z (zA ?_)
   refine zG 4 dK Z Z Z Z (zA ?_)
   refine zL 1 Z cB Z Z (zA ?_)
   refine zM cV Z Z Z Z Z (fun b147=>?_)
   refine zA ?_
   refine sX 4 0 cV Z Z Z Z Z Z Z bT aC hA (fun A148 c148 hA148=>?_)
   refine zA (zC xG Z Z ?_)
   refine zA (zF 5 (M':=[_,_,_,_,_,HA.blk _ [_,_,_,_,_] _,_,_,_,_,_,_]) Z Z Z Z fu Z Z Z ?_)
   refine oO 4 Z (yD Z Z aC ?_)
   refine oK 3 [125,124,123,14,6,4,3] Z Z (vA 4 0 Z Z Z ?_)
   exact kQ (hK1 (i+1,a137,A142,c142,xk++[.string own.keys[i]],A148,c148,_,ts++[v137],l++[(own.keys[i],v137)]) (⟨by show i+1≤_;omega,hF.stepI aC hlt hR137,r4 hOka hR137,by rw [hxk,List.take_add_one,List.getElem?_eq_getElem (by omega:i<own.keys.length),List.map_append];rfl,by rw [hts];simp,hA142,hA148⟩) (by show own.keys.length - (i+1)<own.keys.length - i;omega)) (eC Z (eC Z (eC Z (eC Z (eC Z (eC Z (eC Z (eN _)))))))) (hD:=(by intro d hd;refine(List.mem_cons.1 hd).elim (fun e=>e▸ac) (fun hd=>?_);repeat (first|exact hd|apply List.mem_cons_of_mem)))
  refine zP (I2:=[[5],[4],[2,0],[6,3,1],[]]) Z br aD (fun Kd hKd=>?_)
  refine zT cl Z (fun b17=>?_)
  change bu _ _ _ _ _ _ _ _ (HA.blk _ [_,_,_,_,_] _::_) _
  refine hKd _ _ _ (hC (hC (uA sK sQ (hC (zE (zQ)))))) ?_
  refine zN 7 aD ?_
  refine zP (I2:=[[],[],[],[],[]]) Z br aD (fun Kd hKd=>?_)
  refine Cn (HE.perm (.cons _ (List.perm_middle (l₁:=[_,_,_,_,_])).symm)) ?_
  have hkid: ∀ y∈kidsOf (bw own.keys[i]) (own.items[i]'hlt),dc y:=fun y hy=>by
   have hgk:=(yJ ho.1 ho.2.kind).1 (List.mem_of_getElem? (i:=i) (by rw [List.getElem?_zip_eq_some];exact⟨List.getElem?_eq_getElem h126,List.getElem?_eq_getElem hlt⟩):(own.keys[i],own.items[i]'hlt)∈own.keys.zip own.items)
   have hk:=wI ho.1 ho.2.kind hgk hy
   exact⟨vD ho.1 hk,xO ho.1 ho.2 hk⟩
  have hpi:=ho.1.item _ (List.getElem_mem hlt)
  refine fC (pre:=[_,_,_,_,_,_]) Z Z Z (Gx (X:=fun a=> .blk b16 [.string own.keys[i]] 9:: .blk b3 [cD rb] 84::XS rb w Ar Br cr dr a) (DX:=DS w Ar Br cr dr) (Ok:=Ck (m - 1)) (fun _ _ h=>h) (own.keys[i]'h126) (own.items[i]'hlt) _ 118 #[] #[cD b16,cD b3] hpi.wf.kl hpi.wf.il (fun y hy=>JY rb w Ar Br cr dr b16 b3 (m - 1) _ y (hkid y hy) (fun y2 hy2 one2=>IHm (m - 1) aC y2 hy2 one2)) a hOka) Z aB (fun u137 M137 D137 hv137=>?_)
  obtain⟨a137,v137,D137,hR137,rfl,⟨A137,m137,B137,d137,rfl,rfl⟩,rfl⟩:=hv137
  refine hKd _ _ _ (zE (zE (zE (zE (zE (zQ)))))) (zN 9 aD ?_)
  refine zP (I2:=[[],[],[],[],[]]) Z br aD (fun Kd hKd=>?_)
  refine zF 0 (M':=[HA.blk _ [_,_,_,_,_] _,_,_,_,_,_,_,_,_,_]) Z Z Z Z cN Z Z Z (hKd _ _ _ (zE (zE (zE (zE (zE (zQ)))))) ?_)
  refine yG aD (rK 0 [17,16,125,124,123,14,6,4,3] Z Z ?_)
  refine rO 3 Z (zC xT Z Z ?_)
  refine zA (zG 3 dH Z Z Z Z ?_)
  refine zA (zG 6 cv Z Z Z Z ?_)
  refine zA (zM cG Z Z Z Z Z (fun b141=>?_))
  refine zA ?_
  refine sX 2 0 cG Z Z Z Z Z Z Z bT aC hAk (fun A142 c142 hA142=>?_)
  refine zA (zC xT Z Z ?_)
  refine zA (zF 4 (M':=[_,_,_,_,HA.blk _ [_,_,_,_,_] _,_,_,_,_,_,_]) Z Z Z Z fp Z Z Z ?_)
  refine oK 1 [17,125,124,123,14,6,4,3] Z Z (rO 2 Z ?_)
  refine zC xG Z Z (zA ?_)
  refine zG 4 dK Z Z Z Z (zA ?_)
  refine zL 1 Z cB Z Z (zA ?_)
  refine zM cV Z Z Z Z Z (fun b147=>?_)
  refine zA ?_
  refine sX 4 0 cV Z Z Z Z Z Z Z bT aC hA (fun A148 c148 hA148=>?_)
  refine zA (zC xG Z Z ?_)
  refine zA (zF 5 (M':=[_,_,_,_,_,HA.blk _ [_,_,_,_,_] _,_,_,_,_,_,_]) Z Z Z Z fu Z Z Z ?_)
  refine oO 4 Z (yD Z Z aC ?_)
  refine oK 3 [125,124,123,14,6,4,3] Z Z (vA 4 0 Z Z Z ?_)
  exact kQ (hK1 (i+1,a137,A142,c142,xk++[.string own.keys[i]],A148,c148,_,ts++[v137],l++[(own.keys[i],v137)]) (⟨by show i+1≤_;omega,hF.stepI aC hlt hR137,r4 hOka hR137,by rw [hxk,List.take_add_one,List.getElem?_eq_getElem (by omega:i<own.keys.length),List.map_append];rfl,by rw [hts];simp,hA142,hA148⟩) (by show own.keys.length - (i+1)<own.keys.length - i;omega)) (eC Z (eC Z (eC Z (eC Z (eC Z (eC Z (eC Z (eN _)))))))) (hD:=(by intro d hd;refine(List.mem_cons.1 hd).elim (fun e=>e▸ac) (fun hd=>?_);repeat (first|exact hd|apply List.mem_cons_of_mem)))
 obtain rfl:i=own.keys.length:=by omega
 have hll:l.length=own.keys.length:=by
  have e:=congrArg List.length hF.keys
  rw [ja _ _ _ hle,List.length_map,List.take_length]at e
  exact e
 have hlk:l.map (·.1)=own.keys:=by rw [hF.keys,ja _ _ _ hle,List.take_length]
 rw [List.take_of_length_le (by rw [List.length_zip];omega)]at hF
 have hKr:=Eg hF
 refine rz 0 (l.map (·.1)) hAk Z (by rw [hxk,hlk,List.take_length]) (by rw [hlk];exact hksz) (kN 0 1 ts hA Z Z (by rw [hts,List.length_map,hll]) ?_)
 refine vQ (q:=5) (m:=0) (s:=⟨#[]⟩) 1 0 Z Z aE ?_
 subst hts
 refine rO 4 Z (zL 0 Z cB Z Z ?_)
 refine zA (zF 1 (M':=[_,HA.blk _ [_,_,_,_,_] _,_,_,_,_]) Z Z Z Z cN Z Z Z ?_)
 refine zY ?_
 have hRR:mi w one own (false,s,on,A0,c0) a (ox l):=⟨hKr.1,fun e=>by
  obtain⟨g1,g2,g3,n5,g4,g5,g6⟩:=hKr.2 e
  simp only at g2 g3 g4
  have hs:=hs1' rfl
  refine⟨rfl,g2 aC,?_,n5+1,?_,⟨fun hn=>absurd hn hnr,fun _=>g5⟩,?_⟩
  ·rw [rU,kidsV];simp only;omega
  ·simp only;push_cast;omega
  ·rw [rJ hnr,g6];rfl⟩
 refine yW (M':=HA.blk b6 [_,_,_,_,_] 25::XS rb w Ar Br cr dr a) (by repeat (first|exact zO _|refine zB 0 Z ?_|refine zB 1 Z ?_|refine zB 2 Z ?_|refine zB 3 Z ?_|refine zB 4 Z ?_|refine zB 5 Z ?_|refine zB 6 Z ?_|refine zB 7 Z ?_|refine zB 8 Z ?_)) ?_
 exact xC 0 Tryz.results78 Z Z cB ⟨a,(ox l),_,hRR,ff (m:=m) (k:=k) hOk hRR,rfl,⟨_,_,_,_,(by show _=Value.agg #[.int .i64 5, .int .i64 0, .string ⟨#[]⟩, .slice Ak (l.map (·.1)).length ck, .slice A (l.map (·.2)).length ca];rw [List.length_map,List.length_map,hll]),rfl⟩,rfl⟩ ak (by intro d hd;refine(List.mem_cons.1 hd).elim (fun e=>e▸List.mem_cons_self) (fun hd=>?_);obtain rfl:=List.mem_singleton.1 hd;simp [DS])
theorem zu(M:List HA)(T sz:Nat):HE M (.row none 0 0 T sz []::M):=⟨fun w=>⟨fun a x hx=>by
  rcases List.mem_cons.1 hx with rfl|hx
  ·exact⟨(Nat.zero_mul sz).symm, .inl ⟨rfl,rfl⟩⟩
  ·exact a x hx,fun a x hx=>a x (List.mem_cons_of_mem _ hx)⟩,by simp [foots,HA.foot]⟩
def JZ(v z:V):Prop:=eY v∧IsRootV v∧ ¬ cI (bx v)∧cd (bx v)≤2000∧jB z∧ ∃n:Nat,n≤2000∧co (bx v) n false (bx v)∧z=cQ (bx v) n false (bx v)
theorem Cp{v:V}(hp:Pl v)(hs:IsShape v)(h: ¬ cI v): ¬ cI (bx v):=by
 unfold cI
 rw [rI hs hp,if_pos aD,pQ fun x=>rx (.inl aD) x]
 exact h
theorem zv{v:V}(hp:Pl v)(hs:IsShape v)(h:IsRootV v):IsRootV (bx v):=by
  have hid:=ru hs hp
  unfold IsRootV
  rw [hid]
  refine⟨h.1,h.2.1,h.2.2.1,fun z hz=>?_⟩
  obtain⟨y,hy,rfl⟩:=mL hp hs hz
  refine nU (p:=fun z=> ¬ uo z) (q:=fun z=> ¬ uo z) (fun x hpx hsx hx hI=>hx ?_) y (vD hp hy) (xO hp hs hy) (h.2.2.2 y hy)
  rcases hI with e|e
  · rw [rI hsx hpx,if_pos aD]at e
    exact .inl (by cases hg:getV x kId with|none=>rw [hg]at e;cases e|some a=>rfl)
  · rw [rI hsx hpx,if_pos aD]at e
    exact .inr (by cases hg:getV x k1 with|none=>rw [hg]at e;cases e|some a=>rfl)

theorem c42(v:V)(x:Value):CtR Tryz.prog 42 #[x] [.val x v] (fun u D'=> ∃y z b,u= .tuple #[y, .bool b]∧RV z y D'∧(b=true→JZ v z)):=by
 refine Ct.of_run (args:=[x]) Tryz.func42 aF Z Tryz.ntmps42 Z (fun c=>?_)
 refine xB 0 Z (fun A1 c1 A2 c2 hx hsz1 hk1 hk2 hi1 hi2=>?_)
 subst hx
 refine rO 3 Z (yN Z Z Z (fun b1=>?_))
 refine zA (zT cl Z (fun b2=>?_))
 change bu _ _ _ _ _ _ _ _ (HA.blk _ [_,_,_,_,_] _::_) _
 refine oO 7 Z (zL 1 Z cB Z Z ?_)
 refine zA (zJ Z Z Z (c20 v _) aA ?_)
 refine oS 4 Z (yQ (s:=9) Z (fun h9=>?_) (fun h9=>?_))
 ·refine oK 13 [18,2,1] Z Z (rO 4 Z ?_)
  refine yY Z Z (xt ..) (zA ?_)
  refine zF 0 (M':=[HA.blk _ [_,_,_,_,_] _,_]) Z Z Z Z cN Z Z Z (oR 3 Z ?_)
  refine yW (M':=[HA.blk b2 [_,_,_,_,_] 25]) (by repeat (first|exact zO _|refine zB 0 Z ?_|refine zB 1 Z ?_|refine zB 2 Z ?_|refine zB 3 Z ?_|refine zB 4 Z ?_|refine zB 5 Z ?_|refine zB 6 Z ?_)) ?_
  refine yO (.val (.agg #[.int .i64 0, .int .i64 0, .string ⟨#[]⟩, .slice none 0 0, .slice none 0 0]) zV) (fun w ok _=>gD w ok) ?_
  exact wK 0 Tryz.results42 Z Z Z cB ⟨rfl, .agg #[.int .i64 0, .int .i64 0, .string ⟨#[]⟩, .slice none 0 0, .slice none 0 0],zV,false,rfl,⟨none,0,none,0,rfl,rfl⟩,fun e=>by cases e⟩ nS (cC 0 Z)
 have hsv:eY v:=yP.1 (by simpa using h9)
 have hp:Pl v:=⟨12,hsv.1.1⟩
 refine zI Z Z (zL 1 Z cB Z Z ?_)
 refine zI Z Z (zJ Z Z Z (c33 v _ hp) aA ?_)
 refine oS 6 Z (yQ (s:=14) Z (fun h14=>?_) (fun h14=>?_))
 ·refine oK 6 [18,2,1] Z Z (rO 4 Z ?_)
  refine yY Z Z (xt ..) (zA ?_)
  refine zF 0 (M':=[HA.blk _ [_,_,_,_,_] _,_]) Z Z Z Z cN Z Z Z (oR 3 Z ?_)
  refine yW (M':=[HA.blk b2 [_,_,_,_,_] 25]) (by repeat (first|exact zO _|refine zB 0 Z ?_|refine zB 1 Z ?_|refine zB 2 Z ?_|refine zB 3 Z ?_|refine zB 4 Z ?_|refine zB 5 Z ?_|refine zB 6 Z ?_)) ?_
  refine yO (.val (.agg #[.int .i64 0, .int .i64 0, .string ⟨#[]⟩, .slice none 0 0, .slice none 0 0]) zV) (fun w ok _=>gD w ok) ?_
  exact wK 0 Tryz.results42 Z Z Z cB ⟨rfl, .agg #[.int .i64 0, .int .i64 0, .string ⟨#[]⟩, .slice none 0 0, .slice none 0 0],zV,false,rfl,⟨none,0,none,0,rfl,rfl⟩,fun e=>by cases e⟩ nS (cC 0 Z)
 have hroot:IsRootV v:=yP.1 (by simpa using h14)
 refine zI Z Z (zL 1 Z cB Z Z ?_)
 refine zI Z Z (zJ Z Z Z (C7 _ v k3) aA ?_)
 refine zI Z Z (tY Z Z Z ?_)
 refine oK 3 [18,2,1] Z Z (zU Z (fun h18=>?_) (fun h18=>?_))
 ·refine rO 3 Z (yY Z Z (xt ..) ?_)
  refine zA (zF 0 (M':=[HA.blk _ [_,_,_,_,_] _,_]) Z Z Z Z cN Z Z Z ?_)
  refine oR 3 Z ?_
  refine yW (M':=[HA.blk b2 [_,_,_,_,_] 25]) (by repeat (first|exact zO _|refine zB 0 Z ?_|refine zB 1 Z ?_|refine zB 2 Z ?_|refine zB 3 Z ?_|refine zB 4 Z ?_|refine zB 5 Z ?_|refine zB 6 Z ?_)) ?_
  refine yO (.val (.agg #[.int .i64 0, .int .i64 0, .string ⟨#[]⟩, .slice none 0 0, .slice none 0 0]) zV) (fun w ok _=>gD w ok) ?_
  exact wK 0 Tryz.results42 Z Z Z cB ⟨rfl, .agg #[.int .i64 0, .int .i64 0, .string ⟨#[]⟩, .slice none 0 0, .slice none 0 0],zV,false,rfl,⟨none,0,none,0,rfl,rfl⟩,fun e=>by cases e⟩ nS (cC 0 Z)
 have hnr: ¬ cI v:=fun e=>absurd ((tO hp.wf.le).2 e) (by simpa using h18)
 have hw:dc (bx v):=⟨gw hsv.2 hp,iP v hsv.2 hp⟩
 refine rO 4 Z (zL 1 Z cB Z Z ?_)
 refine zA ?_
 refine zW Z Z Z (MK v hp.wf _) aA (fun u21 D21 hv21=>?_)
 obtain⟨A21,m21,B21,d21,rfl,rfl⟩:=hv21
 refine zA (zF 1 (M':=[_,HA.blk _ [_,_,_,_,_] _]) Z Z Z Z cN Z Z Z ?_)
 refine oO 4 Z (zL 1 Z cB Z Z ?_)
 refine zA (yY Z Z (Am ..) ?_)
 refine zA (yN Z Z Z (fun b24=>?_))
 refine oO 8 Z (zL 2 Z cB Z Z ?_)
 refine zA (Cn (zu _ 9 1) ?_)
 have hct27:=NB b24 (bx v) A21 B21 m21 d21 hw 2001 (bx v) hw false 0 (false,2000,[],none,0) (.agg #[.int .i64 (bx v).kind, .int .i64 (bx v).num, .string (bx v).text, .slice A21 (bx v).keys.length m21, .slice B21 (bx v).items.length d21]) ⟨Nat.zero_le _,fun _=>⟨by decide,by decide,by decide⟩⟩
 change Ct Tryz.prog 78 #[cD b24, .agg #[.int .i64 (bx v).kind, .int .i64 (bx v).num, .string (bx v).text, .slice A21 (bx v).keys.length m21, .slice B21 (bx v).items.length d21], .bool false] [.blk b24 _ 86, .row none 0 0 9 1 []] _ _ at hct27
 refine rE 1 0 Z Z Z hct27 Z Z (by intro d hd;simp only [List.mem_cons,List.not_mem_nil,or_false]at hd;rcases hd with rfl|rfl<;>simp [DS]) (fun u27 M27 D27 hv27=>?_)
 obtain⟨a27,v27,D27,hR27,hO27,rfl,⟨A27,m27,B27,d27,rfl,rfl⟩,rfl⟩:=hv27
 obtain⟨o27,s27,on27,A0,c0⟩:=a27
 refine zA (zT cl Z (fun b5=>?_))
 change bu _ _ _ _ _ _ _ _ (HA.blk _ [_,_,_,_,_] _::_) _
 refine zA (zF 0 (M':=[HA.blk _ [_,_,_,_,_] _,_,_,_,_]) Z Z Z Z cN Z Z Z ?_)
 refine oK 1 [5,4,2] Z Z (xJ ?_)
 refine yX yI (zS ?_)
 refine tP 1 Z br (zZ Z) (tP 2 Z br (yV Z) ?_)
 refine tP 3 Z br (yA qU Z) (yH ?_)
 refine tM 0 Z br (uR 0 Z cB Z) (tM 4 Z br (xD 1 DH Z Z Z) ?_)
 refine zS (tP 5 Z br (AE Z) ?_)
 refine tP 6 Z br (zZ Z) (pX (s:=34) Z (fun h34=>?_) (fun h34=>?_))
 ·obtain⟨_,g2,g3,n27,g4,ht27,hz27⟩:=hR27.2 (by simpa using h34)
  simp only at g2 g3 g4
  have nd27:cd (bx v)≤2000:=by omega
  have hn27:n27≤2000:=by omega
  refine yH (tM 7 Z (cT Z Z) (uR 0 Z cB Z) ?_)
  refine zN 8 aD ?_
  refine zP (I2:=[[],[],[0],[],[]]) Z (cT Z Z) aD (fun Kd hKd=>?_)
  refine zJ Z Z Z (Lq v27 _) aA (hKd _ _ _ (zE (zE (hC (zE (zE (zQ)))))) ?_)
  refine zS (tP 9 Z br (rB Z Z) ?_)
  refine zN 10 aD ?_
  refine zP (I2:=[[9],[],[],[],[],[]]) Z br aD (fun Kd hKd=>?_)
  refine zF 3 (M':=[_,_,_,HA.blk _ [_,_,_,_,_] _,_]) Z Z Z Z cN Z Z Z (hKd _ _ _ (hC (zE (zE (zE (zE (zE (zQ))))))) ?_)
  refine tP 11 Z br (yZ Z) (yG aD ?_)
  refine rK 0 [3,2] Z Z ?_
  refine yW (M':=[HA.blk b2 [_,_,_,_,_] 25]) (by repeat (first|exact zO _|refine zB 0 Z ?_|refine zB 1 Z ?_|refine zB 2 Z ?_|refine zB 3 Z ?_|refine zB 4 Z ?_|refine zB 5 Z ?_|refine zB 6 Z ?_)) ?_
  exact wK 0 Tryz.results42 Z Z Z cB ⟨rfl,_,v27,_,rfl,⟨_,_,_,_,rfl,rfl⟩,fun e=>⟨hsv,hroot,Cp hp hsv.2 hnr,nd27,yP.1 e,n27,hn27,ht27,hz27⟩⟩ nS aA
 refine yH (tS 7 Z Z Z Z ?_)
 refine tS 8 Z Z Z Z (zS ?_)
 refine tP 9 Z br (rB Z Z) (zN 10 aD ?_)
 refine zP (I2:=[[9],[],[],[],[],[]]) Z br aD (fun Kd hKd=>?_)
 refine zF 3 (M':=[_,_,_,HA.blk _ [_,_,_,_,_] _,_]) Z Z Z Z cN Z Z Z (hKd _ _ _ (hC (zE (zE (zE (zE (zE (zQ))))))) ?_)
 refine tP 11 Z br (yZ Z) (yG aD ?_)
 refine rK 0 [3,2] Z Z ?_
 refine yW (M':=[HA.blk b2 [_,_,_,_,_] 25]) (by repeat (first|exact zO _|refine zB 0 Z ?_|refine zB 1 Z ?_|refine zB 2 Z ?_|refine zB 3 Z ?_|refine zB 4 Z ?_|refine zB 5 Z ?_|refine zB 6 Z ?_)) ?_
 exact wK 0 Tryz.results42 Z Z Z cB ⟨rfl,_,v27,_,rfl,⟨_,_,_,_,rfl,rfl⟩,fun e=>by cases e⟩ nS aA
theorem Ja{G:Gr}{b mb:Nat}{v:V}(hg:(G.map (·.1)).Nodup)(hp:Pl v)(hs:IsShape v)(hnr: ¬ cI (bx v))(hU:Unf G v b)(ho:Own G [b]){N:Nat}(hN:N≤2000)(ht:co (bx v) N false (bx v))(hnd:cd (bx v)≤2000):
    ∃(c:RX) (L:List Nat) (mu:Nat→Nat),c.w=bx v∧c.b=b∧GOk G c.σ∧c.One∧c.Mu mu∧(∀ one d,c.RS one d→d∈L)∧uw L mu id<999999999:=by
  obtain⟨σ,hσ⟩:=GOk.ex hg
  have hw:dc (bx v):=⟨gw hs hp,iP v hs hp⟩
  have hu:=(rm hσ _ _).1 (um v b hp hs hU)
  obtain⟨f,hf,_⟩:=(wC _ _ _).1 hu
  let c:RX:=⟨σ,bx v,b,f,hw,hu,hf,hnr⟩
  have h1:c.One:=EY (c:=c) hσ ho
  obtain⟨mu,hmu,hmN⟩:=RX.mu_ex (c:=c) ht h1
  obtain⟨L,hL1,hL2⟩:=CY (σ:=σ) (bx v) b hw hu
  refine⟨c,L,mu,rfl,rfl,hσ,h1,hmu,fun one d hd=>hL2 d (RX.rs_rch (c:=c) hd),?_⟩
  have: ∀ l:List Nat,(l.map (fun d=>mu (id d))).sum≤l.length*2000:=by
    intro l
    induction l with
    |nil=>exact Nat.le_refl _
    |cons a l ih=>
      have:=hmN a
      simp only [List.map_cons,List.sum_cons,List.length_cons,id]
      simp only [id]at ih
      omega
  have h5:=this L
  have h6:L.length*2000≤2000*2000:=Nat.mul_le_mul_right _ aC
  show(L.map (fun d=>mu (id d))).sum<_
  omega
theorem LO(mb ck b N:Nat)(G:Gr)(v:V)(hp:Pl v)(hs:IsShape v)(hroot:IsRootV v)(hnr: ¬ cI (bx v))(hU:Unf G v b)(ho:Own G [b])(hN:N≤2000)(ht:co (bx v) N false (bx v))(hnd:cd (bx v)≤2000):
  Ct Tryz.prog 82 #[cD b] [.many 124 (Gr.blks G), .obj mb (.map #[{key:= .string (eF (bx v)),val:=cD b,born:=0}] ck)] [.graph mb G] (fun u M' D'=>u= .tuple #[]∧ ∃G',Unf G' (cQ (bx v) N false (bx v)) b∧M'=[.many 124 (Gr.blks G'), .obj mb (.map #[{key:= .string (eF (bx v)),val:=cD b,born:=0}] ck)]∧D'=[.graph mb G']):=by
 refine Ct.know (p:=(G.map (·.1)).Nodup) (fun hn w ok _=>rj hn) ⟨_,Tryz.func82,rfl,rfl⟩ (fun hg=>?_)
 obtain⟨c,L,mu,e1,e2,hσ,h1,hmu,hL,hphi⟩:=Ja (mb:=mb) hg hp hs hnr hU ho hN ht hnd
 have hc:=NA c mb ck N G L mu (by rw [e1];exact zv hp hs hroot) (by rw [e1];exact ht) h1 hmu hL hphi hσ
 unfold jZ at hc
 rw [e1,e2]at hc
 refine hc.mono ?_
 rintro u M' D' ⟨rfl,G',σ',hG',hu,rfl,rfl⟩
 exact⟨rfl,G',(rm hG' _ _).2 hu,rfl,rfl⟩
theorem Jb(fb:Addr)(sb N:Nat)(v:V)(x:Value)(hp:Pl v)(hs:IsShape v)(hroot:IsRootV v)(hnr: ¬ cI (bx v))(hN:N≤2000)(ht:co (bx v) N false (bx v))(hnd:cd (bx v)≤2000)(hpc:Pl (cQ (bx v) N false (bx v)))(hsc:IsShape (cQ (bx v) N false (bx v))):CtR Tryz.prog 45 #[x, .slice (some ⟨sb,0,none⟩) 1 1] [.val x v, .dblk sb [.int .i64 1] 2, .tab,uc fb] (Ls (wr (cQ (bx v) N false (bx v)))):=by
 refine Ct.of_run (args:=[x, .slice (some ⟨sb,0,none⟩) 1 1]) Tryz.func45 aF Z Tryz.ntmps45 Z (fun c=>?_)
 refine xB 0 Z (fun A1 c1 A2 c2 hx hsz1 hk1 hk2 hi1 hi2=>?_)
 subst hx
 refine rO 3 Z (yN Z Z Z (fun b2=>?_))
 refine zA (zT Fo Z (fun b4=>?_))
 change bu _ _ _ _ _ _ _ _ (HA.blk _ [_,_,_,_,_,_] _::_) _
 refine oO 4 Z (zL 1 Z cB Z Z ?_)
 refine zA ?_
 refine rA (M1:=[]) Z Z Z (KW (uc fb) false v _ (.inl (K9 fb)) hp hs) Z aR (fun u9 M9 D9 hv9=>?_)
 obtain⟨b9,G9,mb9,es9,ck9,rfl,rfl,rfl,hU9,hO9,hN9⟩:=hv9
 have hOw:=hN9.2
 obtain⟨idv,hid,_⟩:=xf hroot
 have hie:eF (bx v)=idv.text:=by rw [ru hs hp];unfold eF;rw [hid];rfl
 obtain rfl:=hN9.1 idv hid (zo hroot)
 rw [←hie]
 refine oO 9 Z (tT fy Z Z ?_)
 refine oO 9 Z (zX DI Z Z ?_)
 refine oK 4 [15,14,13,5,4] Z Z ?_
 refine yR 1 (fun(⟨i,G⟩:Nat×Gr)=>i≤1∧(i=0→Unf G v b9∧Own G [b9])∧(i=1→Unf G (cQ (bx v) N false (bx v)) b9)) (fun(⟨i,G⟩:Nat×Gr)=>[(15, .int .i64 ((i:Nat):Int))]) (fun(⟨i,G⟩:Nat×Gr)=> .many 124 (Gr.blks G)::HA.obj mb9 (.map #[{key:= .string (eF (bx v)),val:=cD b9,born:=0}] ck9)::HA.blk b4 [.int .i64 0, .int .i64 0, .int .i64 0, .string ⟨#[]⟩, .slice none 0 0, .slice none 0 0] 34::HA.blk b2 [.int .i64 v.kind, .int .i64 v.num, .string v.text, .slice A1 v.keys.length c1, .slice A2 v.items.length c2] 25::[]) (fun(⟨i,G⟩:Nat×Gr)=> .graph mb9 G:: .strs (.slice A1 v.keys.length c1) v.keys:: .vals (.slice A2 v.items.length c2) v.items:: .val (.agg #[.int .i64 v.kind, .int .i64 v.num, .string v.text, .slice A1 v.keys.length c1, .slice A2 v.items.length c2]) v:: .dblk sb [.int .i64 1] 2:: .tab::uc fb::[]) (fun(⟨i,G⟩:Nat×Gr)=>1 - i) (0,G9) (⟨Nat.zero_le _,fun _=>⟨hU9,hOw⟩,fun e=>by cases e⟩) (eC Z (eN _)) Z Z ?_ (eC Z (eC Z (eC Z (eC Z (eN _)))))
 intro ⟨i,G⟩ hI K hK
 change Run _ _ _ _ _ [(15,_),(14,_),(13,_),(5,_),(4,_)] [_,_,_,_] [_,_,_,_,_,_,_]
 obtain⟨hi,hI0,hI1⟩:=hI
 refine rO 3 Z (yK Z Z Z ?_)
 refine oR 2 Z (zK Z (fun h16=>?_) (fun h16=>?_))
 ·obtain rfl:i=0:=by omega
  refine rO 6 Z (wF DI Z Z Z aE ?_)
  refine zA (zH 4 eJ Z Z Z Z ?_)
  refine oO 21 Z (rA (M1:=[_,_]) Z Z Z (LO mb9 ck9 b9 N G v hp hs hroot hnr (hI0 Z).1 (hI0 Z).2 hN ht hnd) Z (cC 0 Z) (fun u23 M23 D23 hv23=>?_))
  obtain⟨rfl,G23,hU23,rfl,rfl⟩:=hv23
  refine oK 1 [15,14,13,5,4] Z Z (rO 4 Z ?_)
  refine yD Z Z aC (oR 3 Z ?_)
  exact kQ (hK (0+1,G23) (⟨aC,(fun e=>absurd e aE),fun _=>hU23⟩) (by show 1 - (0+1)<1 - 0;omega)) (eC Z (eC Z (eC Z (eC Z (eC Z (eN _)))))) (hD:=(cR 0 Z sQ))
 obtain rfl:i=1:=by omega
 have hU:=hI1 rfl
 refine rS 5 Z (ue 0 0 Z Z Z ?_)
 refine zA ?_
 refine zW Z Z Z (M3 fb mb9 _ (cQ (bx v) N false (bx v)) b9 hU hpc hsc) aR (fun u34 D34 hv34=>?_)
 obtain⟨A34,m34,B34,d34,rfl,rfl⟩:=hv34
 refine zA (zF 1 (M':=[_,HA.blk _ [_,_,_,_,_,_] _,_]) Z Z Z Z Fm Z Z Z ?_)
 refine zY ?_
 refine yW (M':=[HA.blk b4 [_,_,_,_,_,_] 34]) (by repeat (first|exact zO _|refine zB 0 Z ?_|refine zB 1 Z ?_|refine zB 2 Z ?_|refine zB 3 Z ?_|refine zB 4 Z ?_)) ?_
 exact xC 0 Tryz.results45 Z Z Fl ⟨rfl,_,_,_,_,rfl,rfl⟩ nS (cC 0 Z)
theorem u0{g:V→V}(hg: ∀ z,(g z).kind=5){sh:Int}{x:V}(hf:FitLoc sh x):kidsOf sh (cA sh g x)=(kidsOf sh x).map g:=by
  have all:(∀ y∈x.items,y.kind=5)→(cL g x).items.filter (fun y=>decide (y.kind=5))=(x.items.filter (fun y=>decide (y.kind=5))).map g:=fun hi=>by
    have e1:x.items.filter (fun y=>decide (y.kind=5))=x.items:=List.filter_eq_self.2 fun y hy=>decide_eq_true (hi y hy)
    have e2:(cL g x).items=x.items.map g:=by
      show x.items.map (cZ g)=_
      exact List.map_congr_left fun y hy=>xY (hi y hy)
    rw [e1,e2]
    refine List.filter_eq_self.2 fun y hy=>?_
    obtain⟨z,_,rfl⟩:=List.mem_map.1 hy
    exact decide_eq_true (hg z)
  by_cases h5:sh=5
  · subst h5;simp [kidsOf,cA]
  by_cases h6:sh=6
  · subst h6
    by_cases hk:x.kind=5
    · simp [kidsOf,cA,hk,hg]
    · simp [kidsOf,cA,hk]
  by_cases h7:sh=7
  · subst h7
    by_cases hk:x.kind=5
    · simp [kidsOf,cA,hk,hg]
    · have hi: ∀ y∈x.items,y.kind=5:=by simp [FitLoc,hk]at hf;exact hf.2
      have hk':(cL g x).kind≠5:=hk
      have:=all hi
      simp only [kidsOf,cA,if_neg hk,if_neg hk',if_neg h5,if_neg h6,if_pos]
      exact this
  by_cases h9:sh=9∨sh=13
  · have hi: ∀ y∈x.items,y.kind=5:=by rcases h9 with rfl|rfl<;>simp [FitLoc]at hf<;>exact hf.2
    have:=all hi
    simp only [kidsOf,cA,if_neg h5,if_neg h6,if_neg h7,if_pos h9]
    exact this
  · simp [kidsOf,h5,h6,h7,h9]
theorem xi{α:Type}(l:List α)(f g:α→Nat)(h: ∀ a∈l,f a≤g a):(l.map f).sum≤(l.map g).sum:=by
  induction l with
  |nil=>exact Nat.le_refl _
  |cons a l ih=>
    have:=ih fun b hb=>h b (List.mem_cons_of_mem _ hb)
    have h1:=h a List.mem_cons_self
    simp only [List.map_cons,List.sum_cons]
    omega
theorem Cq{α:Type}(l:List α)(p:α→Bool)(f:α→Nat):((l.filter p).map f).sum≤(l.map f).sum:=by
  induction l with
  |nil=>exact Nat.le_refl _
  |cons a l ih=>
    rw [List.filter_cons]
    split
    · simp only [List.map_cons,List.sum_cons];omega
    · simp only [List.map_cons,List.sum_cons];omega
theorem zw(v:V):dc v→cd (wr v)≤cd v:=by
 refine V.indS (p:=fun v=>dc v→cd (wr v)≤cd v) (fun v IH hv=>?_) v
 rw [rU,rU v]
 unfold kidsV
 rw [uu,uu,gO,List.map_map]
 refine Nat.add_le_add_left (Nat.le_trans (xi _ _ (fun p:ByteArray×V=>((kidsOf (bw p.1) p.2).map cd).sum) fun p hp=>?_) (Cq _ _ _)) 1
 have hp:=(List.mem_filter.1 hp).1
 have hg:=(yJ hv.1 hv.2.kind).1 (show(p.1,p.2)∈v.keys.zip v.items from hp)
 show((kidsOf (bw p.1) (cA (bw p.1) wr p.2)).map cd).sum≤_
 rw [u0 rX (vC hv.2 hg).1,List.map_map]
 refine xi _ _ _ fun y hy=>?_
 have hkid:=wI hv.1 hv.2.kind hg hy
 exact IH y (wP hkid) ⟨vD hv.1 hkid,xO hv.1 hv.2 hkid⟩
theorem Cr(v:V):dc v→cu (fun z=> ¬ uo z) v→cu (fun z=> ¬ uo z) (wr v):=by
  refine V.indS (p:=fun v=>dc v→cu (fun z=> ¬ uo z) v→cu (fun z=> ¬ uo z) (wr v)) (fun v IH hv hd=>?_) v
  obtain⟨h1,h2⟩:=(vN _ _).1 hd
  refine(vN _ _).2 ⟨fun h=>h1 (h.imp (fun e=>?_) fun e=>?_),fun z hz=>?_⟩
  · rw [gV hv.2 hv.1,if_pos aD]at e
    cases hg:getV v kId with
    |none=>rw [hg]at e;cases e
    |some x=>rfl
  · rw [gV hv.2 hv.1,if_pos aD]at e
    cases hg:getV v k1 with
    |none=>rw [hg]at e;cases e
    |some x=>rfl
  · obtain⟨y,hy,rfl⟩:=ov hv hz
    exact IH y (wP hy) ⟨vD hv.1 hy,xO hv.1 hv.2 hy⟩ (h2 y hy)
theorem Ei{v:V}(hv:dc v)(h:IsRootV v):IsRootV (wr v):=by
 have hid:=(Cc hv ⟨#[]⟩).1
 unfold IsRootV
 rw [hid]
 refine⟨h.1,h.2.1,h.2.2.1,fun z hz=>?_⟩
 obtain⟨y,hy,rfl⟩:=ov hv hz
 exact Cr y ⟨vD hv.1 hy,xO hv.1 hv.2 hy⟩ (h.2.2.2 y hy)
theorem u2{w:V}{n m:Nat}(hw:dc w)(hr: ¬ cI w)(hn:co w n false w)(hp:Pl (cQ w n false w))(hm:co (cQ w n false w) m false (cQ w n false w)):cQ (cQ w n false w) m false (cQ w n false w)=cQ w n false w:=by
  cases n with
  |zero=>exact hn.elim
  |succ N=>exact Eb hw hr hn (N+1) w false hw hn hp m hm
theorem Cs{z:V}(hz:dc z)(hroot:IsRootV z)(hnr: ¬ cI z)(hnd:cd z≤2000){m:Nat}(hm:co z m false z)(he:cQ z m false z=z):
  IsRootV (wr z)∧ ¬ cI (bx (wr z))∧co (bx (wr z)) m false (bx (wr z))∧cd (bx (wr z))≤2000∧cQ (bx (wr z)) m false (bx (wr z))=wr z:=by
 rw [Ed hz]
 obtain⟨h1,h2⟩:=HG hz m z false hz hm
 exact⟨Ei hz hroot,fun h=>hnr ((nY hz).1.1 h),h1,Nat.le_trans (zw z hz) hnd,by rw [h2,he]⟩
theorem l18(fb:Addr)(v:V)(x:Value):dP Tryz.prog 18 #[x] [.val x v, .tab,uc fb] (.bool true):=by
 refine Ct.of_run (args:=[x]) Tryz.func18 aF Z Tryz.ntmps18 Z (fun c=>?_)
 refine xB 0 Z (fun A1 c1 A2 c2 hx hsz1 hk1 hk2 hi1 hi2=>?_)
 subst hx
 refine rO 3 Z (yN Z Z Z (fun b1=>?_))
 refine oO 7 Z (zL 0 Z cB Z Z ?_)
 refine zA (zJ Z Z Z (MG _ v) aA ?_)
 refine oR 3 Z (zU Z (fun h10=>?_) (fun h10=>?_))
 ·refine rR 5 Z ?_
  exact zD Tryz.results18 Z ⟨rfl,rfl,rfl⟩ nS (fun _ h=>by cases h)
 refine rO 4 Z (zL 0 Z cB Z Z ?_)
 refine zA ?_
 refine zW Z Z Z (c42 v _) aA (fun u13 D13 hv13=>?_)
 obtain⟨_,z,b13,rfl,⟨A13,m13,B13,d13,rfl,rfl⟩,hz⟩:=hv13
 refine oO 7 Z (zT cl Z (fun b3=>?_))
 change bu _ _ _ _ _ _ _ _ (HA.blk _ [_,_,_,_,_] _::_) _
 refine zA (zF 0 (M':=[HA.blk _ [_,_,_,_,_] _,_]) Z Z Z Z cN Z Z Z ?_)
 refine oK 3 [4,3,1] Z Z (rR 8 Z ?_)
 refine zU Z (fun h17=>?_) (fun h17=>?_)
 ·refine rR 5 Z ?_
  exact zD Tryz.results18 Z ⟨rfl,rfl,rfl⟩ nS (fun _ h=>by cases h)
 obtain⟨hok,hroot,hnr,hnd,hdat,n13,hn13,ht13,rfl⟩:=hz (by simpa using h17)
 have hp:Pl v:=⟨12,hok.1.1⟩
 have hw:dc (bx v):=⟨gw hok.2 hp,iP v hok.2 hp⟩
 obtain⟨hsc,hnn⟩:=EZ hw (CJ hp hok.2) ht13 rfl ⟨12,hdat.1⟩
 have hpw:=qm hsc.2 hsc.1
 have hsw:=rg _ hsc.2 hsc.1
 refine rO 4 Z (zL 0 Z cB Z Z ?_)
 refine zA ?_
 refine zW Z Z Z (c42 (cQ (bx v) n13 false (bx v)) _) aA (fun u20 D20 hv20=>?_)
 obtain⟨_,z20,b20,rfl,⟨A20,m20,B20,d20,rfl,rfl⟩,hz2⟩:=hv20
 refine oO 7 Z (zT cl Z (fun b5=>?_))
 change bu _ _ _ _ _ _ _ _ (HA.blk _ [_,_,_,_,_] _::_) _
 refine zA (zF 0 (M':=[HA.blk _ [_,_,_,_,_] _,_,_]) Z Z Z Z cN Z Z Z ?_)
 refine oK 11 [24,5,3,1] Z Z (zU Z (fun h24=>?_) (fun h24=>?_))
 ·refine rR 5 Z ?_
  exact zD Tryz.results18 Z ⟨rfl,rfl,rfl⟩ nS (fun _ h=>by cases h)
 obtain⟨_,hroot2,hnr2,hnd2,_,n20,hn20,ht20,hz20⟩:=hz2 (by simpa using h24)
 rw [hnn]at hnr2 hnd2 ht20 hz20
 have hfix:=u2 hw hnr ht13 hsc.1 ht20
 rw [hfix]at hz20
 subst hz20
 obtain⟨hroot3,hnr3,ht3,hnd3,he3⟩:=Cs hsc hroot2 hnr2 hnd2 ht20 hfix
 refine rO 4 Z (zL 2 Z cB Z Z ?_)
 refine zA (zM DI Z Z Z Z Z (fun b26=>?_))
 refine fB 0 Z Z (zA ?_)
 refine zW Z Z Z (Jb fb b26 n13 v _ hp hok.2 hroot hnr hn13 ht13 hnd hsc.1 hsc.2) (by intro d hd;simp only [List.mem_cons,List.not_mem_nil,or_false]at hd⊢;rcases hd with rfl|rfl|rfl|rfl<;>simp) (fun u27 D27 hv27=>?_)
 obtain⟨A27,m27,B27,d27,rfl,rfl⟩:=hv27
 refine zA (zT Fo Z (fun b7=>?_))
 change bu _ _ _ _ _ _ _ _ (HA.blk _ [_,_,_,_,_,_] _::_) _
 refine zA (zF 0 (M':=[HA.blk _ [_,_,_,_,_,_] _,_,_,_]) Z Z Z Z Fm Z Z Z ?_)
 refine oR 2 Z (yX yI ?_)
 refine tM 0 Z br (uR 0 Z Fl Z) (tM 1 Z br (uR 2 Z cB Z) ?_)
 refine zN 2 aD ?_
 refine zP (I2:=[[]]) Z br aD (fun Kd hKd=>?_)
 refine zJ Z Z Z (c27 (wr (cQ (bx v) n13 false (bx v))) (cQ (bx v) n13 false (bx v)) hpw.wf hsc.1.wf _ _ _ _ _) aB (hKd _ _ _ (zE (zQ)) ?_)
 refine zS (tP 3 Z br (zZ Z) ?_)
 refine gd (s:=31) Z (tb_t ((wd _).trans (congrArg dj hnn))) (tP 4 Z (cT Z Z) (yA AO Z) ?_)
 refine yH (tM 5 Z (cT Z Z) (o2 0 Z cB Z Z Z) ?_)
 refine tM 8 Z (cT Z Z) (uR 1 Z cB Z) (zN 6 aD ?_)
 refine zP (I2:=[[8,5],[4],[]]) Z (cT Z Z) aD (fun Kd hKd=>?_)
 refine zM DI Z Z Z Z Z (fun b34=>?_)
 refine fB 0 Z Z (hKd _ _ _ (hC (hC (zE (zQ)))) ?_)
 refine zN 7 aD ?_
 refine zP (I2:=[[8],[],[]]) Z (cT Z Z) aD (fun Kd hKd=>?_)
 refine zW Z Z Z (Jb fb b34 n20 (wr (cQ (bx v) n13 false (bx v))) _ hpw hsw hroot3 hnr3 hn20 ht3 hnd3 (by rw [he3];exact hpw) (by rw [he3];exact hsw)) (by intro d hd;simp only [List.mem_cons,List.not_mem_nil,or_false]at hd⊢;rcases hd with rfl|rfl|rfl|rfl<;>simp) (fun u35 D35 hv35=>?_)
 rw [he3,JD]at hv35
 obtain⟨A35,m35,B35,d35,rfl,rfl⟩:=hv35
 refine hKd _ _ _ (hC (zE (zE (zQ)))) (zN 9 aD ?_)
 refine zP (I2:=[[],[],[]]) Z (cT Z Z) aD (fun Kd hKd=>?_)
 refine zJ Z Z Z (c27 (wr (cQ (bx v) n13 false (bx v))) (cQ (bx v) n13 false (bx v)) hpw.wf hsc.1.wf _ _ _ _ _) aB (hKd _ _ _ (zE (zE (zE (zQ)))) ?_)
 refine zS (tP 10 Z br (rB Z Z) ?_)
 refine tP 11 Z br (zZ Z) (gd (s:=39) Z (tb_t ((wd _).trans (congrArg dj hnn))) ?_)
 refine yH (tM 12 Z (cT Z Z) (uR 1 Z cB Z) ?_)
 refine tM 13 Z (cT Z Z) (uR 2 Z cB Z) (zN 14 aD ?_)
 refine zP (I2:=[[],[],[],[],[]]) Z (cT Z Z) aD (fun Kd hKd=>?_)
 refine zJ Z Z Z (c25 (cQ (bx v) n13 false (bx v)) (cQ (bx v) n13 false (bx v)) _ _) aB (hKd _ _ _ (zE (zE (zE (zE (zE (zQ)))))) ?_)
 refine zS (tP 15 Z br (rB Z Z) ?_)
 refine tP 16 Z br (yZ Z) (yG aD ?_)
 refine rK 0 [2] Z Z ?_
 exact zD Tryz.results18 Z ⟨congrArg Value.bool (tb_t Z),rfl,rfl⟩ nS (fun _ h=>by cases h)
end Go.Jw

namespace Go.Jw
open Go Go.RowKit Go.Proofs Go.ChangeShapes Go.WideShapes Go.Proofs.YtlcfillobkdnmaaGreatDoor
set_option maxRecDepth 8000
theorem iT{w:World}{a:Addr}{v:Value}(h:w.cell? a=some v):a.block<w.heap.size:=by
 rcases Nat.lt_or_ge a.block w.heap.size with hlt|hge
 ·exact hlt
 ·unfold World.cell? at h
  rw [Array.getElem?_eq_none hge]at h
  simp at h
theorem Ly:Tryz.prog.cellsOf 9=1:=by kernel_rfl
theorem Jc:Tryz.prog.cellsOf 25=5:=by kernel_rfl
theorem Lz:Tryz.prog.cellsOf 2=1:=by kernel_rfl
theorem LP:Tryz.prog.cellsOf 22=1:=by kernel_rfl
theorem LQ:Tryz.prog.cellsOf 23=1:=by kernel_rfl
section
variable {H:Type} {enc:TypeId×Value→H} {W:World} {held:Bool}
theorem ow{n:Nat}{kv:Value}{x:DataW H×List MemPlace}(h:DataW.trod enc Tryz.prog W 0 (fun _=>true) held n 22 [kv]=some x): ∃ks,StrsP W (· <W.heap.size) kv ks:=by
 rcases open_strings Tryz.underlying22 Tryz.underlying9 Ly h with ⟨h1,_⟩|⟨a,len,cap,ss,h1,_,hl,hc,hs,_,hg,hsz⟩
 ·injection h1 with h1
  exact⟨[],none,0,h1,Nat.le_refl _,Nat.zero_le _,(fun s hs=>by cases hs),fun i s hi=>by simp at hi⟩
 ·injection h1 with h1
  simp only [if_true]at hs
  have hlen:(ss.take len).length=len:=by rw [List.length_take];omega
  refine⟨ss.take len,some a,cap,by rw [hlen];exact h1,aC,hc,fun s hm=>hsz s (List.mem_of_mem_take hm),fun i s hi=>?_⟩
  have hil:i<len:=by
   have:=(List.getElem?_eq_some_iff.1 hi).1
   omega
  have hi':ss[i]? =some s:=by rw [←hi,List.getElem?_take];simp [hil]
  have hcell:=hg i aC
  have hd:ss.getD i ByteArray.empty=s:=by rw [List.getD_eq_getElem?_getD,hi'];rfl
  rw [hd]at hcell
  exact⟨a,rfl,by have:=iT hcell;rwa [tQ]at this,by rw [Nat.mul_one];exact hcell⟩
theorem r5: ∀ (l:List V) (l':List (DataW H)),l.length=l'.length→(∀ (i:Nat) t d,l[i]? =some t→l'[i]? =some d→2*l5 t≤Rows.uptoBulk d)→2*(l.map l5).sum≤Rows.uptoBulkAll l'
  |[],_,_,_=>Nat.zero_le _
  |t::l,[],h,_=>by simp at h
  |t::l,d::l',h,hi=>by
    have h1:=hi 0 t d rfl rfl
    have h2:=r5 l l' bm (fun i t d a b=>hi (i+1) t d (by simpa using a) (by simpa using b))
    simp only [List.map_cons,List.sum_cons,Rows.uptoBulkAll]
    omega
theorem r6(n:Nat): ∀ (cs:List Value) (x:DataW H×List MemPlace),DataW.trod enc Tryz.prog W 0 (fun _=>true) held n 25 cs=some x→ ∃t,ValP W (· <W.heap.size) t (.agg cs.toArray)∧2*l5 t≤Rows.uptoBulk x.1:=by
  induction n using Nat.strongRecOn with
  |_ n IH=>
    intro cs x h
    obtain⟨xs,m,hm,rfl,hl,hlen,hf⟩:=DataW.trod_struct Tryz.underlying25 h
    rw [Jc]at hl
    match cs,hl with
    |[c0,c1,c2,c3,c4],_=>
    match xs,hlen with
    |[y0,y1,y2,y3,y4],_=>
    have h0:DataW.trod enc Tryz.prog W 0 (fun _=>true) held m 2 [c0]=some y0:=by simpa [Lz]using hf 0 _ rfl
    have h1:DataW.trod enc Tryz.prog W 0 (fun _=>true) held m 2 [c1]=some y1:=by simpa [Lz]using hf 1 _ rfl
    have h2:DataW.trod enc Tryz.prog W 0 (fun _=>true) held m 9 [c2]=some y2:=by simpa [Ly]using hf 2 _ rfl
    have h3:DataW.trod enc Tryz.prog W 0 (fun _=>true) held m 22 [c3]=some y3:=by simpa [LP]using hf 3 _ rfl
    have h4:DataW.trod enc Tryz.prog W 0 (fun _=>true) held m 23 [c4]=some y4:=by simpa [LQ]using hf 4 _ rfl
    obtain⟨k,e0,g0⟩:=DataW.trod_int Tryz.underlying2 h0
    obtain⟨q,e1,_⟩:=DataW.trod_int Tryz.underlying2 h1
    obtain⟨s,e2,_,hs⟩:=DataW.trod_string Tryz.underlying9 h2
    obtain⟨ks,hks⟩:=ow h3
    injection e0 with e0;injection e1 with e1;injection e2 with e2
    subst e0;subst e1;subst e2
    have hy0:Rows.uptoBulk y0.1=1:=by rw [g0.1];simp [Rows.uptoBulk]
    have hbulk:Rows.uptoBulk y4.1+2≤Rows.uptoBulk (DataW.agg [y0.1,y1.1,y2.1,y3.1,y4.1]):=by
      simp only [Rows.uptoBulk,Rows.uptoBulkAll]
      omega
    show∃t,_∧2*l5 t≤Rows.uptoBulk (DataW.agg [y0.1,y1.1,y2.1,y3.1,y4.1])
    rcases DataW.trod_slice Tryz.underlying23 h4 with ⟨h5,_⟩|⟨a,len,cap,elems,rest,m',hm',h5,h6,hb,hle,hc,hln,hel,hsp,_⟩
    · injection h5 with h5
      refine⟨.mk k q s ks [],?_,?_⟩
      · simp only [ValP]
        exact⟨_,_,rfl,hs,hks,none,0,h5,Nat.le_refl _,Nat.zero_le _,by simp [ItemsP]⟩
      · rw [ql];simp only [Ki,List.map_nil,List.sum_nil];omega
    · injection h5 with h5
      have hall: ∀ i,∃t,i<len→ ∃csi,∃y,elems[i]? =some y∧W.cells? 0 (a.add (i*5)) 5=some csi∧ValP W (· <W.heap.size) t (.agg csi.toArray)∧2*l5 t≤Rows.uptoBulk y.1:=by
        intro i
        by_cases hi:i<len
        · have he:=hel i hi
          rw [Jc,List.getElem?_eq_getElem aC]at he
          obtain⟨csi,hcs,htr⟩:=Option.bind_eq_some_iff.1 he
          obtain⟨t,ht,hnt⟩:=IH m' aC csi _ htr
          exact⟨t,fun _=>⟨csi,_,List.getElem?_eq_getElem aC,hcs,ht,hnt⟩⟩
        · exact⟨Bd,fun h=>absurd h hi⟩
      obtain⟨f,hfa⟩:=Classical.axiomOfChoice hall
      have hget: ∀ j t,((List.range len).map f)[j]? =some t→j<len∧t=f j:=by
        intro j t hj
        rw [List.getElem?_map]at hj
        obtain⟨z,hz,rfl⟩:=Option.map_eq_some_iff.1 hj
        obtain⟨h1,h2⟩:=List.getElem?_eq_some_iff.1 hz
        rw [List.getElem_range]at h2
        rw [List.length_range]at h1
        exact⟨h1,by rw [h2]⟩
      refine⟨.mk k q s ks ((List.range len).map f),?_,?_⟩
      · simp only [ValP]
        refine⟨_,_,rfl,hs,hks,some a,cap,by rw [List.length_map,List.length_range];exact h5,by rw [List.length_map,List.length_range];exact hle,hc,ItemsP.of_get fun j t hj=>?_⟩
        obtain⟨hjl,rfl⟩:=hget j t hj
        obtain⟨csi,y,_,hcs,hv,_⟩:=hfa j hjl
        obtain⟨_,hcl,hcc⟩:=World.cells?_some hcs
        have hadd: ∀ q,(a.add (j*5)).add q=a.add ((0+j)*5+q):=fun q=>by rw [Nat.zero_add];exact add_add' a _ _
        refine⟨a, .agg csi.toArray,rfl,?_,fun q u hq=>?_,hv⟩
        · have:=hcc 0 aC
          rw [List.getElem?_eq_getElem aC]at this
          have:=iT this
          rwa [tQ,tQ]at this
        · have hq':csi[q]? =some u:=by simpa [Value.cells]using hq
          have hql:=(List.getElem?_eq_some_iff.1 hq').1
          rw [←hadd,hcc q aC]
          exact hq'
      · have hsum:=r5 ((List.range len).map f) (elems.map (·.1)) bp (fun i t d ht hd=>by
          obtain⟨hil,rfl⟩:=hget i t ht
          obtain⟨csi,y,hy,_,_,hn⟩:=hfa i hil
          rw [List.getElem?_map,hy]at hd
          injection hd with hd
          rw [←hd];exact hn)
        rw [ql]
        simp only [Ki]
        have:Rows.uptoBulkAll (elems.map (·.1))≤Rows.uptoBulk y4.1:=by
          rw [h6]
          simp only [Rows.uptoBulk]
          omega
        omega
end
theorem fg{P:Program}{w:World}{n:String}{d:DataW Unit}: ∀ {l:List (String×DataW Unit)} {ps:List MemPlace},DataW.LaidVars P w l ps→(n,d)∈l→
    ∃g t cs fuel p,P.globalNamed n=some g∧(P.globals[g]?).map (·.type)=some t∧w.var? P n=some cs∧DataW.trod (fun _=>()) P w 0 (fun _=>true) false fuel t cs.toList=some (d,p)
  |[],_,_,h=>by cases h
  |(n',d')::l,ps,⟨g,t,cs,fuel,p,q,h1,h2,h3,h4,h5,_⟩,h=>by
    rcases List.mem_cons.1 h with h|h
    · injection h with h h'
      subst h;subst h'
      exact⟨g,t,cs,fuel,p,h1,h2,h3,h4⟩
    · exact fg h5 h
theorem gU:Tryz.prog.globalNamed "internal/strconv.uint64pow10" =some 0:=by kernel_rfl
theorem gUt:(Tryz.prog.globals[0]?).map (·.type)=some 270:=by kernel_rfl
theorem FZ:Tryz.prog.cellsOf 235=1:=by kernel_rfl
theorem Fa:Tryz.prog.cellsOf 270=20:=by kernel_rfl
theorem Cu{W:World}{l:List (String×DataW Unit)}(h:laidMet Tryz.prog l W)(hm:("internal/strconv.uint64pow10",Rows.laid_internal_strconv_uint64pow10)∈l):DA.tab.p W (· <W.heap.size):=by
  obtain⟨ps,hv,_⟩:=h
  obtain⟨g,t,cs,fuel,p,h1,h2,h3,h4⟩:=fg hv hm
  obtain rfl:=Option.some.inj (gU.symm.trans h1)
  obtain rfl:=Option.some.inj (gUt.symm.trans h2)
  have hc:=Lib.cells_of_tab (zs:=Lib.pow10Tab) Tryz.underlying270 Tryz.underlying235 FZ Fa h4
  unfold World.var? at h3
  rw [h1]at h3
  simp only [Option.bind_some]at h3
  cases hh:W.heap[0]? with
  |none=>rw [hh]at h3;cases h3
  |some o=>
    rw [hh]at h3
    cases o with
    |cells c T fz=>
      simp at h3
      subst h3
      refine⟨0,T,fz,gU,(Array.getElem?_eq_some_iff.1 hh).1,?_⟩
      rw [hh,←hc]
    |_=>simp at h3
def DA.any:DA:=⟨fun _ _=>True,fun _ _ _=>trivial⟩
theorem Cv{f:FuncId}{args:Array Value}{D:List DA}{v:Value}{W:World}(h:dP Tryz.prog f args D v)(hD: ∀ d∈D,d.p W (· <W.heap.size)):Calls Tryz.prog f args W fun e W'=>e= .returned v∧Below W.heap.size W W':=
 (h.2 W (· <W.heap.size) (fun k hk=>⟨hk,by simp [foots]⟩) aJ (by simp [foots]) hD).mono fun e W' ⟨u,M',D',he,⟨hu,hM,hd⟩,hc,_⟩=>⟨by rw [he,hu],hc.below⟩
theorem Ej:laidOutB Tryz.prog=true:=by kernel_rfl
end Go.Jw

