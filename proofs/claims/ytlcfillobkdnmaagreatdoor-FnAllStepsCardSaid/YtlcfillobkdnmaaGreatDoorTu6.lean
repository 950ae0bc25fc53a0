/- Part 6 of the proof's texts, made small by a program. -/
import Derived.Test.YtlcfillobkdnmaaGreatDoorTu5
set_option linter.unusedVariables false
set_option linter.unusedSimpArgs false
set_option maxHeartbeats 4000000
namespace Go.Jw
open Go Go.RowKit Go.Proofs
set_option maxRecDepth 8000
def ik(v:V)(i:Nat):List V:=((v.keys.zip v.items).take i).flatMap (fun p=>kidsOf (cM p.1) p.2)
theorem l7{v:V}{i:Nat}(h1:i<v.keys.length)(h2:i<v.items.length):ik v (i+1)=ik v i++kidsOf (cM v.keys[i]) v.items[i]:=by
 unfold ik
 rw [List.take_add_one,(by rw [List.getElem?_zip_eq_some];exact⟨List.getElem?_eq_getElem h1,List.getElem?_eq_getElem h2⟩:(v.keys.zip v.items)[i]? =some (v.keys[i],v.items[i])),List.flatMap_append]
 simp
theorem oD{v:V}{i:Nat}(h:v.keys.length≤i):ik v i=kidsV v:=by
 unfold ik kidsV
 rw [List.take_of_length_le bT]
theorem yq(sh:Int)(x:V):(kidsOf sh x).length≤x.items.length+1:=by
 have:=List.length_filter_le (fun x:V=>decide (x.kind=5)) x.items
 unfold kidsOf
 (repeat' split)<;>simp<;>omega
theorem oE{v:V}(hp:Pl v)(i:Nat)(h1:i≤v.keys.length)(h2:v.keys.length≤v.items.length):(ik v i).length≤61*i:=by
  induction i with
  |zero=>simp [ik]
  |succ i ih=>
    rw [l7 aC aC,List.length_append]
    have:=ih aC
    have h3:=yq (cM (v.keys[i]'aC)) (v.items[i]'aC)
    have h4:=(hp.item _ (List.getElem_mem (by omega:i<v.items.length))).len
    omega
theorem uK{z:V}{key:ByteArray}(h:z.keys.length≤z.items.length):(0≤dh z.keys key)↔(getV z key).isSome=true:=by
 rcases eo z.keys key with h1|⟨i,h1,h2⟩
 ·rw [mN aC,h1];simp
 ·rw [gY h1 aC,h1];simp
theorem En{p:V→Prop}{v:V}(h:p v): ¬ cn (fun z=> ¬ p z) v:=fun hd=>((wG _ _).1 hd).1 h
theorem Eo{p:V→Prop}{v z:V}(hz:z∈kidsV v)(h: ¬ cn (fun z=> ¬ p z) z): ¬ cn (fun z=> ¬ p z) v:=fun hd=>h (((wG _ _).1 hd).2 z hz)
theorem oF(v:V)(key:ByteArray):withoutV v key=dD 5 0 ⟨#[]⟩ (fun k=> !decide (k=key)) (fun _ x=>x) v:=rfl
theorem sf(g:V→V)(v:V):belowV g v=dD 5 0 ⟨#[]⟩ (fun _=>true) (fun k x=>cQ (cM k) g x) v:=by
 unfold belowV dD l4
 rw [List.filter_eq_self.2 (fun _ _=>rfl),List.map_map,List.map_map]
 rfl

theorem Oo(v:V)(x:Value)(hp:Pl v):CtR Tryz.prog 69 #[x] [.val x v] (fun u D'=> ∃A c,u= .slice A (kidsV v).length c∧D'=[.vals u (kidsV v)]):=by
 refine Ct.of_run (args:=[x]) Tryz.func69 aF Z Tryz.ntmps69 Z (fun c=>?_)
 refine yP 0 Z (fun A1 c1 A2 c2 hx hsz hk1 hk2 hi1 hi2=>?_)
 subst hx
 unfold maxLen at hi2 hk2
 have hw:=hp.wf
 have hkl:=hw.kl
 have hil:=hw.il
 have hlen:=hw.le
 have h60:=hp.len
 refine rO 3 Z (yK Z Z Z (fun b1=>?_))
 refine oO 6 Z (uT cg Z (fun b6=>?_))
 refine zA (zS Mo Z (fun b3=>?_))
 change cL _ _ _ _ _ _ _ _ (HA.blk _ [_] _::_) _
 refine zA (zF 0 (M':=[HA.blk _ [_] _,_,_]) Z Z Z Z ei Z Z Z ?_)
 refine oO 5 Z (zC xI Z Z ?_)
 refine zA (zG 2 dN Z Z Z Z ?_)
 refine zA (yA cX Z Z ?_)
 refine oK 4 [10,9,8,3,1] Z Z (tL ?_)
 refine yL 1 (fun(⟨i,A,ca,xs,out⟩:Nat×Option Addr×Nat×List Value×List V)=>i≤v.keys.length∧out=ik v i) (fun(⟨i,A,ca,xs,out⟩:Nat×Option Addr×Nat×List Value×List V)=>[(10, .int .i64 ((i:Nat):Int))]) (fun(⟨i,A,ca,xs,out⟩:Nat×Option Addr×Nat×List Value×List V)=>HA.blk b3 [.slice A out.length ca] 23::HA.row A out.length ca 25 5 xs::HA.blk b1 [.int .i64 v.kind, .int .i64 v.num, .string v.text, .slice A1 v.keys.length c1, .slice A2 v.items.length c2] 25::[]) (fun(⟨i,A,ca,xs,out⟩:Nat×Option Addr×Nat×List Value×List V)=> .its xs out:: .strs (.slice A1 v.keys.length c1) v.keys:: .vals (.slice A2 v.items.length c2) v.items:: .val (.agg #[.int .i64 v.kind, .int .i64 v.num, .string v.text, .slice A1 v.keys.length c1, .slice A2 v.items.length c2]) v::[]) (fun(⟨i,A,ca,xs,out⟩:Nat×Option Addr×Nat×List Value×List V)=>v.keys.length - i) (0,some ⟨b6,0,none⟩,0,[],[]) (⟨Nat.zero_le _,rfl⟩) (eC Z (eN _)) Z Z ?_ (eC Z (eC Z (eC Z (eC Z (eN _)))))
 intro ⟨i,A,ca,xs,out⟩ hI K hK
 change Run _ _ _ _ _ [(10,_),(9,_),(8,_),(3,_),(1,_)] [_,_,_] [_,_,_,_]
 obtain⟨hi,ho⟩:=hI
 have hol:out.length≤61*i:=by rw [ho];exact oE hp i hi hlen
 refine rO 3 Z (yJ Z Z Z ?_)
 refine oR 2 Z (zN Z (fun h11=>?_) (fun h11=>?_))
 ·refine rO 8 Z (xP 1 cX Z Z Z Z h11 ?_)
  have hlt:i<v.items.length:=by omega
  refine zA (yH dK Z Z (fun _ h=>xF h (j:=1) Z (List.getElem?_eq_getElem h11)) ?_)
  refine oO 9 Z (zC yV Z Z ?_)
  refine zA (zG 2 dJ Z Z Z Z ?_)
  refine oO 3 Z (wK 2 cg Z Z Z Z hlt ?_)
  refine zA (wA 2 cP Z Z Z (List.getElem?_eq_getElem hlt) (fun A20 c20 B20 d20=>?_))
  refine zA (rH Z Z Z ?_)
  refine zA ?_
  have hpi:=hp.item _ (List.getElem_mem hlt)
  have hli:=hpi.len
  refine vT (M1:=[_,_]) Z Z Z (Gj Pr (v.keys[i]'h11) (v.items[i]'hlt) _ 112 #[] #[cW b3] hpi.wf.kl hpi.wf.il (fun own _=>N4 b3 own) (A,ca,xs,out) (by show out.length+_≤1000000;omega)) Z (dC 0 1 Z Z) (fun u22 M22 D22 hv22=>?_)
  obtain⟨⟨A22,ca22,xs22,out22⟩,v22,D22,hT,rfl,⟨A23,c23,B23,d23,rfl,rfl⟩,rfl⟩:=hv22
  have hout:out22=out++kidsOf (cM v.keys[i]) v.items[i]:=Lq hT
  refine oK 1 [10,9,8,3,1] Z Z (rO 3 Z ?_)
  refine yB Z Z aC (oR 3 Z ?_)
  exact kQ (hK (i+1,A22,ca22,xs22,out22) (⟨by show i+1≤_;omega,by rw [hout,ho,l7 h11 hlt]⟩) aq) (eC Z (eC Z (eC Z (eC Z (eC Z (eN _)))))) (hD:=(by intro d hd;refine(List.mem_cons.1 hd).elim (fun e=>e▸ac) (fun hd=>?_);repeat (first|exact hd|apply List.mem_cons_of_mem)))
 obtain rfl:i=v.keys.length:=by omega
 have hov:out=kidsV v:=by rw [ho];exact oD (Nat.le_refl _)
 refine rO 4 Z (zG 0 dJ Z Z Z Z ?_)
 refine oR 3 Z (uM 1 0 out Z Z aG Z ?_)
 subst hov
 exact zE Tryz.results69 Z ⟨rfl,A,ca,rfl,rfl⟩ nS (cS 0 Z)
theorem Mi(f:FuncId)(p:V→Prop)(hf: ∀ z,Pl z→ ∀ y,dd Tryz.prog f #[y] [.val y z] (.bool (tb (p z))))(v:V):Pl v→ ∀ x,dd Tryz.prog 70 #[x, .func (.func f) #[] #[]] [.val x v] (.bool (tb (¬ cn (fun z=> ¬ p z) v))):=by
 refine V.indS (p:=fun v=>Pl v→ ∀ x,dd Tryz.prog 70 #[x, .func (.func f) #[] #[]] [.val x v] (.bool (tb (¬ cn (fun z=> ¬ p z) v)))) ?_ v
 intro v IH hp x
 refine Ct.of_run (args:=[x, .func (.func f) #[] #[]]) Tryz.func70 aF Z Tryz.ntmps70 Z (fun c=>?_)
 refine yP 0 Z (fun A1 c1 A2 c2 hx hsz hk1 hk2 hi1 hi2=>?_)
 subst hx
 unfold maxLen at hi2 hk2
 refine rO 3 Z (yK Z Z Z (fun b2=>?_))
 refine oO 9 Z (zJ 0 Z cP Z Z ?_)
 refine zA (zK Z Z Z (hf v hp _) (cS 2 Z) ?_)
 refine zX (zW Z (fun h9=>?_) (fun h9=>?_))
 ·refine rR 5 Z ?_
  exact zE Tryz.results70 Z ⟨congrArg Value.bool (tb_t (En (yT.1 h9))).symm,rfl,rfl⟩ nS (fun _ h=>by cases h)
 refine rO 5 Z (zJ 0 Z cP Z Z ?_)
 refine zA (zT Z Z Z (Oo v _ hp) (cS 2 Z) (fun u11 D11 hv11=>?_))
 obtain⟨A11,c11,rfl,rfl⟩:=hv11
 refine zA (yA cg Z Z ?_)
 refine oK 4 [13,12,11,1] Z Z ?_
 refine vY (p:=(kidsV v).length≤9223372036854775807) (fun w ok h=>by obtain⟨A,c,hv,h1,h2,_⟩:ValsP w ok (.slice A11 (kidsV v).length c11) (kidsV v):=dget h 0 rfl;unfold maxLen at h2;omega) (fun hkm=>?_)
 refine xJ 1 (fun(i:Nat)=>i≤(kidsV v).length∧ ∀ j z,(kidsV v)[j]? =some z→j<i→cn (fun z=> ¬ p z) z) (fun(i:Nat)=>[(13, .int .i64 ((i:Nat):Int))]) (fun(i:Nat)=>(kidsV v).length - i) 0 (⟨Nat.zero_le _,fun _ _ _ h=>absurd h aC⟩) (eC Z (eN _)) ?_ (eC Z (eC Z (eC Z (eN _))))
 intro i hI K hK
 change Run _ _ _ _ _ [(13,_),(12,_),(11,_),(1,_)] _ _
 obtain⟨hi,hno⟩:=hI
 refine rO 3 Z (yJ Z Z Z ?_)
 refine oR 2 Z (zN Z (fun h14=>?_) (fun h14=>?_))
 ·refine rO 6 Z ?_
  have hzm:=List.getElem_mem h14
  refine wK 0 cg Z Z Z Z h14 (zA ?_)
  refine wA 0 cP Z Z Z (List.getElem?_eq_getElem h14) (fun A16 c16 B16 d16=>?_)
  refine zA (zS cx Z (fun b6=>?_))
  change cL _ _ _ _ _ _ _ _ (HA.blk _ [_,_,_,_,_] _::_) _
  refine zA (zF 0 (M':=[HA.blk _ [_,_,_,_,_] _,_]) Z Z Z Z cY Z Z Z ?_)
  refine oO 4 Z (zJ 0 Z cP Z Z ?_)
  refine oO 3 Z (zK Z Z Z (IH _ (wL hzm) (vP hp hzm) _) (cS 0 Z) ?_)
  refine zX (zW Z (fun h19=>?_) (fun h19=>?_))
  ·refine rK 5 [4] Z Z ?_
   exact zE Tryz.results70 Z ⟨congrArg Value.bool (tb_t (Eo hzm (yT.1 h19))).symm,rfl,rfl⟩ nS (fun _ h=>by cases h)
  refine rO 4 Z (yB Z Z aC ?_)
  refine oR 3 Z ?_
  exact kQ (hK (i+1) (⟨aC,tf hno h14 (Classical.not_not.1 (wM.1 h19))⟩) aC)
 refine rR 6 Z ?_
 exact zE Tryz.results70 Z ⟨congrArg Value.bool (tb_f (fun hn=>hn ((wG _ _).2 ⟨wM.1 h9,zr aC hno⟩))).symm,rfl,rfl⟩ nS (fun _ h=>by cases h)
theorem Ps(z:V)(hp:Pl z)(y:Value):dd Tryz.prog 80 #[y] [.val y z] (.bool (tb ((getV z iT).isSome=true∧(getV z eY).isSome=true))):=by
 refine Ct.of_run (args:=[y]) Tryz.func80 aF Z Tryz.ntmps80 Z (fun c=>?_)
 refine yP 0 Z (fun A1 c1 A2 c2 hx hsz hk1 hk2 hi1 hi2=>?_)
 subst hx
 have hle:=hp.wf.le
 refine rO 3 Z (yK Z Z Z (fun b1=>?_))
 refine oO 6 Z (zJ 0 Z cP Z Z ?_)
 refine zA (zK Z Z Z (Aw _ z _) (cS 2 Z) ?_)
 refine zA (tB Z Z Z ?_)
 refine oS 2 Z (yC (s:=6) Z (fun h6=>?_) (fun h6=>?_))
 ·refine zI Z Z (zJ 0 Z cP Z Z ?_)
  refine zI Z Z (zK Z Z Z (Aw _ z _) (cS 2 Z) ?_)
  refine zI Z Z (tB Z Z Z ?_)
  refine oK 5 [2] Z Z ?_
  exact zE Tryz.results80 Z ⟨congrArg Value.bool (lj (by rw [decide_eq_true_iff];rw [←uK hle,←uK hle];exact⟨fun h=>⟨by simpa using h6,h⟩,fun h=>h.2⟩)),rfl,rfl⟩ nS (fun _ h=>by cases h)
 refine oK 8 [2] Z Z ?_
 exact zE Tryz.results80 Z ⟨congrArg Value.bool (tb_f (fun hc=>by rw [←uK hle]at hc;exact absurd hc.1 (by simpa using h6))).symm,rfl,rfl⟩ nS (fun _ h=>by cases h)
theorem Oq(t:V)(key:ByteArray)(x:Value)(hkl:t.keys.length≤1000000)(hil:t.items.length≤1000000)(hlen:t.keys.length≤t.items.length):CtR Tryz.prog 87 #[x, .string key] [.val x t] (RV (withoutV t key)):=by
 refine Ct.of_run (args:=[x, .string key]) Tryz.func87 aF Z Tryz.ntmps87 Z (fun c=>?_)
 refine yP 0 Z (fun A1 c1 A2 c2 hx hs hk1 hk2 hi1 hi2=>?_)
 subst hx
 unfold maxLen at hi2 hk2
 refine uB 0 Z (fun hksz=>?_)
 have hlt0:=hlen
 refine rO 3 Z (yK Z Z Z (fun b2=>?_))
 refine zA (zS cx Z (fun b4=>?_))
 change cL _ _ _ _ _ _ _ _ (HA.blk _ [_,_,_,_,_] _::_) _
 refine oO 4 Z (yX Z Z (iM ..) ?_)
 refine zA (zS cx Z (fun b5=>?_))
 change cL _ _ _ _ _ _ _ _ (HA.blk _ [_,_,_,_,_] _::_) _
 refine zA (zF 0 (M':=[HA.blk _ [_,_,_,_,_] _,_,_]) Z Z Z Z cY Z Z Z ?_)
 refine oO 5 Z (zC xI Z Z ?_)
 refine zA (zG 2 dN Z Z Z Z ?_)
 refine zA (yA cX Z Z ?_)
 refine oK 4 [12,11,10,5,4,2,1] Z Z (xS 25 5 ?_)
 refine xS 9 1 (tL ?_)
 refine yL 1 (fun(⟨i,nk,Ak,ck,xk,A,ca,xs,ts⟩:Nat×Nat×Option Addr×Nat×List Value×Option Addr×Nat×List Value×List V)=>Kept (fun k=> !decide (k=key)) (fun k v=>v) t i nk xk ts) (fun(⟨i,nk,Ak,ck,xk,A,ca,xs,ts⟩:Nat×Nat×Option Addr×Nat×List Value×Option Addr×Nat×List Value×List V)=>[(12, .int .i64 ((i:Nat):Int))]) (fun(⟨i,nk,Ak,ck,xk,A,ca,xs,ts⟩:Nat×Nat×Option Addr×Nat×List Value×Option Addr×Nat×List Value×List V)=>HA.row Ak nk ck 9 1 xk::HA.row A nk ca 25 5 xs::HA.blk b5 [.int .i64 5, .int .i64 0, .string ⟨#[]⟩, .slice Ak nk ck, .slice A nk ca] 25::HA.blk b4 [.int .i64 0, .int .i64 0, .string ⟨#[]⟩, .slice none 0 0, .slice none 0 0] 25::HA.blk b2 [.int .i64 t.kind, .int .i64 t.num, .string t.text, .slice A1 t.keys.length c1, .slice A2 t.items.length c2] 25::[]) (fun(⟨i,nk,Ak,ck,xk,A,ca,xs,ts⟩:Nat×Nat×Option Addr×Nat×List Value×Option Addr×Nat×List Value×List V)=> .its xs ts:: .strs (.slice A1 t.keys.length c1) t.keys:: .vals (.slice A2 t.items.length c2) t.items:: .val (.agg #[.int .i64 t.kind, .int .i64 t.num, .string t.text, .slice A1 t.keys.length c1, .slice A2 t.items.length c2]) t::[]) (fun(⟨i,nk,Ak,ck,xk,A,ca,xs,ts⟩:Nat×Nat×Option Addr×Nat×List Value×Option Addr×Nat×List Value×List V)=>t.keys.length - i) (0,0,none,0,[],none,0,[],[]) (Kept.zero _ _ _) (eC Z (eN _)) Z Z ?_ (eC Z (eC Z (eC Z (eC Z (eC Z (eC Z (eN _)))))))
 intro ⟨i,nk,Ak,ck,xk,A,ca,xs,ts⟩ hI K hK
 replace hI:Kept (fun k=> !decide (k=key)) (fun k v=>v) t i nk xk ts:=hI
 change Run _ _ _ _ _ [(12,_),(11,_),(10,_),(5,_),(4,_),(2,_),(1,_)] [_,_,_,_,_] [_,_,_,_]
 have hkn:=hI.len
 refine rO 3 Z (yJ Z Z Z ?_)
 refine oR 2 Z (zN Z (fun h13=>?_) (fun h13=>?_))
 ·refine rO 8 Z (xP 1 cX Z Z Z Z aC ?_)
  refine zA (yH dK Z Z (fun _ h=>xF h (j:=1) Z (List.getElem?_eq_getElem h13)) ?_)
  refine oO 12 Z (iu Z Z Z ?_)
  refine oK 1 [19,7,6,12,11,10,5,4,2,1] Z Z (zW Z (fun h19=>?_) (fun h19=>?_))
  ·refine rO 3 Z (zC xI Z Z ?_)
   refine zA (zG 2 dN Z Z Z Z ?_)
   refine oO 3 Z (zM cX Z Z Z Z Z (fun b23=>?_))
   refine zA ?_
   refine cf 1 0 cX (fun A24 c24=>?_)
   refine zA (zC xI Z Z ?_)
   refine zA (zF 3 (M':=[_,_,_,HA.blk _ [_,_,_,_,_] _,_,_]) Z Z Z Z fF Z Z Z ?_)
   refine oK 1 [6,12,11,10,5,4,2,1] Z Z (yO yE ?_)
   refine zR (tP 0 Z cK (zY yV Z) ?_)
   refine tP 2 Z cK (zY yV Z) (tP 4 Z cK (zZ Z) ?_)
   refine yF (tM 1 Z cK (yR 3 dJ Z Z Z) ?_)
   refine tM 3 Z cK (yR 5 dJ Z Z Z) (tM 5 Z cK (vH 2 cg Z Z Z aC) ?_)
   have hlt:i<t.items.length:=by omega
   refine uF 2 Z (List.getElem?_eq_getElem hlt) (fun vs32 hl32=>?_)
   refine Cc (p:= ∃A c B d,vs32=[.int .i64 t.items[i].kind, .int .i64 t.items[i].num, .string t.items[i].text, .slice A t.items[i].keys.length c, .slice B t.items[i].items.length d]) (fun w ok h=>by
    obtain⟨A,c,B,d,hy⟩:=nx (dget h 1 rfl)
    injection hy with hy
    exact⟨A,c,B,d,congrArg Array.toList hy⟩) (fun⟨A32,c32,B32,d32,e32⟩=>?_)
   subst e32
   refine yF (tM 6 Z cK (uG 0 hl32 cP Z Z) ?_)
   refine zL 7 aD ?_
   refine zO (I2:=[[],[1],[0],[]]) Z cK aD (fun Kd hKd=>?_)
   refine zM cg Z Z Z Z Z (fun b33=>?_)
   refine hKd _ _ _ (zD (hC (hC (zD (zP))))) (zL 8 aD ?_)
   refine zO (I2:=[[],[],[],[]]) Z cK aD (fun Kd hKd=>?_)
   refine cf 3 0 cg (fun A34 c34=>?_)
   refine hKd _ _ _ (zD (zD (zD (zD (zP))))) (zR ?_)
   refine tP 9 Z cK (zY yV Z) (zL 10 aD ?_)
   refine zO (I2:=[[],[],[],[],[]]) Z cK aD (fun Kd hKd=>?_)
   refine zF 4 (M':=[_,_,_,_,HA.blk _ [_,_,_,_,_] _,_,_]) Z Z Z Z ei Z Z Z (hKd _ _ _ (zD (zD (zD (zD (zD (zP)))))) ?_)
   refine yG aD (rK 0 [12,11,10,5,4,2,1] Z Z ?_)
   refine rO 3 Z (yB Z Z aC ?_)
   refine oR 3 Z (wN 2 1 Z Z Z ?_)
   exact kQ (hK (i+1,_,_,_,_,_,_,_,_) (hI.pos aC aC (by simpa using h19)) ap) (eC Z (eC Z (eC Z (eC Z (eC Z (eC Z (eC Z (eN _)))))))) (hD:=aV)
  refine rO 4 Z (yB Z Z aC ?_)
  refine oR 3 Z ?_
  exact kQ (hK (i+1,_,_,_,_,_,_,_,_) (hI.neg aC aC (by simpa using h19)) ap) (eC Z (eC Z (eC Z (eC Z (eC Z (eC Z (eC Z (eN _)))))))) (hD:=aV)
 refine rO 4 Z (zJ 2 Z cP Z Z ?_)
 refine zA (zF 3 (M':=[_,_,_,HA.blk _ [_,_,_,_,_] _,_]) Z Z Z Z cY Z Z Z ?_)
 refine zX ?_
 obtain⟨hi,hnk,hxk,hts⟩:=hI
 refine wP 0 ((f8 (fun k=> !decide (k=key)) t i).map (·.1)) Z aG bQ (kN hksz) (uM 0 1 ts Z Z aG bC ?_)
 refine wU (q:=5) (m:=0) (s:=⟨#[]⟩) 1 0 Z Z aE ?_
 subst hts
 rw [oF,pK (i:=i) aC]
 exact yZ 1 Tryz.results87 Z Z cP ⟨rfl,_,_,_,_,by simp only [V.kind,V.num,V.text,V.keys,V.items,List.length_map,←hnk];rfl,rfl⟩ nS (cS 0 Z)
def H1(b:UInt8):Prop:=(97≤b.toNat∧b.toNat≤122)∨(65≤b.toNat∧b.toNat≤90)∨(48≤b.toNat∧b.toNat≤57)
def sj(s:ByteArray):Prop:=(∀ j (h:j<s.size),H1 s[j])∧s≠⟨#[]⟩
theorem sk{p:UInt8→Prop}{s:ByteArray}{i:Nat}(h: ∀ j (h:j<s.size),j<i→p s[j])(hi:i<s.size)(h0:p s[i]): ∀ j (h:j<s.size),j<i+1→p s[j]:=fun j hj hlt=>by
  rcases Nat.lt_or_ge j i with h1|h1
  · exact h j hj h1
  · have:j=i:=by omega
    subst this
    exact h0

theorem c113(s:ByteArray)(hs:s.size≤maxLen):dd Tryz.prog 113 #[.string s] [] (.bool (tb (sj s))):=by
 refine Ct.of_run (args:=[.string s]) Tryz.func113 aF Z Tryz.ntmps113 Z (fun c=>?_)
 unfold maxLen at hs
 refine rK 12 [3,0] Z Z ?_
 refine xJ 1 (fun(i:Nat)=>i≤s.size∧ ∀ j (h:j<s.size),j<i→H1 s[j]) (fun(i:Nat)=>[(3, .int .i64 ((i:Nat):Int))]) (fun(i:Nat)=>s.size - i) 0 (⟨aC,fun _ _ h=>absurd h aC⟩) (eC Z (eN _)) ?_ (eC Z (eN _))
 intro i hI K hK
 change Run _ _ _ _ _ [(3,_),(0,_)] _ _
 obtain⟨hi,hno⟩:=hI
 refine rO 8 Z (wC eh Z Z ?_)
 refine zA (yJ Z Z Z ?_)
 refine zX (zN Z (fun h8=>?_) (fun h8=>?_))
 ·refine rO 10 Z (uP eh Z Z Z aC ?_)
  refine oO 8 Z (vE Z Z Z ?_)
  refine oS 2 Z (yC (s:=16) Z (fun h16=>?_) (fun h16=>?_))
  ·refine oO 9 Z (vE Z Z Z ?_)
   refine oS 2 Z (yC (s:=23) Z (fun h23=>?_) (fun h23=>?_))
   ·refine oO 11 Z (vE Z Z Z ?_)
    refine oS 2 Z (yC (s:=31) Z (fun h31=>?_) (fun h31=>?_))
    ·refine oK 7 [35,3,0] Z Z (rR 6 Z ?_)
     exact zE Tryz.results113 Z ⟨yD aM,rfl,rfl⟩ nS (fun _ h=>by cases h)
    refine oO 3 Z (vC Z Z Z ?_)
    refine oK 5 [35,3,0] Z Z (zW Z (fun h35=>?_) (fun h35=>?_))
    ·refine rR 5 Z ?_
     exact zE Tryz.results113 Z ⟨yD aM,rfl,rfl⟩ nS (fun _ h=>by cases h)
    refine rO 6 Z (yB Z Z aC ?_)
    refine oR 3 Z ?_
    exact kQ (hK (i+1) (⟨aC,sk hno (hi:=h8) aU⟩) aC)
   refine oO 3 Z (vC Z Z Z ?_)
   refine oS 6 Z (yC (s:=28) Z (fun h28=>?_) (fun h28=>?_))
   ·refine oO 3 Z (vE Z Z Z ?_)
    refine oS 2 Z (yC (s:=31) Z (fun h31=>?_) (fun h31=>?_))
    ·refine oK 7 [35,3,0] Z Z (rR 6 Z ?_)
     exact zE Tryz.results113 Z ⟨yD aM,rfl,rfl⟩ nS (fun _ h=>by cases h)
    refine oO 3 Z (vC Z Z Z ?_)
    refine oK 5 [35,3,0] Z Z (zW Z (fun h35=>?_) (fun h35=>?_))
    ·refine rR 5 Z ?_
     exact zE Tryz.results113 Z ⟨yD aM,rfl,rfl⟩ nS (fun _ h=>by cases h)
    refine rO 6 Z (yB Z Z aC ?_)
    refine oR 3 Z ?_
    exact kQ (hK (i+1) (⟨aC,sk hno (hi:=h8) aU⟩) aC)
   refine oS 3 Z (xG Z Z Z ?_)
   refine xG Z Z Z (oK 4 [35,3,0] Z Z ?_)
   refine rO 7 Z (yB Z Z aC ?_)
   refine oR 3 Z ?_
   exact kQ (hK (i+1) (⟨aC,sk hno (hi:=h8) aU⟩) aC)
  refine oO 3 Z (vC Z Z Z ?_)
  refine oS 4 Z (yC (s:=20) Z (fun h20=>?_) (fun h20=>?_))
  ·refine oO 3 Z (vE Z Z Z ?_)
   refine oS 2 Z (yC (s:=23) Z (fun h23=>?_) (fun h23=>?_))
   ·refine oO 11 Z (vE Z Z Z ?_)
    refine oS 2 Z (yC (s:=31) Z (fun h31=>?_) (fun h31=>?_))
    ·refine oK 7 [35,3,0] Z Z (rR 6 Z ?_)
     exact zE Tryz.results113 Z ⟨yD aM,rfl,rfl⟩ nS (fun _ h=>by cases h)
    refine oO 3 Z (vC Z Z Z ?_)
    refine oK 5 [35,3,0] Z Z (zW Z (fun h35=>?_) (fun h35=>?_))
    ·refine rR 5 Z ?_
     exact zE Tryz.results113 Z ⟨yD aM,rfl,rfl⟩ nS (fun _ h=>by cases h)
    refine rO 6 Z (yB Z Z aC ?_)
    refine oR 3 Z ?_
    exact kQ (hK (i+1) (⟨aC,sk hno (hi:=h8) aU⟩) aC)
   refine oO 3 Z (vC Z Z Z ?_)
   refine oS 6 Z (yC (s:=28) Z (fun h28=>?_) (fun h28=>?_))
   ·refine oO 3 Z (vE Z Z Z ?_)
    refine oS 2 Z (yC (s:=31) Z (fun h31=>?_) (fun h31=>?_))
    ·refine oK 7 [35,3,0] Z Z (rR 6 Z ?_)
     exact zE Tryz.results113 Z ⟨yD aM,rfl,rfl⟩ nS (fun _ h=>by cases h)
    refine oO 3 Z (vC Z Z Z ?_)
    refine oK 5 [35,3,0] Z Z (zW Z (fun h35=>?_) (fun h35=>?_))
    ·refine rR 5 Z ?_
     exact zE Tryz.results113 Z ⟨yD aM,rfl,rfl⟩ nS (fun _ h=>by cases h)
    refine rO 6 Z (yB Z Z aC ?_)
    refine oR 3 Z ?_
    exact kQ (hK (i+1) (⟨aC,sk hno (hi:=h8) aU⟩) aC)
   refine oS 3 Z (xG Z Z Z ?_)
   refine xG Z Z Z (oK 4 [35,3,0] Z Z ?_)
   refine rO 7 Z (yB Z Z aC ?_)
   refine oR 3 Z ?_
   exact kQ (hK (i+1) (⟨aC,sk hno (hi:=h8) aU⟩) aC)
  refine oS 3 Z (xG Z Z Z ?_)
  refine xG Z Z Z (oS 8 Z ?_)
  refine xG Z Z Z (xG Z Z Z ?_)
  refine oK 4 [35,3,0] Z Z (rO 7 Z ?_)
  refine yB Z Z aC (oR 3 Z ?_)
  exact kQ (hK (i+1) (⟨aC,sk hno (hi:=h8) aU⟩) aC)
 refine rO 6 Z (iu Z Z Z ?_)
 refine oR 3 Z ?_
 exact zE Tryz.results113 Z ⟨yD (by simp only [decide_eq_true_eq,sj];exact⟨fun h=>⟨fun j hj=>hno j hj aC,h⟩,fun h=>h.2⟩),rfl,rfl⟩ nS (fun _ h=>by cases h)
end Go.Jw

namespace Go.Jw
open Go Go.RowKit
abbrev kHash:ByteArray:=⟨#[35]⟩
abbrev Ot:ByteArray:=⟨#[47]⟩
abbrev kDefs:ByteArray:=⟨#[100,101,102,105,110,105,116,105,111,110,115]⟩
abbrev kProps:ByteArray:=⟨#[112,114,111,112,101,114,116,105,101,115]⟩
def CH(base part:ByteArray):ByteArray:=base++Ot++part++Ot
def oZ(ref base part:ByteArray):ByteArray:=ref.extract (CH base part).size ref.size
def JV(ref base part:ByteArray):Prop:=(CH base part).size<ref.size∧ref.extract 0 (CH base part).size=CH base part∧sj (oZ ref base part)
def oG(id:ByteArray):List (ByteArray×ByteArray):=[(kHash,kDefs),(kHash,kProps),(id,kDefs),(id,kProps)]
noncomputable def iD(v:V):ByteArray:=((getV v kId).getD zV).text
noncomputable def eP(id ref:ByteArray):Option (ByteArray×ByteArray):=(oG id).find? (fun p=>tb (JV ref p.1 p.2))
noncomputable def sm(id ref:ByteArray):Value:=match eP id ref with
  |some p=> .tuple #[.string p.2, .string (oZ ref p.1 p.2), .bool true]
  |none=> .tuple #[.string ⟨#[]⟩, .string ⟨#[]⟩, .bool false]
theorem Ep{id base part:ByteArray}{i j:Nat}(hb:[kHash,id][i]? =some base)(hp:[kDefs,kProps][j]? =some part):(oG id)[2*i+j]? =some (base,part)∧i<2∧j<2:=by
  match i,j,hb,hp with
  |0,0,hb,hp=>cases hb;cases hp;exact⟨rfl,aC,aC⟩
  |0,1,hb,hp=>cases hb;cases hp;exact⟨rfl,aC,aC⟩
  |1,0,hb,hp=>cases hb;cases hp;exact⟨rfl,aC,aC⟩
  |1,1,hb,hp=>cases hb;cases hp;exact⟨rfl,aC,aC⟩
  |_+2,_,hb,hp=>simp at hb
  |0,_+2,hb,hp=>simp at hp
  |1,_+2,hb,hp=>simp at hp
def NoHead(id ref:ByteArray)(m:Nat):Prop:= ∀ q,q<m→ ∀ p,(oG id)[q]? =some p→ ¬ JV ref p.1 p.2
theorem NoHead.zero(id ref:ByteArray):NoHead id ref 0:=fun q hq=>absurd hq (Nat.not_lt_zero _)
theorem NoHead.step{id ref:ByteArray}{m:Nat}{p:ByteArray×ByteArray}(h:NoHead id ref m)(hp:(oG id)[m]? =some p)(hn: ¬ JV ref p.1 p.2):NoHead id ref (m+1):=fun q hq p' hp'=>by
  rcases Nat.lt_or_ge q m with h1|h1
  · exact h q h1 p' hp'
  · have:q=m:=by omega
    subst this
    rw [hp]at hp'
    cases hp'
    exact hn
theorem oH{α:Type}{p:α→Bool}: ∀ {l:List α} {m:Nat} {x:α},(∀ q,q<m→ ∀ y,l[q]? =some y→p y=false)→l[m]? =some x→p x=true→l.find? p=some x
  |[],m,x,_,h,_=>by simp at h
  |y::l,0,x,_,h,hx=>by
    have:y=x:=by simpa using h
    subst this
    simp [hx]
  |y::l,m+1,x,hno,h,hx=>by
    have hy:p y=false:=hno 0 (Nat.succ_pos _) y rfl
    rw [List.find?_cons,hy]
    exact oH (m:=m) (fun q hq z hz=>hno (q+1) (Nat.succ_lt_succ hq) z (by simpa using hz)) cF hx
theorem Bs{id ref:ByteArray}{m:Nat}{p:ByteArray×ByteArray}(h:NoHead id ref m)(hp:(oG id)[m]? =some p)(hm:JV ref p.1 p.2):eP id ref=some p:=
 oH (fun q hq y hy=>tb_f (h q hq y hy)) hp (tb_t hm)
theorem Bt{id ref:ByteArray}(h:NoHead id ref 4):eP id ref=none:=by
 unfold eP
 rw [List.find?_eq_none]
 intro p hp
 obtain⟨q,hq⟩:=List.getElem?_of_mem hp
 have hlt:q<4:=by
  have:=(List.getElem?_eq_some_iff.1 hq).1
  simpa [oG]using this
 rw [tb_f (h q hlt p hq)]
 decide
end Go.Jw

namespace Go.Jw
open Go Go.RowKit Go.Proofs
set_option maxRecDepth 8000
section rules
variable {P:Program} {n:Nat} {F:List Nat} {c:Ctx F} {ops:Array Oper} {d:Option Tmp} {op:Op} {T:TypeId} {l:List Oper} {k:List KI} {Q:Post} {e:dI} {M:List HA} {D:List DA}
theorem qg(i:Nat){b:Nat}{s t:ByteArray}{E:TypeId}(hi:M[i]? =some (.blk b [.string s, .string t] E))(hF:F=[])(h1:s.size≤maxLen)(h2:t.size≤maxLen)(next:cL P n c ops l k Q e (M.eraseIdx i) (.strs (.slice (some ⟨b,0,none⟩) 2 2) [s,t]::D)):cL P n c ops l k Q e M D:=
  jU (h:= .blk b [.string s, .string t] E) [.strs (.slice (some ⟨b,0,none⟩) 2 2) [s,t]] (fun x _ h=>by rw [hF]at h;cases h) (vN hi) (fun w ok h hok hD d hd=>by
    rcases List.mem_singleton.1 hd with rfl
    refine⟨some ⟨b,0,none⟩,2,rfl,Nat.le_refl _,by decide,fun x hx=>?_,fun q x hx=>⟨⟨b,0,none⟩,rfl,hok _ cB,?_⟩⟩
    · rcases List.mem_cons.1 hx with rfl|hx
      · exact h1
      · rw [List.mem_singleton.1 hx];exact h2
    · rw [vD,tI h,Nat.zero_add,Nat.mul_one]
      match q,hx with
      |0,hx=>cases hx;rfl
      |1,hx=>cases hx;rfl
      |_+2,hx=>simp at hx) next
end rules
theorem me{v:V}(h:Pl v):v.text.size≤200:=by
  obtain⟨d,h⟩:=h
  have h0:(⟨#[]⟩:ByteArray).size≤200:=by decide
  have key:dR v.kind v.num v.text v.keys v.items→v.text.size≤200:=fun h=>by
    rcases h.2.2 with h|h|h|h|h
    · rw [h.2.2];exact h0
    · rw [h.2.2];exact h0
    · rw [h.2.2.2];exact h0
    · rw [h.2.2.2.2];exact h0
    · exact h.2.2.2
  cases d with
  |zero=>exact key h
  |succ d=>
    rcases h with h|h
    · exact key h
    · rw [h.1.2.1];exact h0
theorem AZ{v:V}(hp:Pl v):((getV v kId).getD zV).text.size≤200:=by
  cases hg:getV v kId with
  |none=>show zV.text.size≤200;decide
  |some a=>exact me (hp.item _ (uU hg))

theorem Aa{α:Type}{a b x:α}{i:Nat}(h:[a,b][i]? =some x):x=a∨x=b:=by have:=List.mem_of_getElem? h;simpa using this
theorem Pt(v:V)(x:Value)(ref:ByteArray)(hp:Pl v)(hrf:ref.size≤maxLen):dd Tryz.prog 72 #[x, .string ref] [.val x v] (sm (iD v) ref):=by
 refine Ct.of_run (args:=[x, .string ref]) Tryz.func72 aF Z Tryz.ntmps72 Z (fun c=>?_)
 refine yP 0 Z (fun A1 c1 A2 c2 hx hsz1 hk1 hk2 hi1 hi2=>?_)
 subst hx
 have hlen:=hp.wf.le
 unfold maxLen at hrf
 refine rO 3 Z (yK Z Z Z (fun b2=>?_))
 refine oO 10 Z (zJ 0 Z cP Z Z ?_)
 refine zA ?_
 refine zT Z Z Z (vc _ v kId hlen) aA (fun u16 D16 hv16=>?_)
 obtain⟨idv,hidv⟩: ∃z,z=(getV v kId).getD zV:=⟨_,rfl⟩
 rw [←hidv]at hv16
 obtain⟨_,rfl,A16,m16,B16,d16,rfl,rfl⟩:=hv16
 refine oO 7 Z (zS cx Z (fun b7=>?_))
 change cL _ _ _ _ _ _ _ _ (HA.blk _ [_,_,_,_,_] _::_) _
 refine zA (zF 0 (M':=[HA.blk _ [_,_,_,_,_] _,_]) Z Z Z Z cY Z Z Z ?_)
 refine oK 3 [7,1] Z Z (rO 4 Z ?_)
 refine zC rC Z Z (zA ?_)
 refine zG 0 dK Z Z Z Z (zA ?_)
 have hidz:idv.text.size≤200:=hidv▸AZ hp
 refine qC cX Z Z Z Z Z (fun b21=>?_)
 refine qg 0 Z Z aE bf (zA ?_)
 refine yA cX Z Z (oK 4 [23,22,21,1] Z Z ?_)
 refine xJ 1 (fun(i:Nat)=>i≤2∧NoHead idv.text ref (2*i)) (fun(i:Nat)=>[(23, .int .i64 ((i:Nat):Int))]) (fun(i:Nat)=>2 - i) 0 (⟨aC,NoHead.zero _ _⟩) (eC Z (eN _)) ?_ (eC Z (eC Z (eC Z (eN _))))
 intro i hI K hK
 change Run _ _ _ _ _ [(23,_),(22,_),(21,_),(1,_)] _ _
 obtain⟨hi,hno⟩:=hI
 refine rO 3 Z (yJ Z Z Z ?_)
 refine oR 2 Z (zN Z (fun h24=>?_) (fun h24=>?_))
 ·refine rO 6 Z ?_
  obtain⟨base,hb⟩: ∃base,[kHash,idv.text][i]? =some base:=⟨_,List.getElem?_eq_getElem (show i<[kHash,idv.text].length from h24)⟩
  have hbz:base.size≤200:=(Aa hb).elim (fun e=>e▸by decide) (fun e=>e▸hidz)
  refine xP 0 cX Z Z Z Z h24 (zA ?_)
  refine yH dK Z Z (fun _ h=>xF h (j:=0) Z hb) (oO 6 Z ?_)
  refine qC cX Z Z Z Z Z (fun b27=>?_)
  refine qg 0 Z Z aE aE (zA ?_)
  refine yA cX Z Z (oK 4 [29,28,27,10,23,22,21,1] Z Z ?_)
  refine xJ 1 (fun(j:Nat)=>j≤2∧NoHead idv.text ref (2*i+j)) (fun(j:Nat)=>[(29, .int .i64 ((j:Nat):Int))]) (fun(j:Nat)=>2 - j) 0 (⟨aC,hno⟩) (eC Z (eN _)) ?_ (eC Z (eC Z (eC Z (eC Z (eC Z (eC Z (eC Z (eN _))))))))
  intro j hI K hK1
  change Run _ _ _ _ _ [(29,_),(28,_),(27,_),(10,_),(23,_),(22,_),(21,_),(1,_)] _ _
  obtain⟨hj,hnoj⟩:=hI
  refine rO 3 Z (yJ Z Z Z ?_)
  refine oR 2 Z (zN Z (fun h30=>?_) (fun h30=>?_))
  ·refine rO 6 Z ?_
   obtain⟨part,hpt⟩: ∃part,[kDefs,kProps][j]? =some part:=⟨_,List.getElem?_eq_getElem (show j<[kDefs,kProps].length from h30)⟩
   obtain⟨hh,_,_⟩:=Ep hb hpt
   have hpz:part.size≤11:=(Aa hpt).elim (fun e=>e▸by decide) (fun e=>e▸by decide)
   refine xP 0 cX Z Z Z Z h30 (zA ?_)
   refine yH dK Z Z (fun _ h=>xF h (j:=0) Z hpt) (oO 8 Z ?_)
   refine jq Z Z Z (by show base.size+1≤_;omega) (oO 3 Z ?_)
   refine jq Z Z Z (by rw [ByteArray.size_append];show base.size+1+part.size≤_;omega) (zA ?_)
   refine jq Z Z Z (by rw [ByteArray.size_append,ByteArray.size_append];show base.size+1+part.size+1≤_;omega) (oK 3 [13,12,29,28,27,10,23,22,21,1] Z Z ?_)
   refine rO 5 Z (wC eh Z Z ?_)
   refine oO 3 Z (wC eh Z Z ?_)
   refine zA (Ff Z Z Z ?_)
   refine oS 2 Z (yC (s:=43) Z (fun h43=>?_) (fun h43=>?_))
   ·refine oO 5 Z (wC eh Z Z ?_)
    refine zI Z Z (jQ eh Z Z Z aC ?_)
    refine oS 8 Z (yC (s:=51) Z (fun h51=>?_) (fun h51=>?_))
    ·refine oO 5 Z (wC eh Z Z ?_)
     refine zI Z Z (fa eh Z Z Z aC ?_)
     refine zI Z Z (zK Z Z Z (c113 _ (by rw [ByteArray.size_extract];unfold maxLen;omega)) cZ ?_)
     refine oK 3 [57,13,12,29,28,27,10,23,22,21,1] Z Z (zW Z (fun h57=>?_) (fun h57=>?_))
     ·refine xK (yO yE ?_)
      refine zR (tP 0 Z cK (zZ Z) ?_)
      refine tP 1 Z cK (zZ Z) (tP 2 Z cK (zZ Z) ?_)
      refine tP 5 Z cK (xC Z) (yF ?_)
      refine tM 3 Z cK (Ao eh Z) (tM 4 Z cK (oc eh Z Z aC) ?_)
      refine zR (tP 6 Z cK (xC Z) ?_)
      refine tP 7 Z cK (xC Z) (yG aD ?_)
      refine rK 0 [6,5,4] Z Z ?_
      exact fh Tryz.results72 Z Z Z ⟨by unfold sm iD;rw [←hidv,Bs hnoj hh ⟨(by unfold CH;omega),h51,yT.1 h57⟩];rfl,rfl,rfl⟩ nS (fun _ h=>by cases h)
     refine rO 4 Z (yB Z Z aC ?_)
     refine oR 3 Z ?_
     exact kQ (hK1 (j+1) (⟨aC,hnoj.step hh (fun hm=>Bool.noConfusion ((tb_t hm.2.2).symm.trans h57))⟩) aC)
    refine oK 8 [57,13,12,29,28,27,10,23,22,21,1] Z Z (rO 5 Z ?_)
    refine yB Z Z aC (oR 3 Z ?_)
    exact kQ (hK1 (j+1) (⟨aC,hnoj.step hh (fun hm=>h51 hm.2.1)⟩) aC)
   refine oK 18 [57,13,12,29,28,27,10,23,22,21,1] Z Z (rO 5 Z ?_)
   refine yB Z Z aC (oR 3 Z ?_)
   exact kQ (hK1 (j+1) (⟨aC,hnoj.step hh (fun hm=>absurd hm.1 (by unfold CH;omega))⟩) aC)
  refine rO 4 Z (yB Z Z aC ?_)
  refine oR 3 Z ?_
  exact kQ (hK (i+1) (⟨aC,(by have e:j=2:=aC;subst e;exact hnoj)⟩) aC)
 refine rR 10 Z ?_
 obtain rfl:i=2:=by omega
 exact fh Tryz.results72 Z Z Z ⟨by unfold sm iD;rw [←hidv,Bt hno],rfl,rfl⟩ nS (fun _ h=>by cases h)
theorem N5(v:V)(x:Value)(ref:ByteArray)(hp:Pl v)(hrf:ref.size≤maxLen):CtR Tryz.prog 72 #[x, .string ref] [.val x v] (fun u D'=> ∃part nm ok,u= .tuple #[.string part, .string nm, .bool ok]∧D'=[]∧(ok=true→ ∃p,eP (iD v) ref=some p∧part=p.2∧nm=oZ ref p.1 p.2)∧(ok=false→eP (iD v) ref=none)):=
  (Pt v x ref hp hrf).mono (fun u M' D' ⟨h1,h2,h3⟩=>⟨h2,by
    subst h1
    unfold sm
    cases hh:eP (iD v) ref with
    |none=>exact⟨_,_,false,rfl,h3,fun h=>Bool.noConfusion h,fun _=>rfl⟩
    |some p=>exact⟨_,_,true,rfl,h3,fun _=>⟨p,rfl,rfl,rfl⟩,fun h=>Bool.noConfusion h⟩⟩)
noncomputable def PtV(v:V)(ref:ByteArray):Option V:=(eP (iD v) ref).bind fun p=>(getV v p.2).bind fun all=>getV all (oZ ref p.1 p.2)
theorem Lr(key:ByteArray):getV zV key=none:=by
  cases h:getV zV key with
  |none=>rfl
  |some a=>have:=uU h;cases this
theorem Pu(v:V)(x:Value)(ref:ByteArray)(hp:Pl v)(hrf:ref.size≤maxLen):CtR Tryz.prog 35 #[x, .string ref] [.val x v] (fun u D'=> ∃y,u= .tuple #[y, .bool (PtV v ref).isSome]∧RV ((PtV v ref).getD zV) y D'):=by
 refine Ct.of_run (args:=[x, .string ref]) Tryz.func35 aF Z Tryz.ntmps35 Z (fun c=>?_)
 refine yP 0 Z (fun A1 c1 A2 c2 hx hsz1 hk1 hk2 hi1 hi2=>?_)
 subst hx
 have hlen:=hp.wf.le
 refine rO 3 Z (yK Z Z Z (fun b2=>?_))
 refine zA (zS cx Z (fun b4=>?_))
 change cL _ _ _ _ _ _ _ _ (HA.blk _ [_,_,_,_,_] _::_) _
 refine oO 6 Z (zJ 1 Z cP Z Z ?_)
 refine oO 3 Z ?_
 refine zT Z Z Z (N5 v _ ref hp hrf) aA (fun u14 D14 hv14=>?_)
 obtain⟨part,nm,ok,rfl,rfl,hyes,hnone⟩:=hv14
 refine oK 15 [8,7,6,4,2] Z Z (rR 8 Z ?_)
 refine zW Z (fun h19=>?_) (fun h19=>?_)
 ·refine rO 3 Z (yX Z Z (q9 ..) ?_)
  refine zA (zF 0 (M':=[HA.blk _ [_,_,_,_,_] _,_]) Z Z Z Z cY Z Z Z ?_)
  refine oR 3 Z ?_
  have hpt:PtV v ref=none:=by unfold PtV;rw [hnone (by simpa using h19)];rfl
  refine yQ (M':=[HA.blk b4 [_,_,_,_,_] 25]) (by repeat (first|exact zQ _|refine zB 0 Z ?_|refine zB 1 Z ?_|refine zB 2 Z ?_|refine zB 3 Z ?_|refine zB 4 Z ?_)) ?_
  refine yM (.val (.agg #[.int .i64 0, .int .i64 0, .string ⟨#[]⟩, .slice none 0 0, .slice none 0 0]) zV) (fun w ok _=>sE w ok) ?_
  exact xX 0 Tryz.results35 Z Z Z cP ⟨rfl, .agg #[.int .i64 0, .int .i64 0, .string ⟨#[]⟩, .slice none 0 0, .slice none 0 0],by rw [hpt];rfl,by rw [hpt];exact⟨none,0,none,0,rfl,rfl⟩⟩ nS (cS 0 Z)
 refine rO 4 Z (zJ 1 Z cP Z Z ?_)
 refine oO 3 Z ?_
 refine zT Z Z Z (vc _ v part hlen) aA (fun u24 D24 hv24=>?_)
 obtain⟨all,hall⟩: ∃z,z=(getV v part).getD zV:=⟨_,rfl⟩
 have hal:all.keys.length≤all.items.length:=by
  cases hg:getV v part with
  |none=>rw [hall,hg];exact Nat.le_refl _
  |some a=>rw [hall,hg];exact(hp.item _ (uU hg)).wf.le
 rw [←hall]at hv24
 obtain⟨_,rfl,A24,m24,B24,d24,rfl,rfl⟩:=hv24
 refine oO 7 Z (zS cx Z (fun b9=>?_))
 change cL _ _ _ _ _ _ _ _ (HA.blk _ [_,_,_,_,_] _::_) _
 refine zA (zF 0 (M':=[HA.blk _ [_,_,_,_,_] _,_,_]) Z Z Z Z cY Z Z Z ?_)
 refine oK 3 [9,7,4] Z Z (rO 3 Z ?_)
 refine zJ 0 Z cP Z Z (oO 3 Z ?_)
 refine zT Z Z Z (vc _ all nm hal) aA (fun u29 D29 hv29=>?_)
 obtain⟨_,rfl,A29,m29,B29,d29,rfl,rfl⟩:=hv29
 refine oO 5 Z (zF 1 (M':=[_,HA.blk _ [_,_,_,_,_] _,_]) Z Z Z Z cY Z Z Z ?_)
 refine oR 3 Z ?_
 obtain⟨p,hp1,rfl,rfl⟩:=hyes (by simpa using h19)
 have hpt:PtV v ref=getV all (oZ ref p.1 p.2):=by
  unfold PtV
  rw [hp1]
  show(getV v p.2).bind (fun a=>getV a _)=_
  cases hg:getV v p.2 with
  |none=>rw [hall,hg];exact(Lr _).symm
  |some a=>rw [hall,hg];rfl
 refine yQ (M':=[HA.blk b4 [_,_,_,_,_] 25]) (by repeat (first|exact zQ _|refine zB 0 Z ?_|refine zB 1 Z ?_|refine zB 2 Z ?_|refine zB 3 Z ?_|refine zB 4 Z ?_)) ?_
 exact xX 0 Tryz.results35 Z Z Z cP ⟨rfl, .agg #[.int .i64 ((getV all (oZ ref p.1 p.2)).getD zV).kind, .int .i64 ((getV all (oZ ref p.1 p.2)).getD zV).num, .string ((getV all (oZ ref p.1 p.2)).getD zV).text, .slice A29 ((getV all (oZ ref p.1 p.2)).getD zV).keys.length m29, .slice B29 ((getV all (oZ ref p.1 p.2)).getD zV).items.length d29],by rw [hpt];rfl,by rw [hpt];exact⟨A29,m29,B29,d29,rfl,rfl⟩⟩ nS aA
abbrev Er(z:V):Prop:=(getV z kId).isSome=true∨(getV z k1).isSome=true
def IsRootV(v:V):Prop:=2≤(iD v).size∧(∀ h:(iD v).size - 1<(iD v).size,(iD v)[(iD v).size - 1]=35)∧(∀ j (h:j<(iD v).size),j<(iD v).size - 1→(iD v)[j]≠35)∧ ∀ z∈kidsV v,cn (fun z=> ¬ Er z) z
theorem Mj(b:UInt8)(m:Nat)(hm:m<256):(((b.toNat:Nat):Int)=(m:Nat))↔b=UInt8.ofNat m:=by
 constructor
 ·intro h
  have h1:b.toNat=m:=by omega
  rw [←h1]
  simp
 ·intro h
  subst h
  simp only [UInt8.toNat_ofNat']
  omega
theorem stepK{p:V→Prop}{l:List V}{i:Nat}{z:V}(h: ∀ j z,j<i→l[j]? =some z→p z)(hz:l[i]? =some z)(hd:p z): ∀ j z,j<i+1→l[j]? =some z→p z:=fun j z2 hj hz2=>by
  rcases Nat.lt_or_ge j i with h1|h1
  · exact h j z2 h1 hz2
  · have e:j=i:=by omega
    subst e
    rw [hz]at hz2
    cases hz2
    exact hd

theorem Pv(z:V)(hp:Pl z)(y:Value):dd Tryz.prog 71 #[y] [.val y z] (.bool (tb (Er z))):=by
 refine Ct.of_run (args:=[y]) Tryz.func71 aF Z Tryz.ntmps71 Z (fun c=>?_)
 refine yP 0 Z (fun A1 c1 A2 c2 hx hsz hk1 hk2 hi1 hi2=>?_)
 subst hx
 have hle:=hp.wf.le
 refine rO 3 Z (yK Z Z Z (fun b1=>?_))
 refine oO 6 Z (zJ 0 Z cP Z Z ?_)
 refine zA (zK Z Z Z (Aw _ z _) (cS 2 Z) ?_)
 refine zA (tB Z Z Z ?_)
 refine oS 2 Z (yC (s:=6) Z (fun h6=>?_) (fun h6=>?_))
 ·refine oK 8 [2] Z Z ?_
  exact zE Tryz.results71 Z ⟨congrArg Value.bool (tb_t (p:=Er z) (.inl ((uK hle).1 (by simpa [kId]using h6)))).symm,rfl,rfl⟩ nS (fun _ h=>by cases h)
 refine zI Z Z (zJ 0 Z cP Z Z ?_)
 refine zI Z Z (zK Z Z Z (Aw _ z _) (cS 2 Z) ?_)
 refine zI Z Z (tB Z Z Z ?_)
 refine oK 5 [2] Z Z ?_
 exact zE Tryz.results71 Z ⟨congrArg Value.bool (lj (by rw [decide_eq_true_iff];unfold Er;rw [←uK hle,←uK hle];exact⟨fun h=> .inr h,fun h=>h.resolve_left (by simpa [kId]using h6)⟩)),rfl,rfl⟩ nS (fun _ h=>by cases h)
theorem c33(v:V)(x:Value)(hp:Pl v):dd Tryz.prog 33 #[x] [.val x v] (.bool (tb (IsRootV v))):=by
 refine Ct.of_run (args:=[x]) Tryz.func33 aF Z Tryz.ntmps33 Z (fun c=>?_)
 refine yP 0 Z (fun A1 c1 A2 c2 hx hsz1 hk1 hk2 hi1 hi2=>?_)
 subst hx
 have hlen:=hp.wf.le
 have hkz:(kidsV v).length≤61000000:=by have h1:=oE hp v.keys.length (Nat.le_refl _) hlen;rw [oD (Nat.le_refl _)]at h1;have:=hp.wf.kl;omega
 refine rO 3 Z (yK Z Z Z (fun b1=>?_))
 refine oO 6 Z (zJ 0 Z cP Z Z ?_)
 refine zA ?_
 refine zT Z Z Z (vc _ v kId hlen) aA (fun u11 D11 hv11=>?_)
 obtain⟨idv,hidv⟩: ∃z,z=(getV v kId).getD zV:=⟨_,rfl⟩
 have hid:iD v=idv.text:=by unfold iD;rw [hidv]
 rw [←hidv]at hv11
 obtain⟨_,rfl,A11,m11,B11,d11,rfl,rfl⟩:=hv11
 refine oO 7 Z (zS cx Z (fun b3=>?_))
 change cL _ _ _ _ _ _ _ _ (HA.blk _ [_,_,_,_,_] _::_) _
 refine zA (zF 0 (M':=[HA.blk _ [_,_,_,_,_] _,_]) Z Z Z Z cY Z Z Z ?_)
 refine oO 6 Z (zC rC Z Z ?_)
 refine zA (zG 0 dK Z Z Z Z ?_)
 refine zA ?_
 have hidz:idv.text.size≤200:=hidv▸AZ hp
 refine wC eh Z Z (oK 3 [5,3,1] Z Z ?_)
 refine rO 6 Z (vE Z Z Z ?_)
 refine oS 2 Z (yC (s:=19) Z (fun h19=>?_) (fun h19=>?_))
 ·refine oK 9 [26,5,3,1] Z Z (rR 6 Z ?_)
  exact zE Tryz.results33 Z ⟨congrArg Value.bool (tb_f (p:=IsRootV v) (fun hc=>by have:=hc.1;rw [hid]at this;omega)).symm,rfl,rfl⟩ nS (fun _ h=>by cases h)
 refine zI Z Z (zC rC Z Z ?_)
 refine zI Z Z (zG 0 dK Z Z Z Z ?_)
 refine oO 3 Z (xY (s:=((idv.text.size - 1:Nat):Int)) Z Z Z aC aC aC ?_)
 refine zI Z Z (uP eh Z Z Z aC ?_)
 refine zI Z Z (sT Z Z Z ?_)
 refine oK 3 [26,5,3,1] Z Z (zW Z (fun h26=>?_) (fun h26=>?_))
 ·refine rR 5 Z ?_
  exact zE Tryz.results33 Z ⟨congrArg Value.bool (tb_f (p:=IsRootV v) (fun hc=>by have h1:=hc.2.1;rw [hid]at h1;have h2:=h1 aC;simp only [decide_eq_true_eq,decide_eq_false_iff_not,ne_eq,Decidable.not_not]at*;exact h26 ((Mj _ 35 aC).2 h2))).symm,rfl,rfl⟩ nS (fun _ h=>by cases h)
 have h2:2≤idv.text.size:=by omega
 have hlast: ∀ h:idv.text.size - 1<idv.text.size,idv.text[idv.text.size - 1]=35:=fun h=>(Mj _ 35 aC).1 (by simpa using h26)
 refine rK 8 [6,5,3,1] Z Z ?_
 refine xJ 1 (fun(i:Nat)=>i≤idv.text.size∧ ∀ j (h:j<idv.text.size),j<i→idv.text[j]≠35) (fun(i:Nat)=>[(6, .int .i64 ((i:Nat):Int))]) (fun(i:Nat)=>idv.text.size - i) 0 (⟨aC,fun _ _ h=>absurd h aC⟩) (eC Z (eN _)) ?_ (eC Z (eC Z (eC Z (eN _))))
 intro i hI K hK
 change Run _ _ _ _ _ [(6,_),(5,_),(3,_),(1,_)] _ _
 obtain⟨hi,hno⟩:=hI
 refine rO 8 Z (xY (s:=((idv.text.size - 1:Nat):Int)) Z Z Z aC aC aC ?_)
 refine zA (yJ Z Z Z ?_)
 refine zX (zN Z (fun h30=>?_) (fun h30=>?_))
 ·refine rO 6 Z (zC rC Z Z ?_)
  refine zA (zG 0 dK Z Z Z Z ?_)
  refine oO 3 Z (uP eh Z Z Z aC ?_)
  refine oR 3 Z (zN Z (fun h37=>?_) (fun h37=>?_))
  ·refine rK 5 [2] Z Z ?_
   exact zE Tryz.results33 Z ⟨congrArg Value.bool (tb_f (p:=IsRootV v) (fun hc=>by have h1:=hc.2.2.1;rw [hid]at h1;exact h1 i aC aC ((Mj _ 35 aC).1 h37))).symm,rfl,rfl⟩ nS (fun _ h=>by cases h)
  refine rO 6 Z (yB Z Z aC ?_)
  refine oK 3 [6,5,3,1] Z Z ?_
  exact kQ (hK (i+1) (⟨aC,sk (p:=fun b=>b≠35) hno (hi:=by omega) (fun e=>h37 ((Mj _ 35 aC).2 e))⟩) aC) (eC Z (eC Z (eC Z (eC Z (eN _)))))
 refine rO 5 Z (zJ 1 Z cP Z Z ?_)
 refine zA ?_
 refine zT Z Z Z (Oo v _ hp) aA (fun u39 D39 hv39=>?_)
 obtain⟨A39,c39,rfl,rfl⟩:=hv39
 refine zA (yA cg Z Z ?_)
 refine oK 3 [41,40,39] Z Z (rK 1 [41,40,39] Z Z ?_)
 refine xJ 1 (fun(i:Nat)=>i≤(kidsV v).length∧ ∀ j z,j<i→(kidsV v)[j]? =some z→cn (fun z=> ¬ Er z) z) (fun(i:Nat)=>[(41, .int .i64 ((i:Nat):Int))]) (fun(i:Nat)=>(kidsV v).length - i) 0 (⟨aC,fun _ _ h=>absurd h aC⟩) (eC Z (eN _)) ?_ (eC Z (eC Z (eN _)))
 intro i hI K hK1
 change Run _ _ _ _ _ [(41,_),(40,_),(39,_)] _ _
 obtain⟨hik,hnk⟩:=hI
 refine rO 3 Z (yJ Z Z Z ?_)
 refine oR 2 Z (zN Z (fun h42=>?_) (fun h42=>?_))
 ·refine rO 6 Z (wK 0 cg Z Z Z Z aC ?_)
  refine zA ?_
  obtain⟨z,hz⟩: ∃z,(kidsV v)[i]? =some z:=⟨_,List.getElem?_eq_getElem h42⟩
  refine wA 0 cP Z Z Z hz (fun A3 c3 A4 c4=>?_)
  refine zA (zS cx Z (fun b8=>?_))
  change cL _ _ _ _ _ _ _ _ (HA.blk _ [_,_,_,_,_] _::_) _
  refine zA (zF 0 (M':=[HA.blk _ [_,_,_,_,_] _,_,_]) Z Z Z Z cY Z Z Z ?_)
  refine oO 4 Z (zJ 0 Z cP Z Z ?_)
  refine zA (zK Z Z Z (Mi 71 Er (fun z hz y=>Pv z hz y) z (vP hp (List.mem_of_getElem? hz)) _) aA ?_)
  refine zX (zW Z (fun h46=>?_) (fun h46=>?_))
  ·refine rK 5 [2] Z Z ?_
   exact zE Tryz.results33 Z ⟨congrArg Value.bool (tb_f (p:=IsRootV v) (fun hc=>by have h1:=hc.2.2.2 _ (List.mem_of_getElem? hz);exact(yT.1 h46) h1)).symm,rfl,rfl⟩ nS (fun _ h=>by cases h)
  refine rO 4 Z (yB Z Z aC ?_)
  refine oR 3 Z ?_
  exact kQ (hK1 (i+1) (⟨aC,stepK hnk hz (Classical.byContradiction fun hc=>by rw [tb_t (p:= ¬ cn (fun z=> ¬ Er z) z) hc]at h46;cases h46)⟩) aC)
 refine rR 6 Z ?_
 exact zE Tryz.results33 Z ⟨congrArg Value.bool (tb_t (p:=IsRootV v) ⟨by rw [hid];omega,by rw [hid];exact hlast,by rw [hid];exact fun j hj hlt=>hno j hj aC,fun z hz=>by obtain⟨j,hj⟩:=List.getElem?_of_mem hz;exact hnk j z (by have:=(List.getElem?_eq_some_iff.1 hj).1;omega) hj⟩).symm,rfl,rfl⟩ nS (fun _ h=>by cases h)
end Go.Jw

namespace Go.Jw
open Go Go.RowKit
abbrev bl(s:ByteArray):List UInt8:=s.data.toList
theorem sn{s t:ByteArray}(h:bl s=bl t):s=t:=by
 obtain⟨⟨a⟩⟩:=s
 obtain⟨⟨b⟩⟩:=t
 have:a=b:=h
 rw [this]
theorem pH(s:ByteArray):(bl s).length=s.size:=by
 show s.data.toList.length=s.data.size
 rw [Array.length_toList]
theorem gQ(s t:ByteArray):bl (s++t)=bl s++bl t:=by
 show(s++t).data.toList=_
 rw [ByteArray.data_append,Array.toList_append]
theorem Es{l l':List ByteArray}(h:l.map bl=l'.map bl):l=l':=by
  induction l generalizing l' with
  |nil=>cases l' with
    |nil=>rfl
    |cons y l'=>cases h
  |cons x l ih=>cases l' with
    |nil=>cases h
    |cons y l'=>
      simp only [List.map_cons,List.cons.injEq]at h
      rw [sn h.1,ih h.2]
theorem rF(s:ByteArray)(i j:Nat):bl (s.extract i j)=((bl s).take j).drop i:=by simp [bl,List.drop_take]
theorem oI(s:ByteArray)(i:Nat)(h:i<s.size):(bl s)[i]? =some s[i]:=by
 have h2:i<s.data.size:=h
 simp only [bl]
 rw [Array.getElem?_toList,Array.getElem?_eq_getElem h2]
 rfl
inductive SplL (c:UInt8):List UInt8→List (List UInt8)→Prop
  |last {s:List UInt8} (h:c∉s):SplL c s [s]
  |cut {a b:List UInt8} {l:List (List UInt8)} (h:c∉a) (t:SplL c b l):SplL c (a++c::b) (a::l)
theorem Ab{c:UInt8}: ∀ {a a' b b':List UInt8},c∉a→c∉a'→a++c::b=a'++c::b'→a=a'∧b=b'
  |[],[],b,b',_,_,h=>⟨rfl,by injection h⟩
  |[],x::a',b,b',_,h2,h=>by injection h with h _;subst h;exact absurd List.mem_cons_self h2
  |x::a,[],b,b',h1,_,h=>by injection h with h _;subst h;exact absurd List.mem_cons_self h1
  |x::a,y::a',b,b',h1,h2,h=>by
    injection h with h h'
    obtain⟨e1,e2⟩:=Ab (fun hm=>h1 (List.mem_cons_of_mem _ hm)) (fun hm=>h2 (List.mem_cons_of_mem _ hm)) h'
    exact⟨by rw [h,e1],e2⟩
theorem SplL.no{c:UInt8}{s:List UInt8}{l:List (List UInt8)}(h:SplL c s l)(hn:c∉s):l=[s]:=by
  cases h with
  |last _=>rfl
  |cut h t=>exact absurd aJ hn
theorem SplL.at{c:UInt8}{a b:List UInt8}{l:List (List UInt8)}(h:SplL c (a++c::b) l)(hn:c∉a): ∃l',l=a::l'∧SplL c b l':=by
  generalize hs:a++c::b=s at h
  cases h with
  |last h=>exact absurd (by rw [←hs];simp) h
  |cut h t=>
    obtain⟨rfl,rfl⟩:=Ab hn h hs
    exact⟨_,rfl,t⟩
def vp(c:UInt8)(s:ByteArray)(l:List ByteArray):Prop:=SplL c (bl s) (l.map bl)
theorem Gk{c:UInt8}{s a b:ByteArray}{l:List ByteArray}(h:vp c s l)(hs:bl s=bl a++c::bl b)(ha:c∉bl a)(hb:c∉bl b):l=[a,b]:=by
 unfold vp at h
 rw [hs]at h
 obtain⟨l',h1,h2⟩:=h.at ha
 have h3:=h2.no hb
 subst h3
 exact Es (l':=[a,b]) h1
theorem Bu{c:UInt8}{s a b d:ByteArray}{l:List ByteArray}(h:vp c s l)(hs:bl s=bl a++c::(bl b++c::bl d))(ha:c∉bl a)(hb:c∉bl b)(hd:c∉bl d):l=[a,b,d]:=by
 unfold vp at h
 rw [hs]at h
 obtain⟨l',h1,h2⟩:=h.at ha
 obtain⟨l2,rfl,h3⟩:=h2.at hb
 have h4:=h3.no hd
 subst h4
 exact Es (l':=[a,b,d]) h1
def SplK(c:UInt8)(s0:ByteArray)(acc:List ByteArray)(s:ByteArray):Prop:= ∀ l:List (List UInt8),SplL c (bl s) l→SplL c (bl s0) (acc.map bl++l)
theorem SplK.zero(c:UInt8)(s:ByteArray):SplK c s [] s:=fun l h=>h
theorem gn{c:UInt8}{s:ByteArray}{i:Nat}(h: ∀ j (h:j<s.size),j<i→s[j]≠c):c∉(bl s).take i:=fun hm=>by
 obtain⟨j,hj⟩:=List.getElem?_of_mem hm
 rw [List.getElem?_take]at hj
 split at hj
 ·rename_i hlt
  have hs:j<s.size:=by
   have:=(List.getElem?_eq_some_iff.1 hj).1
   rwa [pH]at this
  rw [oI s j hs]at hj
  injection hj with hj
  exact h j hs hlt hj
 ·cases hj
theorem SplK.cut{c:UInt8}{s0 s:ByteArray}{acc:List ByteArray}{i:Nat}(h:SplK c s0 acc s)(hi:i<s.size)(hc:s[i]=c)(hno: ∀ j (h:j<s.size),j<i→s[j]≠c):SplK c s0 (acc++[s.extract 0 i]) (s.extract (i+1) s.size):=fun l hl=>by
  have e:bl s=bl (s.extract 0 i)++c::bl (s.extract (i+1) s.size):=by
    rw [rF,rF,List.drop_zero,←pH,List.take_length]
    have h1:(bl s)[i]'(by rw [pH];exact hi)=c:=by
      have:=oI s i hi
      rw [List.getElem?_eq_getElem (by rw [pH];exact hi)]at this
      injection this with this
    first|rw [←h1,List.getElem_cons_drop,List.take_append_drop]|rw [←h1,List.getElem_cons_drop]
  have h2:=h (bl (s.extract 0 i)::l) (by
    rw [e]
    refine SplL.cut ?_ hl
    rw [rF,List.drop_zero]
    exact gn hno)
  simpa using h2
theorem SplK.done{c:UInt8}{s0 s:ByteArray}{acc:List ByteArray}(h:SplK c s0 acc s)(hno: ∀ j (h:j<s.size),s[j]≠c):vp c s0 (acc++[s]):=by
 have:=h [bl s] (SplL.last fun hm=>by
  have:=gn (c:=c) (s:=s) (i:=s.size) (fun j hj _=>hno j hj)
  rw [←pH,List.take_length]at this
  exact this hm)
 unfold vp
 simpa using this
end Go.Jw

namespace Go.Jw
open Go Go.RowKit Go.Proofs
set_option maxRecDepth 8000
theorem Ac{s:ByteArray}{c:UInt8}{i:Nat}(hi:i<s.size):s.extract i (i+1)=⟨#[c]⟩↔s[i]=c:=by
 have h1:bl (s.extract i (i+1))=[s[i]]:=by
  rw [rF]
  have hl:i<(bl s).length:=by rw [pH];exact hi
  have hg:(bl s)[i]=s[i]:=by
   have:=oI s i hi
   rw [List.getElem?_eq_getElem hl]at this
   injection this
  rw [List.drop_take,Nat.add_sub_cancel_left,List.drop_eq_getElem_cons hl,hg]
  rfl
 constructor
 ·intro h
  rw [h]at h1
  have:[c]=[s[i]]:=h1
  injection this with this
  exact this.symm
 ·intro h
  refine sn ?_
  rw [h1,h]
abbrev Ou(c0:UInt8)(s:ByteArray)(i:Nat)(s1:ByteArray)(n:Nat)(xs:List Value)(acc:List ByteArray):Prop:=i≤s1.size∧s1.size≤2147483648∧n=acc.length∧xs=acc.map Value.string∧SplK c0 s acc s1∧(∀ j (h:j<s1.size),j<i→s1[j]≠c0)∧n+s1.size≤2147483648∧ ∀ p∈acc,p.size≤maxLen

theorem Gl(s:ByteArray)(c0:UInt8)(hs:s.size≤2147483648):CtR Tryz.prog 168 #[.string s, .string ⟨#[c0]⟩] [] (fun u D'=> ∃A cap l,u= .slice A l.length cap∧D'=[.strs u l]∧vp c0 s l):=by
 refine Ct.of_run (args:=[.string s, .string ⟨#[c0]⟩]) Tryz.func168 aF Z Tryz.ntmps168 Z (fun c=>?_)
 refine rK 17 [0,5,6,1] Z Z (xS 9 1 ?_)
 refine yL 3 (fun(⟨i,s1,n,A,ca,xs,acc⟩:Nat×ByteArray×Nat×Option Addr×Nat×List Value×List ByteArray)=>Ou c0 s i s1 n xs acc) (fun(⟨i,s1,n,A,ca,xs,acc⟩:Nat×ByteArray×Nat×Option Addr×Nat×List Value×List ByteArray)=>[(0, .string s1),(5, .slice A n ca),(6, .int .i64 ((i:Nat):Int))]) (fun(⟨i,s1,n,A,ca,xs,acc⟩:Nat×ByteArray×Nat×Option Addr×Nat×List Value×List ByteArray)=>HA.row A n ca 9 1 xs::[]) (fun(⟨i,s1,n,A,ca,xs,acc⟩:Nat×ByteArray×Nat×Option Addr×Nat×List Value×List ByteArray)=>([]:List DA)) (fun(⟨i,s1,n,A,ca,xs,acc⟩:Nat×ByteArray×Nat×Option Addr×Nat×List Value×List ByteArray)=>s1.size - i) (0,s,0,none,0,[],[]) (show Ou c0 s 0 s 0 [] []from⟨Nat.zero_le _,hs,rfl,rfl,SplK.zero _ _,fun j h hj=>absurd hj (Nat.not_lt_zero _),(by show 0+s.size≤_;omega),fun p hp=>(by cases hp)⟩) (eC Z (eC Z (eC Z (eN _)))) Z Z ?_ (eC Z (eN _))
 intro ⟨i,s1,n,A,ca,xs,acc⟩ hI K hK
 change Run _ _ _ _ _ [(0,_),(5,_),(6,_),(1,_)] [_] (([]:List DA))
 obtain⟨hi,hs1,hn,hxs,hK0,hno,hb,hsz⟩:=hI
 refine rO 8 Z (wC eh Z Z ?_)
 refine zA (xQ (s:=((i+1:Nat):Int)) Z Z Z bM aC aC ?_)
 refine oO 3 Z (wC eh Z Z ?_)
 refine zA (iI Z Z Z ?_)
 refine zX (zN Z (fun h13=>?_) (fun h13=>?_))
 ·have hlt:i<s1.size:=by omega
  refine rO 14 Z (wC eh Z Z ?_)
  refine zA (xQ (s:=((i+1:Nat):Int)) Z Z Z bM aC aC ?_)
  refine zA (sy eh Z Z Z Z aC aC ?_)
  refine oK 5 [22,0,5,6,1] Z Z (zN Z (fun h22=>?_) (fun h22=>?_))
  ·have heq:s1[i]=c0:=(Ac hlt).1 h22
   have hse:(s1.extract (i+1) s1.size).size=s1.size - (i+1):=by rw [ByteArray.size_extract];omega
   refine rO 9 Z (jQ eh Z Z Z aC ?_)
   refine zA (zM cX Z Z Z Z Z (fun b27=>?_))
   refine zA ?_
   refine cf 1 0 cX (fun A28 c28=>?_)
   refine oO 12 Z (wC eh Z Z ?_)
   refine zA (xQ (s:=((i+1:Nat):Int)) Z Z Z bM aC aC ?_)
   refine zA (fa eh Z Z Z aC ?_)
   refine oK 5 [6,0,5,1] Z Z (sA Z ?_)
   exact kQ (hK (0,s1.extract (i+1) s1.size,n+1,_,_,xs++[.string (s1.extract 0 i)],acc++[s1.extract 0 i]) (⟨Nat.zero_le _,(by rw [hse];omega),(by rw [List.length_append,←hn];rfl),(by rw [List.map_append,hxs];rfl),hK0.cut hlt heq hno,fun j h hj=>absurd hj (Nat.not_lt_zero _),(by rw [hse];omega),fun p hp=>(List.mem_append.1 hp).elim (hsz p) (fun e=>by rw [List.mem_singleton.1 e,ByteArray.size_extract];unfold maxLen;omega)⟩) (by first|(show s1.size - (i+1)<s1.size - i;omega)|(show(s1.extract (i+1) s1.size).size - 0<s1.size - i;rw [hse];omega))) (eC Z (eC Z (eC Z (eC Z (eN _))))) (hD:=(fun _ h=>by cases h))
  refine rO 5 Z (yB Z Z aC ?_)
  refine oR 4 Z ?_
  exact kQ (hK (i+1,s1,n,A,ca,xs,acc) (⟨aC,hs1,hn,hxs,hK0,sk (p:=fun b=>b≠c0) hno hlt (fun e=>h22 ((Ac hlt).2 e)),hb,hsz⟩) (by first|(show s1.size - (i+1)<s1.size - i;omega)|(show(s1.extract (i+1) s1.size).size - 0<s1.size - i;rw [hse];omega))) (hD:=(fun _ h=>by cases h))
 have hie:i=s1.size:=by omega
 refine rO 8 Z (zM cX Z Z Z Z Z (fun b39=>?_))
 refine zA ?_
 refine cf 1 0 cX (fun A40 c40=>?_)
 refine oK 3 [4] Z Z (wP 1 (acc++[s1]) Z aG (by rw [hxs,List.map_append];rfl) (fun p hp=>(List.mem_append.1 hp).elim (hsz p) (fun e=>by rw [List.mem_singleton.1 e];unfold maxLen;omega)) ?_)
 exact zE Tryz.results168 Z ⟨rfl,_,_,acc++[s1],by rw [List.length_append,←hn];rfl,rfl,hK0.done (fun j hj=>hno j hj aC)⟩ nS (cS 0 Z)
end Go.Jw

namespace Go.Jw
open Go Go.RowKit
theorem Et{s:ByteArray}(h:sj s){c:UInt8}(hc:c∈bl s):H1 c:=by
 obtain⟨j,hj⟩:=List.getElem?_of_mem hc
 have hs:j<s.size:=by
  have:=(List.getElem?_eq_some_iff.1 hj).1
  rwa [pH]at this
 rw [oI s j hs]at hj
 injection hj with hj
 rw [←hj]
 exact h.1 j hs
theorem JW{c:UInt8}(h:H1 c):c≠35∧c≠47:=by
 constructor
 ·intro e;subst e;unfold H1 at h;revert h;decide
 ·intro e;subst e;unfold H1 at h;revert h;decide
theorem JX{ref base part:ByteArray}(h:JV ref base part):bl ref=bl base++47::(bl part++47::bl (oZ ref base part)):=by
 have h1:(bl ref).take (CH base part).size=bl (CH base part):=by
  have:=congrArg bl h.2.1
  rw [rF,List.drop_zero]at this
  exact this
 have h2:(bl ref).drop (CH base part).size=bl (oZ ref base part):=by
  unfold oZ
  rw [rF,←pH ref,List.take_length]
 have h3:bl (CH base part)=bl base++[47]++bl part++[47]:=by
  unfold CH
  rw [gQ,gQ,gQ]
 rw [←List.take_append_drop (CH base part).size (bl ref),h1,h2,h3]
 simp
theorem Bv{ref base part p0:ByteArray}(hm:JV ref base part)(hb:bl base=bl p0++[35])(h0:(35:UInt8)∉bl p0)(hpt:part=kDefs∨part=kProps):
    ∃rest:ByteArray,(∀ l,vp 35 ref l→l=[p0,rest])∧(∀ l,vp 47 rest l→l=[⟨#[]⟩,part,oZ ref base part])∧rest.size≤ref.size:=by
  have e:=JX hm
  have hn: ∀ c∈bl (oZ ref base part),c≠35∧c≠47:=fun c hc=>JW (Et hm.2.2 hc)
  have hp: ∀ c∈bl part,c≠35∧c≠47:=by
    rcases hpt with rfl|rfl
    · decide
    · decide
  refine⟨⟨(47::(bl part++47::bl (oZ ref base part))).toArray⟩,fun l hl=>?_,fun l hl=>?_,?_⟩
  · refine Gk hl ?_ h0 ?_
    · rw [e,hb];simp
    · intro hc
      have hc':(35:UInt8)∈47::(bl part++47::bl (oZ ref base part)):=by simpa using hc
      rcases List.mem_cons.1 hc' with h|h
      · revert h;decide
      · rcases List.mem_append.1 h with h|h
        · exact(hp _ h).1 Z
        · rcases List.mem_cons.1 h with h|h
          · revert h;decide
          · exact(hn _ h).1 Z
  · refine Bu hl ?_ aE (fun h=>(hp _ h).2 Z) (fun h=>(hn _ h).2 Z)
    simp
  · have h1:=congrArg List.length e
    rw [pH]at h1
    have h2:(⟨(47::(bl part++47::bl (oZ ref base part))).toArray⟩:ByteArray).size=(47::(bl part++47::bl (oZ ref base part))).length:=by
      rw [←pH]
    rw [h2]
    simp only [List.length_append,List.length_cons]at h1⊢
    omega
def Ls(s:ByteArray):Prop:=2≤s.size∧(∀ h:s.size - 1<s.size,s[s.size - 1]=35)∧ ∀ j (h:j<s.size),j<s.size - 1→s[j]≠35
theorem yr{s:ByteArray}(h:Ls s):bl s=bl (s.extract 0 (s.size - 1))++[35]∧(35:UInt8)∉bl (s.extract 0 (s.size - 1)):=by
 obtain⟨h1,h2,h3⟩:=h
 have hlt:s.size - 1<s.size:=by omega
 rw [rF,List.drop_zero]
 refine⟨?_,gn h3⟩
 have hg:(bl s)[s.size - 1]? =some 35:=by rw [oI s _ hlt,h2 hlt]
 have hl:(bl s).drop (s.size - 1)=[35]:=by
  have hlen:s.size - 1<(bl s).length:=by rw [pH];exact hlt
  rw [List.drop_eq_getElem_cons hlen]
  rw [List.getElem?_eq_getElem hlen]at hg
  injection hg with hg
  rw [hg,List.drop_eq_nil_of_le (by rw [pH];omega)]
 conv=>lhs;rw [←List.take_append_drop (s.size - 1) (bl s),hl]
theorem Eu{p0 base:ByteArray}(h:bl base=bl p0++[35]):p0++kHash=base:=sn (by rw [gQ,h])
end Go.Jw

namespace Go.Jw
open Go Go.RowKit Go.Proofs
set_option maxRecDepth 8000

section rules
variable {P:Program} {n:Nat} {F:List Nat} {c:Ctx F} {ops:Array Oper} {d:Nat} {T:TypeId} {l:List Oper} {k:List KI} {Q:Post} {e:dI} {M:List HA} {D:List DA}
theorem vq{w:World}{mty kt et:TypeId}{r ck:Nat}{s:ByteArray}{v:Value}(hm:P.underlying mty=some (.map kt et))(hk:P.underlying kt=some .string)(hb:w.heap[r]? =some (.map #[{key:= .string s,val:=v,born:=0}] ck)):
  (Instr.lookup mty (.map (some r)) (.string s) false).run P w= .ok v w:=by
 have hc:(Instr.checkKey false 10000 kt (.string s)).run P w= .ok () w:=MapKept.run_checkKey (k:= .string s) hk (by simp [MapKept.IsKey]) false 9999
 have hf:Instr.findNow .string (.string s) [({key:= .string s,val:=v,born:=0}:MapEntry)] 0=some (some (0,v)):=by
  have:(s==s)=true:=(MapKept.bytes_beq s s).2 rfl
  simp [Instr.findNow,Instr.sameNow,this]
 simp [Instr.lookup,run_underlying hm,MapKept.run_getObj_map hb,hc,MapKept.run_findKey hk hf,Result.andThen]
theorem oJ(i:Nat){x y:Operand}{mb ck:Nat}{s:ByteArray}{v:Value}{S kt et:TypeId}(hm:P.underlying S=some (.map kt et))(hk:P.underlying kt=some .string)(hd:Nat.blt d n=true)(hx:ev e x=some (.map (some mb)))(hy:ev e y=some (.string s))
  (hi:M[i]? =some (.obj mb (.map #[{key:= .string s,val:=v,born:=0}] ck))) (next:cL P n c ops l k Q ((d,v)::e) M D):cR P n c ops (some d) (.lookup S x y false) T l k Q e M D:=by
 refine xW hd (fun a w hf=>?_) next
 have hb:w.heap[mb]? =some (.map #[{key:= .string s,val:=v,born:=0}] ck):=hf.toFitsW.mem hi
 simp only [execOp,dM,hf.ev hx,hf.ev hy,Sem.run_bind,vq hm hk hb,Result.andThen_ok,Sem.run_pure]
end rules
def FndO(l:List (ByteArray×Nat))(name:ByteArray):Option Nat→Prop
  |some b=> ∃q∈l,q.1=name∧q.2=b
  |none=> ∀ q∈l,q.1≠name
theorem FndO.hit{l:List (ByteArray×Nat)}{name:ByteArray}{i:Nat}(h:i<l.length)(he:l[i].1=name):FndO (l.take (i+1)) name (some l[i].2):=by
 refine⟨l[i],?_,he,rfl⟩
 rw [List.take_add_one,List.getElem?_eq_getElem h]
 exact List.mem_append_right _ List.mem_cons_self
theorem FndO.miss{l:List (ByteArray×Nat)}{name:ByteArray}{o:Option Nat}{i:Nat}(h:i<l.length)(he: ¬ l[i].1=name)(hf:FndO (l.take i) name o):FndO (l.take (i+1)) name o:=by
  have e:l.take (i+1)=l.take i++[l[i]]:=by rw [List.take_add_one,List.getElem?_eq_getElem h];rfl
  rw [e]
  cases o with
  |some b=>
    obtain⟨q,hq,h1,h2⟩:=hf
    exact⟨q,List.mem_append_left _ hq,h1,h2⟩
  |none=>
    intro q hq
    rcases List.mem_append.1 hq with hq|hq
    · exact hf q hq
    · rw [List.mem_singleton.1 hq];exact he

theorem Gm(s:ByteArray):CtR Tryz.prog 169 #[.string s] [] (fun u D'=> ∃S v,u= .iface S v∧D'=[]):=by
 refine Ct.of_run (args:=[.string s]) Tryz.func169 aF Z Tryz.ntmps169 Z (fun c=>?_)
 refine rO 10 Z (yX Z Z (F9 ..) ?_)
 refine zA (yK Z Z Z (fun b5=>?_))
 refine zA (kf aF Z Z ?_)
 refine oR 3 Z ?_
 exact zE Tryz.results169 Z ⟨rfl,_,_,rfl,rfl⟩ nS (fun _ h=>by cases h)
theorem Lt(mb b ck:Nat)(G:Gr)(cs:List Value)(f:Flds)(idt ref p0 rest part name:ByteArray)(l:List (ByteArray×Nat))(hm:(b,cs,f)∈G)(hid:f 2=some (.text idt))(hr1:ref.size≤2147483648)(hr2:rest.size≤2147483648)(hp0:p0.size≤1000)(hsp: ∀ l,vp 35 ref l→l=[p0,rest])(hsp2: ∀ l,vp 47 rest l→l=[⟨#[]⟩,part,name])(hpt:part=kDefs∨part=kProps)(hdef:part=kDefs→f 32=some (.named l))(hprop:part=kProps→f 23=some (.named l))(hbe:p0++(⟨#[35]⟩:ByteArray)=⟨#[35]⟩):Ct Tryz.prog 114 #[cW b, .string ref] [.many 124 (Gr.blks G),HA.obj mb (.map #[{key:= .string idt,val:=cW b,born:=0}] ck)] [.graph mb G] (fun u M' D'=>M'=[.many 124 (Gr.blks G),HA.obj mb (.map #[{key:= .string idt,val:=cW b,born:=0}] ck)]∧D'=[.graph mb G]∧ ∃o er,u= .tuple #[oP o,er]∧FndO l name o∧((o.isSome=true∧er= .nilIface)∨(o=none∧ ∃S v,er= .iface S v))):=by
 refine Ct.of_run (args:=[cW b, .string ref]) Tryz.func114 aF Z Tryz.ntmps114 Z (fun c=>?_)
 refine vY (p:=cs[0]? =some (.map (some mb))) (fun w ok h=>((dget h 0 Z:(DA.graph mb G).p w ok) _ hm).2.1) (fun hc0=>?_)
 refine xU 0 2 Z hm aE aE (fun p2 hc2 hp2=>?_)
 refine vQ 0 2 Z hm aE aE hc2 hid (gH 0 Z (fun pt hpt2 hsz2=>?_))
 cases hpt2
 refine rO 12 Z (zT Z Z Z (Gl ref 35 hr1) cZ (fun u18 D18 hv18=>?_))
 obtain⟨A18,c18,l18,rfl,rfl,hl18⟩:=hv18
 obtain rfl:=hsp _ hl18
 refine oO 9 Z (yA cX Z Z ?_)
 refine oO 9 Z (xP (i:=0) 0 cX Z Z Z Z aJ ?_)
 refine zA (yH dK Z Z (fun _ h=>xF h (j:=0) (i:=0) Z Z) ?_)
 refine zA (jq Z Z Z (by show p0.size+1≤_;omega) ?_)
 rw [hbe]
 refine oK 3 [7,6,4,0] Z Z (rS 9 Z ?_)
 refine fi (s:=28) Z (rfl) (oO 5 Z ?_)
 refine zC fO Z Z (zI Z Z ?_)
 refine yY 0 dP Z Z Z (xE hm) (by rw [Nat.zero_add];exact hc2) (zI Z Z ?_)
 refine yI dc Z Z (oO 10 Z ?_)
 refine zC fO Z Z (zA ?_)
 refine yY 0 dP Z Z Z (xE hm) (by rw [Nat.zero_add];exact hc2) (oO 3 Z ?_)
 refine yW 1 dK Z Z Z (oK 3 [7,6,4,0] Z Z ?_)
 refine rO 5 Z (xP (i:=1) 0 cX Z Z Z Z aJ ?_)
 refine zA (yH dK Z Z (fun _ h=>xF h (j:=0) (i:=1) Z Z) ?_)
 refine oO 10 Z (zC fN Z Z ?_)
 refine zA (yY 0 lm Z Z Z (xE hm) (by rw [Nat.zero_add];exact hc0) ?_)
 refine oO 3 Z (oJ 1 zz eh Z Z Z Z ?_)
 refine oK 3 [9,8,4] Z Z (rO 5 Z ?_)
 refine zT Z Z Z (Gl rest 47 hr2) cZ (fun u51 D51 hv51=>?_)
 obtain⟨A51,c51,l51,rfl,rfl,hl51⟩:=hv51
 obtain rfl:=hsp2 _ hl51
 refine oO 8 Z (yA cX Z Z ?_)
 refine oO 9 Z (yA cX Z Z ?_)
 refine oO 9 Z (xP (i:=1) 0 cX Z Z Z Z aJ ?_)
 refine zA (yH dK Z Z (fun _ h=>xF h (j:=0) (i:=1) Z Z) ?_)
 refine oK 1 [61,10,9,4] Z Z (rR 8 Z ?_)
 refine zN Z (fun h62=>?_) (fun h62=>?_)
 ·refine xU 4 32 Z hm aE aE (fun pq hcq hpq=>?_)
  refine vQ 4 32 Z hm aE aE hcq (hdef h62) (rP 0 Z (fun pl sl nbs hu=>?_))
  cases hu
  refine vU 1 Z (fun A1 c1 hx hk1 hk2=>?_)
  subst hx
  refine sH 2 Z (fun hnl=>?_)
  unfold maxLen at hk2
  refine rO 7 Z (zC qZ Z Z ?_)
  refine zA (yY 0 eB Z Z Z (xE hm) bP ?_)
  refine oO 10 Z (yW 0 ju Z Z Z ?_)
  refine zA (yA eA Z Z ?_)
  refine oK 3 [72,71,70,10,4] Z Z (rK 1 [72,4,71,70,10] Z Z ?_)
  refine xJ 2 (fun(⟨i,o⟩:Nat×Option Nat)=>i≤nbs.length∧FndO (l.take i) name o) (fun(⟨i,o⟩:Nat×Option Nat)=>[(72, .int .i64 ((i:Nat):Int)),(4,oP o)]) (fun(⟨i,o⟩:Nat×Option Nat)=>nbs.length - i) (0,none) (⟨Nat.zero_le _,fun q hq=>by cases hq⟩) (eC Z (eC Z (eN _))) ?_ (eC Z (eC Z (eC Z (eN _))))
  intro ⟨i,o⟩ hI K hK
  change Run _ _ _ _ _ [(72,_),(4,_),(71,_),(70,_),(10,_)] (_) (_)
  obtain⟨hi,hF⟩:=hI
  refine rO 3 Z (yJ Z Z Z ?_)
  refine oR 2 Z (zN Z (fun h73=>?_) (fun h73=>?_))
  ·refine rO 6 Z ?_
   have hlt:i<nbs.length:=h73
   have hll:i<l.length:=by omega
   refine wT 1 eA Z Z Z Z hlt (fV 2 i Z (List.getElem?_eq_getElem hll) (List.getElem?_eq_getElem hlt) (fun hks=>?_))
   refine zA (yH lq Z Z (fun _ h=>vJ h (j:=2) Z (List.getElem?_eq_getElem hlt)) ?_)
   refine oR 4 Z (yO yE ?_)
   refine zR (tP 0 Z cK (zZ Z) ?_)
   refine tP 1 Z cK (xA Z) (tP 2 Z cK (zY kH Z) ?_)
   refine tP 4 Z cK (zZ Z) (yF ?_)
   refine tM 3 Z cK (uI 0 dK Z Z Z) (tM 5 Z cK (sC (i:=2) 5 cX Z Z Z aJ) ?_)
   refine tM 6 Z cK (wV dK Z (fun _ h=>xF h (j:=5) (i:=2) Z Z)) (tM 7 Z cK (fJ Z Z) ?_)
   refine yG aD (rK 0 [83,13,72,4,71,70,10] Z Z ?_)
   refine zN Z (fun h83=>?_) (fun h83=>?_)
   ·refine rO 6 Z (zC fQ Z Z ?_)
    refine zA (zH 0 dx Z Z Z Z ?_)
    refine oO 6 Z (yB Z Z aC ?_)
    refine oR 3 Z ?_
    exact kQ (hK (i+1,some l[i].2) (⟨bc,FndO.hit hll h83⟩) av) (eC Z (eC Z (eC Z (eC Z (eC Z (eN _))))))
   refine rO 4 Z (yB Z Z aC ?_)
   refine oR 3 Z ?_
   exact kQ (hK (i+1,o) (⟨bc,hF.miss hll h83⟩) av) (eC Z (eC Z (eC Z (eC Z (eC Z (eN _))))))
  obtain rfl:i=nbs.length:=by omega
  rw [hnl,List.take_length]at hF
  refine rO 8 Z (sP iC Z Z ?_)
  refine zX (zW Z (fun h117=>?_) (fun h117=>?_))
  ·refine rO 3 Z (zT Z Z Z (Gm _) cZ (fun u118 D118 hv118=>?_))
   refine oR 5 Z ?_
   obtain⟨S9,v9,rfl,rfl⟩:=hv118
   obtain rfl:o=none:=by cases o with|none=>rfl|some q=>cases h117
   exact vL Tryz.results114 Z Z ⟨rfl,rfl,none,_,rfl,hF, .inr ⟨rfl,S9,v9,rfl⟩⟩ (List.Sublist.refl _) aA
  refine rR 10 Z ?_
  obtain⟨q,rfl⟩: ∃q,o=some q:=by cases o with|none=>cases h117|some q=>exact⟨q,rfl⟩
  exact vL Tryz.results114 Z Z ⟨rfl,rfl,some q,_,rfl,hF, .inl ⟨rfl,rfl⟩⟩ (List.Sublist.refl _) aA
 refine xU 4 23 Z hm aE aE (fun pq hcq hpq=>?_)
 refine vQ 4 23 Z hm aE aE hcq (hprop (hpt.resolve_left h62)) (rP 0 Z (fun pl sl nbs hu=>?_))
 cases hu
 refine vU 1 Z (fun A1 c1 hx hk1 hk2=>?_)
 subst hx
 refine sH 2 Z (fun hnl=>?_)
 unfold maxLen at hk2
 refine rR 7 Z (vF Z (decide_eq_true (hpt.resolve_left h62)) ?_)
 refine rO 7 Z (zC qX Z Z ?_)
 refine zA (yY 0 eB Z Z Z (xE hm) bP ?_)
 refine oK 3 [14,10,4] Z Z (rO 7 Z ?_)
 refine yW 0 ju Z Z Z (zA ?_)
 refine yA eA Z Z (oK 4 [99,4,98,97,10] Z Z ?_)
 refine xJ 2 (fun(⟨i,o⟩:Nat×Option Nat)=>i≤nbs.length∧FndO (l.take i) name o) (fun(⟨i,o⟩:Nat×Option Nat)=>[(99, .int .i64 ((i:Nat):Int)),(4,oP o)]) (fun(⟨i,o⟩:Nat×Option Nat)=>nbs.length - i) (0,none) (⟨Nat.zero_le _,fun q hq=>by cases hq⟩) (eC Z (eC Z (eN _))) ?_ (eC Z (eC Z (eC Z (eN _))))
 intro ⟨i,o⟩ hI K hK1
 change Run _ _ _ _ _ [(99,_),(4,_),(98,_),(97,_),(10,_)] (_) (_)
 obtain⟨hi,hF⟩:=hI
 refine rO 3 Z (yJ Z Z Z ?_)
 refine oR 2 Z (zN Z (fun h100=>?_) (fun h100=>?_))
 ·refine rO 6 Z ?_
  have hlt:i<nbs.length:=h100
  have hll:i<l.length:=by omega
  refine wT 1 eA Z Z Z Z hlt (fV 2 i Z (List.getElem?_eq_getElem hll) (List.getElem?_eq_getElem hlt) (fun hks=>?_))
  refine zA (yH lq Z Z (fun _ h=>vJ h (j:=2) Z (List.getElem?_eq_getElem hlt)) ?_)
  refine oR 4 Z (yO yE ?_)
  refine zR (tP 0 Z cK (zZ Z) ?_)
  refine tP 1 Z cK (xA Z) (tP 2 Z cK (zY kH Z) ?_)
  refine tP 4 Z cK (zZ Z) (yF ?_)
  refine tM 3 Z cK (uI 0 dK Z Z Z) (tM 5 Z cK (sC (i:=2) 5 cX Z Z Z aJ) ?_)
  refine tM 6 Z cK (wV dK Z (fun _ h=>xF h (j:=5) (i:=2) Z Z)) (tM 7 Z cK (fJ Z Z) ?_)
  refine yG aD (rK 0 [110,16,99,4,98,97,10] Z Z ?_)
  refine zN Z (fun h110=>?_) (fun h110=>?_)
  ·refine rO 6 Z (zC fQ Z Z ?_)
   refine zA (zH 0 dx Z Z Z Z ?_)
   refine oO 6 Z (yB Z Z aC ?_)
   refine oR 3 Z ?_
   exact kQ (hK1 (i+1,some l[i].2) (⟨bc,FndO.hit hll h110⟩) av) (eC Z (eC Z (eC Z (eC Z (eC Z (eN _))))))
  refine rO 4 Z (yB Z Z aC ?_)
  refine oR 3 Z ?_
  exact kQ (hK1 (i+1,o) (⟨bc,hF.miss hll h110⟩) av) (eC Z (eC Z (eC Z (eC Z (eC Z (eN _))))))
 obtain rfl:i=nbs.length:=by omega
 rw [hnl,List.take_length]at hF
 refine rO 8 Z (sP iC Z Z ?_)
 refine zX (zW Z (fun h117=>?_) (fun h117=>?_))
 ·refine rO 3 Z (zT Z Z Z (Gm _) cZ (fun u118 D118 hv118=>?_))
  refine oR 5 Z ?_
  obtain⟨S9,v9,rfl,rfl⟩:=hv118
  obtain rfl:o=none:=by cases o with|none=>rfl|some q=>cases h117
  exact vL Tryz.results114 Z Z ⟨rfl,rfl,none,_,rfl,hF, .inr ⟨rfl,S9,v9,rfl⟩⟩ (List.Sublist.refl _) aA
 refine rR 10 Z ?_
 obtain⟨q,rfl⟩: ∃q,o=some q:=by cases o with|none=>cases h117|some q=>exact⟨q,rfl⟩
 exact vL Tryz.results114 Z Z ⟨rfl,rfl,some q,_,rfl,hF, .inl ⟨rfl,rfl⟩⟩ (List.Sublist.refl _) aA
theorem Lu(mb b ck:Nat)(G:Gr)(cs:List Value)(f:Flds)(idt ref p0 rest part name:ByteArray)(l:List (ByteArray×Nat))(hm:(b,cs,f)∈G)(hid:f 2=some (.text idt))(hr1:ref.size≤2147483648)(hr2:rest.size≤2147483648)(hp0:p0.size≤1000)(hsp: ∀ l,vp 35 ref l→l=[p0,rest])(hsp2: ∀ l,vp 47 rest l→l=[⟨#[]⟩,part,name])(hpt:part=kDefs∨part=kProps)(hdef:part=kDefs→f 32=some (.named l))(hprop:part=kProps→f 23=some (.named l))(hbe:p0++(⟨#[35]⟩:ByteArray)=idt)(hne: ¬ idt=(⟨#[35]⟩:ByteArray)):Ct Tryz.prog 114 #[cW b, .string ref] [.many 124 (Gr.blks G),HA.obj mb (.map #[{key:= .string idt,val:=cW b,born:=0}] ck)] [.graph mb G] (fun u M' D'=>M'=[.many 124 (Gr.blks G),HA.obj mb (.map #[{key:= .string idt,val:=cW b,born:=0}] ck)]∧D'=[.graph mb G]∧ ∃o er,u= .tuple #[oP o,er]∧FndO l name o∧((o.isSome=true∧er= .nilIface)∨(o=none∧ ∃S v,er= .iface S v))):=by
 refine Ct.of_run (args:=[cW b, .string ref]) Tryz.func114 aF Z Tryz.ntmps114 Z (fun c=>?_)
 refine vY (p:=cs[0]? =some (.map (some mb))) (fun w ok h=>((dget h 0 Z:(DA.graph mb G).p w ok) _ hm).2.1) (fun hc0=>?_)
 refine xU 0 2 Z hm aE aE (fun p2 hc2 hp2=>?_)
 refine vQ 0 2 Z hm aE aE hc2 hid (gH 0 Z (fun pt hpt2 hsz2=>?_))
 cases hpt2
 refine rO 12 Z (zT Z Z Z (Gl ref 35 hr1) cZ (fun u18 D18 hv18=>?_))
 obtain⟨A18,c18,l18,rfl,rfl,hl18⟩:=hv18
 obtain rfl:=hsp _ hl18
 refine oO 9 Z (yA cX Z Z ?_)
 refine oO 9 Z (xP (i:=0) 0 cX Z Z Z Z aJ ?_)
 refine zA (yH dK Z Z (fun _ h=>xF h (j:=0) (i:=0) Z Z) ?_)
 refine zA (jq Z Z Z (by show p0.size+1≤_;omega) ?_)
 rw [hbe]
 refine oK 3 [7,6,4,0] Z Z (rS 9 Z ?_)
 refine vM (s:=28) Z (decide_eq_false hne) (oO 15 Z ?_)
 refine xP (i:=1) 0 cX Z Z Z Z aJ (zA ?_)
 refine yH dK Z Z (fun _ h=>xF h (j:=0) (i:=1) Z Z) (oK 3 [8,7,4,0] Z Z ?_)
 refine rO 7 Z (zC fN Z Z ?_)
 refine zA (yY 0 lm Z Z Z (xE hm) (by rw [Nat.zero_add];exact hc0) ?_)
 refine oO 3 Z (oJ 1 zz eh Z Z Z Z ?_)
 refine oO 8 Z (zT Z Z Z (Gl rest 47 hr2) cZ (fun u51 D51 hv51=>?_))
 obtain⟨A51,c51,l51,rfl,rfl,hl51⟩:=hv51
 obtain rfl:=hsp2 _ hl51
 refine oK 3 [10,9,4] Z Z (rO 5 Z ?_)
 refine yA cX Z Z (oO 9 Z ?_)
 refine yA cX Z Z (oO 9 Z ?_)
 refine xP (i:=1) 0 cX Z Z Z Z aJ (zA ?_)
 refine yH dK Z Z (fun _ h=>xF h (j:=0) (i:=1) Z Z) (oK 9 [62,61,10,9,4] Z Z ?_)
 refine zN Z (fun h62=>?_) (fun h62=>?_)
 ·refine xU 4 32 Z hm aE aE (fun pq hcq hpq=>?_)
  refine vQ 4 32 Z hm aE aE hcq (hdef h62) (rP 0 Z (fun pl sl nbs hu=>?_))
  cases hu
  refine vU 1 Z (fun A1 c1 hx hk1 hk2=>?_)
  subst hx
  refine sH 2 Z (fun hnl=>?_)
  unfold maxLen at hk2
  refine rO 7 Z (zC qZ Z Z ?_)
  refine zA (yY 0 eB Z Z Z (xE hm) bP ?_)
  refine oO 10 Z (yW 0 ju Z Z Z ?_)
  refine zA (yA eA Z Z ?_)
  refine oK 3 [72,71,70,10,4] Z Z (rK 1 [72,4,71,70,10] Z Z ?_)
  refine xJ 2 (fun(⟨i,o⟩:Nat×Option Nat)=>i≤nbs.length∧FndO (l.take i) name o) (fun(⟨i,o⟩:Nat×Option Nat)=>[(72, .int .i64 ((i:Nat):Int)),(4,oP o)]) (fun(⟨i,o⟩:Nat×Option Nat)=>nbs.length - i) (0,none) (⟨Nat.zero_le _,fun q hq=>by cases hq⟩) (eC Z (eC Z (eN _))) ?_ (eC Z (eC Z (eC Z (eN _))))
  intro ⟨i,o⟩ hI K hK
  change Run _ _ _ _ _ [(72,_),(4,_),(71,_),(70,_),(10,_)] (_) (_)
  obtain⟨hi,hF⟩:=hI
  refine rO 3 Z (yJ Z Z Z ?_)
  refine oR 2 Z (zN Z (fun h73=>?_) (fun h73=>?_))
  ·refine rO 6 Z ?_
   have hlt:i<nbs.length:=h73
   have hll:i<l.length:=by omega
   refine wT 1 eA Z Z Z Z hlt (fV 2 i Z (List.getElem?_eq_getElem hll) (List.getElem?_eq_getElem hlt) (fun hks=>?_))
   refine zA (yH lq Z Z (fun _ h=>vJ h (j:=2) Z (List.getElem?_eq_getElem hlt)) ?_)
   refine oR 4 Z (yO yE ?_)
   refine zR (tP 0 Z cK (zZ Z) ?_)
   refine tP 1 Z cK (xA Z) (tP 2 Z cK (zY kH Z) ?_)
   refine tP 4 Z cK (zZ Z) (yF ?_)
   refine tM 3 Z cK (uI 0 dK Z Z Z) (tM 5 Z cK (sC (i:=2) 5 cX Z Z Z aJ) ?_)
   refine tM 6 Z cK (wV dK Z (fun _ h=>xF h (j:=5) (i:=2) Z Z)) (tM 7 Z cK (fJ Z Z) ?_)
   refine yG aD (rK 0 [83,13,72,4,71,70,10] Z Z ?_)
   refine zN Z (fun h83=>?_) (fun h83=>?_)
   ·refine rO 6 Z (zC fQ Z Z ?_)
    refine zA (zH 0 dx Z Z Z Z ?_)
    refine oO 6 Z (yB Z Z aC ?_)
    refine oR 3 Z ?_
    exact kQ (hK (i+1,some l[i].2) (⟨bc,FndO.hit hll h83⟩) av) (eC Z (eC Z (eC Z (eC Z (eC Z (eN _))))))
   refine rO 4 Z (yB Z Z aC ?_)
   refine oR 3 Z ?_
   exact kQ (hK (i+1,o) (⟨bc,hF.miss hll h83⟩) av) (eC Z (eC Z (eC Z (eC Z (eC Z (eN _))))))
  obtain rfl:i=nbs.length:=by omega
  rw [hnl,List.take_length]at hF
  refine rO 8 Z (sP iC Z Z ?_)
  refine zX (zW Z (fun h117=>?_) (fun h117=>?_))
  ·refine rO 3 Z (zT Z Z Z (Gm _) cZ (fun u118 D118 hv118=>?_))
   refine oR 5 Z ?_
   obtain⟨S9,v9,rfl,rfl⟩:=hv118
   obtain rfl:o=none:=by cases o with|none=>rfl|some q=>cases h117
   exact vL Tryz.results114 Z Z ⟨rfl,rfl,none,_,rfl,hF, .inr ⟨rfl,S9,v9,rfl⟩⟩ (List.Sublist.refl _) aA
  refine rR 10 Z ?_
  obtain⟨q,rfl⟩: ∃q,o=some q:=by cases o with|none=>cases h117|some q=>exact⟨q,rfl⟩
  exact vL Tryz.results114 Z Z ⟨rfl,rfl,some q,_,rfl,hF, .inl ⟨rfl,rfl⟩⟩ (List.Sublist.refl _) aA
 refine xU 4 23 Z hm aE aE (fun pq hcq hpq=>?_)
 refine vQ 4 23 Z hm aE aE hcq (hprop (hpt.resolve_left h62)) (rP 0 Z (fun pl sl nbs hu=>?_))
 cases hu
 refine vU 1 Z (fun A1 c1 hx hk1 hk2=>?_)
 subst hx
 refine sH 2 Z (fun hnl=>?_)
 unfold maxLen at hk2
 refine rR 7 Z (vF Z (decide_eq_true (hpt.resolve_left h62)) ?_)
 refine rO 7 Z (zC qX Z Z ?_)
 refine zA (yY 0 eB Z Z Z (xE hm) bP ?_)
 refine oK 3 [14,10,4] Z Z (rO 7 Z ?_)
 refine yW 0 ju Z Z Z (zA ?_)
 refine yA eA Z Z (oK 4 [99,4,98,97,10] Z Z ?_)
 refine xJ 2 (fun(⟨i,o⟩:Nat×Option Nat)=>i≤nbs.length∧FndO (l.take i) name o) (fun(⟨i,o⟩:Nat×Option Nat)=>[(99, .int .i64 ((i:Nat):Int)),(4,oP o)]) (fun(⟨i,o⟩:Nat×Option Nat)=>nbs.length - i) (0,none) (⟨Nat.zero_le _,fun q hq=>by cases hq⟩) (eC Z (eC Z (eN _))) ?_ (eC Z (eC Z (eC Z (eN _))))
 intro ⟨i,o⟩ hI K hK1
 change Run _ _ _ _ _ [(99,_),(4,_),(98,_),(97,_),(10,_)] (_) (_)
 obtain⟨hi,hF⟩:=hI
 refine rO 3 Z (yJ Z Z Z ?_)
 refine oR 2 Z (zN Z (fun h100=>?_) (fun h100=>?_))
 ·refine rO 6 Z ?_
  have hlt:i<nbs.length:=h100
  have hll:i<l.length:=by omega
  refine wT 1 eA Z Z Z Z hlt (fV 2 i Z (List.getElem?_eq_getElem hll) (List.getElem?_eq_getElem hlt) (fun hks=>?_))
  refine zA (yH lq Z Z (fun _ h=>vJ h (j:=2) Z (List.getElem?_eq_getElem hlt)) ?_)
  refine oR 4 Z (yO yE ?_)
  refine zR (tP 0 Z cK (zZ Z) ?_)
  refine tP 1 Z cK (xA Z) (tP 2 Z cK (zY kH Z) ?_)
  refine tP 4 Z cK (zZ Z) (yF ?_)
  refine tM 3 Z cK (uI 0 dK Z Z Z) (tM 5 Z cK (sC (i:=2) 5 cX Z Z Z aJ) ?_)
  refine tM 6 Z cK (wV dK Z (fun _ h=>xF h (j:=5) (i:=2) Z Z)) (tM 7 Z cK (fJ Z Z) ?_)
  refine yG aD (rK 0 [110,16,99,4,98,97,10] Z Z ?_)
  refine zN Z (fun h110=>?_) (fun h110=>?_)
  ·refine rO 6 Z (zC fQ Z Z ?_)
   refine zA (zH 0 dx Z Z Z Z ?_)
   refine oO 6 Z (yB Z Z aC ?_)
   refine oR 3 Z ?_
   exact kQ (hK1 (i+1,some l[i].2) (⟨bc,FndO.hit hll h110⟩) av) (eC Z (eC Z (eC Z (eC Z (eC Z (eN _))))))
  refine rO 4 Z (yB Z Z aC ?_)
  refine oR 3 Z ?_
  exact kQ (hK1 (i+1,o) (⟨bc,hF.miss hll h110⟩) av) (eC Z (eC Z (eC Z (eC Z (eC Z (eN _))))))
 obtain rfl:i=nbs.length:=by omega
 rw [hnl,List.take_length]at hF
 refine rO 8 Z (sP iC Z Z ?_)
 refine zX (zW Z (fun h117=>?_) (fun h117=>?_))
 ·refine rO 3 Z (zT Z Z Z (Gm _) cZ (fun u118 D118 hv118=>?_))
  refine oR 5 Z ?_
  obtain⟨S9,v9,rfl,rfl⟩:=hv118
  obtain rfl:o=none:=by cases o with|none=>rfl|some q=>cases h117
  exact vL Tryz.results114 Z Z ⟨rfl,rfl,none,_,rfl,hF, .inr ⟨rfl,S9,v9,rfl⟩⟩ (List.Sublist.refl _) aA
 refine rR 10 Z ?_
 obtain⟨q,rfl⟩: ∃q,o=some q:=by cases o with|none=>cases h117|some q=>exact⟨q,rfl⟩
 exact vL Tryz.results114 Z Z ⟨rfl,rfl,some q,_,rfl,hF, .inl ⟨rfl,rfl⟩⟩ (List.Sublist.refl _) aA
end Go.Jw

namespace Go.Jw
open Go Go.RowKit Go.Proofs
theorem JY{U:Nat→V→Prop}{v idv:V}{f:Flds}(h:FldRel U v 2 (f 2))(hg:getV v kId=some idv):f 2=some (.text idv.text):=by
  cases hf:f 2 with
  |none=>rw [hf]at h;have:=h kId aD;rw [this]at hg;cases hg
  |some fv=>
    rw [hf]at h
    obtain⟨key,x,hk,hx,hr⟩:=h
    obtain rfl:=Bk hk kId aD aE
    rw [hx]at hg
    cases hg
    rw [jB hr]
theorem Ad{U:Nat→V→Prop}{v x:V}{f:Flds}{key:ByteArray}{q:Nat}(h:FldRel U v q (f q))(hk:kwIdx key=q)(h0:q≠0)(h9:shIdx q=9)(hg:getV v key=some x): ∃l ps,f q=some (.named l)∧ps.Perm (x.keys.zip x.items)∧All2 (fun(q:ByteArray×Nat) (p:ByteArray×V)=>q.1=p.1∧U q.2 p.2) l ps:=by
  cases hf:f q with
  |none=>rw [hf]at h;have:=h key hk;rw [this]at hg;cases hg
  |some fv=>
    rw [hf]at h
    obtain⟨key',x',hk',hx,hr⟩:=h
    obtain rfl:=Bk hk' key hk h0
    rw [hx]at hg
    cases hg
    rw [h9]at hr
    obtain⟨l,ps,rfl,h1,h2⟩:=EK hr
    exact⟨l,ps,rfl,h1,h2⟩
theorem vr{v:V}(h: ∀ z∈kidsV v,eW z):pc v:=fun j k u hk hu z hz=>h z (by
 unfold kidsV
 rw [List.mem_flatMap]
 refine⟨(k,u),?_,hz⟩
 have:(v.keys.zip v.items)[j]? =some (k,u):=by rw [List.getElem?_zip_eq_some];exact⟨hk,hu⟩
 exact List.mem_of_getElem? this)
theorem Bw(v:V):cn (fun z=> ¬ Er z) v→eW v:=by
  refine V.indS (p:=fun v=>cn (fun z=> ¬ Er z) v→eW v) (fun v IH h=>?_) v
  obtain⟨h1,h2⟩:=(wG _ _).1 h
  refine(noId_iff v).2 ⟨?_,vr fun z hz=>IH z (wL hz) (h2 z hz)⟩
  cases hg:getV v kId with
  |none=>rfl
  |some a=>exact absurd (.inl (by rw [hg];rfl)) h1
theorem Bx{v:V}(h:IsRootV v):pc v:=vr fun z hz=>Bw z (h.2.2.2 z hz)
theorem Ae{v:V}(h:IsRootV v): ∃idv,getV v kId=some idv∧Ls idv.text:=by
  cases hg:getV v kId with
  |none=>have:=h.1;unfold iD at this;rw [hg]at this;exact absurd this aE
  |some idv=>
    have e:iD v=idv.text:=by unfold iD;rw [hg];rfl
    refine⟨idv,rfl,?_⟩
    have h1:=h.1;have h2:=h.2.1;have h3:=h.2.2.1
    rw [e]at h1 h2 h3
    exact⟨h1,h2,h3⟩
theorem vt{v:V}(hs:IsShape v)(hp:Pl v):iD (cO v)=iD v:=by
  unfold iD
  rw [sI hs hp,if_pos aD]
  cases getV v kId with
  |none=>rfl
  |some a=>rfl
theorem jK{id ref:ByteArray}{p:ByteArray×ByteArray}(h:eP id ref=some p):JV ref p.1 p.2∧(p.1=kHash∨p.1=id)∧(p.2=kDefs∨p.2=kProps):=by
 have h1:=List.find?_some h
 have h2:=List.mem_of_find?_eq_some h
 refine⟨yT.1 h1,?_⟩
 simp only [oG,List.mem_cons,List.not_mem_nil,or_false]at h2
 rcases h2 with rfl|rfl|rfl|rfl<;>simp
theorem Gn{v:V}{ref:ByteArray}{p:ByteArray×ByteArray}(hp:Pl v)(hr:IsRootV v)(h:eP (iD v) ref=some p): ∃idv p0 rest,getV v kId=some idv∧p0.size≤1000∧rest.size≤ref.size∧(∀ l,vp 35 ref l→l=[p0,rest])∧(∀ l,vp 47 rest l→l=[⟨#[]⟩,p.2,oZ ref p.1 p.2])∧
  (p0++(⟨#[35]⟩:ByteArray)=⟨#[35]⟩∨(p0++(⟨#[35]⟩:ByteArray)=idv.text∧ ¬ idv.text=(⟨#[35]⟩:ByteArray))):=by
 obtain⟨hm,hb,hpt⟩:=jK h
 obtain⟨idv,hid,hok⟩:=Ae hr
 have e:iD v=idv.text:=by unfold iD;rw [hid];rfl
 obtain⟨q1,q2⟩:=yr hok
 obtain⟨p0,e1,e2,e3,e4⟩: ∃p0:ByteArray,bl p.1=bl p0++[35]∧(35:UInt8)∉bl p0∧p0.size≤1000∧(p0++(⟨#[35]⟩:ByteArray)=⟨#[35]⟩∨(p0++(⟨#[35]⟩:ByteArray)=idv.text∧ ¬ idv.text=(⟨#[35]⟩:ByteArray))):=by
  rcases hb with h|h
  ·exact⟨⟨#[]⟩,by rw [h];rfl,by decide,by decide, .inl (sn (by rw [gQ];rfl))⟩
  ·rw [e]at h
   refine⟨idv.text.extract 0 (idv.text.size - 1),by rw [h];exact q1,q2,?_, .inr ⟨Eu q1,fun e=>?_⟩⟩
   ·have:=me (hp.item _ (uU hid))
    rw [ByteArray.size_extract]
    omega
   ·have:=hok.1
    rw [e]at this
    exact absurd this aE
 obtain⟨rest,h1,h2,h3⟩:=Bv hm e1 e2 hpt
 exact⟨idv,p0,rest,hid,e3,h3,h1,h2,e4⟩
theorem JZ{U:Nat→V→Prop}{v x:V}{f:Flds}{part:ByteArray}(h: ∀ i,1≤i→i≤36→FldRel U v i (f i))(hpt:part=kDefs∨part=kProps)(hx:getV v part=some x): ∃l ps,(part=kDefs→f 32=some (.named l))∧(part=kProps→f 23=some (.named l))∧ps.Perm (x.keys.zip x.items)∧All2 (fun(q:ByteArray×Nat) (p:ByteArray×V)=>q.1=p.1∧U q.2 p.2) l ps:=by
  rcases hpt with rfl|rfl
  · obtain⟨l,ps,h1,h2,h3⟩:=Ad (h 32 aE aE) aD aE aE hx
    exact⟨l,ps,fun _=>h1,fun e=>absurd e aE,h2,h3⟩
  · obtain⟨l,ps,h1,h2,h3⟩:=Ad (h 23 aE aE) aD aE aE hx
    exact⟨l,ps,fun e=>absurd e aE,fun _=>h1,h2,h3⟩
theorem H2{part:ByteArray}(h:part=kDefs∨part=kProps):cM part=9:=by
 rcases h with rfl|rfl<;>decide+kernel
end Go.Jw

namespace Go.Jw
open Go Go.RowKit Go.Proofs
set_option maxRecDepth 8000
theorem N6(mb b ck:Nat)(G:Gr)(cs:List Value)(f:Flds)(idt ref p0 rest part name:ByteArray)(l:List (ByteArray×Nat))(hm:(b,cs,f)∈G)(hid:f 2=some (.text idt))(hr1:ref.size≤2147483648)(hr2:rest.size≤2147483648)(hp0:p0.size≤1000)(hsp: ∀ l,vp 35 ref l→l=[p0,rest])(hsp2: ∀ l,vp 47 rest l→l=[⟨#[]⟩,part,name])(hpt:part=kDefs∨part=kProps)(hdef:part=kDefs→f 32=some (.named l))(hprop:part=kProps→f 23=some (.named l))(hcase:p0++(⟨#[35]⟩:ByteArray)=⟨#[35]⟩∨(p0++(⟨#[35]⟩:ByteArray)=idt∧ ¬ idt=(⟨#[35]⟩:ByteArray))):Ct Tryz.prog 114 #[cW b, .string ref] [.many 124 (Gr.blks G),HA.obj mb (.map #[{key:= .string idt,val:=cW b,born:=0}] ck)] [.graph mb G] (fun u M' D'=>M'=[.many 124 (Gr.blks G),HA.obj mb (.map #[{key:= .string idt,val:=cW b,born:=0}] ck)]∧D'=[.graph mb G]∧ ∃o er,u= .tuple #[oP o,er]∧FndO l name o∧((o.isSome=true∧er= .nilIface)∨(o=none∧ ∃S v,er= .iface S v))):=
 hcase.elim (fun h=>Lt mb b ck G cs f idt ref p0 rest part name l hm hid hr1 hr2 hp0 hsp hsp2 hpt hdef hprop h) (fun h=>Lu mb b ck G cs f idt ref p0 rest part name l hm hid hr1 hr2 hp0 hsp hsp2 hpt hdef hprop h.1 h.2)
theorem oL{g:V→V}{v:V}(hw:Wf v):(belowV g v).keys.length≤1000000:=by
 have h:=hw.kl
 show(List.map _ (List.map _ _)).length≤_
 rw [List.length_map,List.length_map,List.length_zip]
 omega
theorem vu{g:V→V}{v:V}(hw:Wf v):(belowV g v).items.length≤1000000:=by
 have h:=hw.il
 show(List.map _ (List.map _ _)).length≤_
 rw [List.length_map,List.length_map,List.length_zip]
 omega
theorem yt{v:V}{key:ByteArray}(h1:v.keys.length≤1000000):(withoutV v key).keys.length≤1000000:=by
 have h2:(withoutV v key).keys.length=((v.keys.zip v.items).filter (fun q=> !decide (q.1=key))).length:=by
  show(List.map _ _).length=_
  rw [List.length_map]
 have h3:=List.length_filter_le (fun q:ByteArray×V=> !decide (q.1=key)) (v.keys.zip v.items)
 rw [List.length_zip]at h3
 omega

theorem N7(f:FuncId)(g:V→V)(t:V)(x:Value)(hw:Wf t)(hlt0:t.keys.length≤t.items.length)(hf: ∀ own,SizeOf.sizeOf own<SizeOf.sizeOf t→Wf own→ ∀ y,CtR Tryz.prog f #[y] [.val y own] (RV (g own))):CtR Tryz.prog 120 #[x, .func (.func f) #[] #[]] [.val x t] (RV (belowV g t)):=by
 refine Ct.of_run (args:=[x, .func (.func f) #[] #[]]) Tryz.func120 aF Z Tryz.ntmps120 Z (fun c=>?_)
 refine yP 0 Z (fun A1 c1 A2 c2 hx hs hk1 hk2 hi1 hi2=>?_)
 subst hx
 unfold maxLen at hi2 hk2
 refine uB 0 Z (fun hksz=>?_)
 have hkl:=hw.kl
 have hil:=hw.il
 have hlen:=hw.le
 refine rO 3 Z (yK Z Z Z (fun b2=>?_))
 refine zA (zS cx Z (fun b4=>?_))
 change cL _ _ _ _ _ _ _ _ (HA.blk _ [_,_,_,_,_] _::_) _
 refine oO 4 Z (yX Z Z (iM ..) ?_)
 refine zA (zS cx Z (fun b5=>?_))
 change cL _ _ _ _ _ _ _ _ (HA.blk _ [_,_,_,_,_] _::_) _
 refine zA (zF 0 (M':=[HA.blk _ [_,_,_,_,_] _,_,_]) Z Z Z Z cY Z Z Z ?_)
 refine oO 5 Z (zC xI Z Z ?_)
 refine zA (zG 2 dN Z Z Z Z ?_)
 refine zA (yA cX Z Z ?_)
 refine oK 4 [12,11,10,5,4,2,1] Z Z (xS 25 5 ?_)
 refine xS 9 1 (tL ?_)
 refine yL 1 (fun(⟨i,nk,Ak,ck,xk,A,ca,xs,ts⟩:Nat×Nat×Option Addr×Nat×List Value×Option Addr×Nat×List Value×List V)=>Kept (fun _=>true) (fun k v=>cQ (cM k) g v) t i nk xk ts) (fun(⟨i,nk,Ak,ck,xk,A,ca,xs,ts⟩:Nat×Nat×Option Addr×Nat×List Value×Option Addr×Nat×List Value×List V)=>[(12, .int .i64 ((i:Nat):Int))]) (fun(⟨i,nk,Ak,ck,xk,A,ca,xs,ts⟩:Nat×Nat×Option Addr×Nat×List Value×Option Addr×Nat×List Value×List V)=>HA.row Ak nk ck 9 1 xk::HA.row A nk ca 25 5 xs::HA.blk b5 [.int .i64 5, .int .i64 0, .string ⟨#[]⟩, .slice Ak nk ck, .slice A nk ca] 25::HA.blk b4 [.int .i64 0, .int .i64 0, .string ⟨#[]⟩, .slice none 0 0, .slice none 0 0] 25::HA.blk b2 [.int .i64 t.kind, .int .i64 t.num, .string t.text, .slice A1 t.keys.length c1, .slice A2 t.items.length c2] 25::[]) (fun(⟨i,nk,Ak,ck,xk,A,ca,xs,ts⟩:Nat×Nat×Option Addr×Nat×List Value×Option Addr×Nat×List Value×List V)=> .its xs ts:: .strs (.slice A1 t.keys.length c1) t.keys:: .vals (.slice A2 t.items.length c2) t.items:: .val (.agg #[.int .i64 t.kind, .int .i64 t.num, .string t.text, .slice A1 t.keys.length c1, .slice A2 t.items.length c2]) t::[]) (fun(⟨i,nk,Ak,ck,xk,A,ca,xs,ts⟩:Nat×Nat×Option Addr×Nat×List Value×Option Addr×Nat×List Value×List V)=>t.keys.length - i) (0,0,none,0,[],none,0,[],[]) (Kept.zero _ _ _) (eC Z (eN _)) Z Z ?_ (eC Z (eC Z (eC Z (eC Z (eC Z (eC Z (eN _)))))))
 intro ⟨i,nk,Ak,ck,xk,A,ca,xs,ts⟩ hI K hK
 replace hI:Kept (fun _=>true) (fun k v=>cQ (cM k) g v) t i nk xk ts:=hI
 change Run _ _ _ _ _ [(12,_),(11,_),(10,_),(5,_),(4,_),(2,_),(1,_)] [_,_,_,_,_] [_,_,_,_]
 have hkn:=hI.len
 refine rO 3 Z (yJ Z Z Z ?_)
 refine oR 2 Z (zN Z (fun h13=>?_) (fun h13=>?_))
 ·refine rO 8 Z (xP 1 cX Z Z Z Z aC ?_)
  refine zA (yH dK Z Z (fun _ h=>xF h (j:=1) Z (List.getElem?_eq_getElem h13)) ?_)
  refine oO 8 Z (zC xI Z Z ?_)
  refine zA (zG 2 dN Z Z Z Z ?_)
  refine oO 3 Z (zM cX Z Z Z Z Z (fun b20=>?_))
  refine zA ?_
  refine cf 1 0 cX (fun A21 c21=>?_)
  refine zA (zC xI Z Z ?_)
  refine zA (zF 3 (M':=[_,_,_,HA.blk _ [_,_,_,_,_] _,_,_]) Z Z Z Z fF Z Z Z ?_)
  refine oK 1 [7,6,12,11,10,5,4,2,1] Z Z (yO yE ?_)
  refine zR (tP 0 Z cK (zY yV Z) ?_)
  refine tP 2 Z cK (zZ Z) (tP 3 Z cK (zY yV Z) ?_)
  refine tP 5 Z cK (zZ Z) (tP 8 Z cK (zZ Z) ?_)
  refine yF (tM 1 Z cK (yR 3 dJ Z Z Z) ?_)
  refine tM 4 Z cK (yR 5 dJ Z Z Z) (tM 6 Z cK (vH 2 cg Z Z Z aC) ?_)
  have hlt:i<t.items.length:=by omega
  refine uF 2 Z (List.getElem?_eq_getElem hlt) (fun vs30 hl30=>?_)
  refine yF (tM 7 Z cK (uG 0 hl30 cP Z Z) ?_)
  refine zL 9 aD ?_
  refine zO (I2:=[[],[1],[0],[]]) Z cK aD (fun Kd hKd=>?_)
  have hwi:=hw.item _ (List.getElem_mem hlt)
  refine zT Z Z Z (c54 _ (t.items[i]'hlt) _ f g hwi.kl hwi.il (fun own ho y=>hf own (nF (List.getElem_mem hlt) ho) (xm hw (List.getElem_mem hlt) ho) y)) (cS 1 Z) (fun u32 D32 hv32=>?_)
  obtain⟨A32,m32,B32,d32,rfl,rfl⟩:=hv32
  refine hKd _ _ _ (zD (hC (hC (zD (zP))))) (zL 10 aD ?_)
  refine zO (I2:=[[],[1],[0],[]]) Z cK aD (fun Kd hKd=>?_)
  refine zM cg Z Z Z Z Z (fun b33=>?_)
  refine hKd _ _ _ (zD (hC (hC (zD (zP))))) (zL 11 aD ?_)
  refine zO (I2:=[[],[],[],[]]) Z cK aD (fun Kd hKd=>?_)
  refine cf 3 0 cg (fun A34 c34=>?_)
  refine hKd _ _ _ (zD (zD (zD (zD (zP))))) (zR ?_)
  refine tP 12 Z cK (zY yV Z) (zL 13 aD ?_)
  refine zO (I2:=[[],[],[],[],[]]) Z cK aD (fun Kd hKd=>?_)
  refine zF 4 (M':=[_,_,_,_,HA.blk _ [_,_,_,_,_] _,_,_]) Z Z Z Z ei Z Z Z (hKd _ _ _ (zD (zD (zD (zD (zD (zP)))))) ?_)
  refine yG aD (rK 0 [12,11,10,5,4,2,1] Z Z ?_)
  refine rO 3 Z (yB Z Z aC ?_)
  refine oR 3 Z (wN 3 0 Z Z Z ?_)
  exact kQ (hK (i+1,_,_,_,_,_,_,_,_) (hI.pos aC aC Z) ap) (eC Z (eC Z (eC Z (eC Z (eC Z (eC Z (eC Z (eN _)))))))) (hD:=aV)
 refine rO 4 Z (zJ 2 Z cP Z Z ?_)
 refine zA (zF 3 (M':=[_,_,_,HA.blk _ [_,_,_,_,_] _,_]) Z Z Z Z cY Z Z Z ?_)
 refine zX ?_
 obtain⟨hi,hnk,hxk,hts⟩:=hI
 refine wP 0 ((f8 (fun _=>true) t i).map (·.1)) Z aG bQ (kN hksz) (uM 0 1 ts Z Z aG bC ?_)
 refine wU (q:=5) (m:=0) (s:=⟨#[]⟩) 1 0 Z Z aE ?_
 subst hts
 rw [sf,pK (i:=i) aC]
 exact yZ 1 Tryz.results120 Z Z cP ⟨rfl,_,_,_,_,by simp only [V.kind,V.num,V.text,V.keys,V.items,List.length_map,←hnk];rfl,rfl⟩ nS (cS 0 Z)
theorem c81(v:V): ∀ (hw:Wf v) (x:Value),CtR Tryz.prog 81 #[x] [.val x v] (RV (cV v)):=by
 refine V.indS (p:=fun v=> ∀ (hw:Wf v) (x:Value),CtR Tryz.prog 81 #[x] [.val x v] (RV (cV v))) ?_ v
 intro v IH hw x
 refine Ct.of_run (args:=[x]) Tryz.func81 aF Z Tryz.ntmps81 Z (fun c=>?_)
 refine yP 0 Z (fun A1 c1 A2 c2 hx hsz hk1 hk2 hi1 hi2=>?_)
 subst hx
 have hbl:=rU cV v
 refine rO 3 Z (yK Z Z Z (fun b1=>?_))
 refine zA (zS cx Z (fun b2=>?_))
 change cL _ _ _ _ _ _ _ _ (HA.blk _ [_,_,_,_,_] _::_) _
 refine oO 4 Z (zJ 1 Z cP Z Z ?_)
 refine zA ?_
 refine zT Z Z Z (N7 81 cV v _ hw hw.le (fun own hs hwo y=>IH own hs hwo y)) aA (fun u6 D6 hv6=>?_)
 obtain⟨A6,m6,B6,d6,rfl,rfl⟩:=hv6
 refine zA (zF 1 (M':=[_,HA.blk _ [_,_,_,_,_] _]) Z Z Z Z cY Z Z Z ?_)
 refine oO 5 Z (zJ 1 Z cP Z Z ?_)
 refine zA ?_
 refine zT Z Z Z (vc _ (belowV cV v) iT hbl) aA (fun u9 D9 hv9=>?_)
 obtain⟨_,rfl,A9,m9,B9,d9,rfl,rfl⟩:=hv9
 refine oO 7 Z (zS cx Z (fun b3=>?_))
 change cL _ _ _ _ _ _ _ _ (HA.blk _ [_,_,_,_,_] _::_) _
 refine zA (zF 0 (M':=[HA.blk _ [_,_,_,_,_] _,_,_]) Z Z Z Z cY Z Z Z ?_)
 refine oK 8 [12,3,2,1] Z Z (zW Z (fun h12=>?_) (fun h12=>?_))
 ·refine xK (yO yE ?_)
  refine tM 0 Z cK (vG 2 Z cP Z) (tM 2 Z cK (vG 0 Z cP Z) ?_)
  refine zL 1 aD ?_
  refine zO (I2:=[[2]]) Z cK aD (fun Kd hKd=>?_)
  refine zT Z Z Z (Oq (belowV cV v) iT _ (oL hw) (vu hw) hbl) aA (fun u14 D14 hv14=>?_)
  obtain⟨A14,m14,B14,d14,rfl,rfl⟩:=hv14
  refine hKd _ _ _ (hC (zP)) (zL 3 aD ?_)
  refine zO (I2:=[[]]) Z cK aD (fun Kd hKd=>?_)
  refine zT Z Z Z (KJ (withoutV (belowV cV v) iT) ((getV (belowV cV v) iT).getD zV) eY _ _ (yt (oL hw)) (nz _ _) aE) aB (fun u16 D16 hv16=>?_)
  obtain⟨A16,m16,B16,d16,rfl,rfl⟩:=hv16
  refine hKd _ _ _ (zD (zP)) (zL 4 aD ?_)
  refine zO (I2:=[[]]) Z cK aD (fun Kd hKd=>?_)
  refine zF 1 (M':=[_,HA.blk _ [_,_,_,_,_] _,_]) Z Z Z Z cY Z Z Z (hKd _ _ _ (zD (zP)) ?_)
  refine yG aD ?_
  have e:cV v=dq (withoutV (belowV cV v) iT) eY ((getV (belowV cV v) iT).getD zV):=by
   rw [qM,ol]
   cases hg:getV (belowV cV v) iT with
   |none=>rw [hg]at h12;cases h12
   |some a=>rfl
  rw [e]
  refine yQ (M':=[HA.blk b2 [_,_,_,_,_] 25]) (by repeat (first|exact zQ _|refine zB 0 Z ?_|refine zB 1 Z ?_|refine zB 2 Z ?_|refine zB 3 Z ?_|refine zB 4 Z ?_)) ?_
  exact yZ 0 Tryz.results81 Z Z cP ⟨rfl,_,_,_,_,rfl,rfl⟩ nS (cS 0 Z)
 refine rO 4 Z (zJ 2 Z cP Z Z ?_)
 refine zA (zF 1 (M':=[_,HA.blk _ [_,_,_,_,_] _,_]) Z Z Z Z cY Z Z Z ?_)
 refine zX ?_
 have e:cV v=belowV cV v:=by
  rw [qM,ol]
  cases hg:getV (belowV cV v) iT with
  |none=>rfl
  |some a=>rw [hg]at h12;cases h12
 rw [e]
 refine yQ (M':=[HA.blk b2 [_,_,_,_,_] 25]) (by repeat (first|exact zQ _|refine zB 0 Z ?_|refine zB 1 Z ?_|refine zB 2 Z ?_|refine zB 3 Z ?_|refine zB 4 Z ?_)) ?_
 exact yZ 0 Tryz.results81 Z Z cP ⟨rfl,_,_,_,_,rfl,rfl⟩ nS aA
section rules
variable {P:Program} {n:Nat} {F:List Nat} {c:Ctx F} {ops:Array Oper} {d:Nat} {T:TypeId} {l:List Oper} {k:List KI} {Q:Post} {e:dI} {M:List HA} {D:List DA}
end rules
theorem lZ{w:World}{ok:Nat→Prop}{mb:Nat}{G R:Gr}{b:Nat}{cs cs':List Value}{f f':Flds}(hp:G.Perm ((b,cs,f)::R))(hg:(DA.graph mb G).p w ok)(hc:CellsP w ok mb cs' f'):(DA.graph mb ((b,cs',f')::R)).p w ok:=fun g hg'=>by
 rcases List.mem_cons.1 hg' with e|e
 ·rw [e];exact hc
 ·exact hg g (hp.mem_iff.2 (List.mem_cons_of_mem _ e))
def vw(v:V):Prop:=eL v∧cn ff v
theorem By{v:V}(hp:Pl v)(hs:IsShape v):IsShape (cV (cO v))∧Pl (cV (cO v))∧cO (cV (cO v))=cV (cO v):=by
 have hpn:=qU hs hp
 have hsn:=qO v hs hp
 have hk:=pX (p:=fun _=>True) (q:=ii) (fun v _ _ _=>ko v) v hp hs (jI (fun _=>trivial) v)
 exact⟨pP _ hsn hpn,eZ hsn hpn,gk _ (eZ hsn hpn) (pP _ hsn hpn) (l6 _ hpn hsn hk)⟩

theorem N8(mb:Nat)(σ:cv)(b:Nat)(f:Flds)(ctx:ByteArray)(G:Gr)(hf:σ b=some f)(hG:GOk G σ):
  Ct Tryz.prog 125 #[cW b, .string ctx] [.many 124 (Gr.blks G)] [.graph mb G] (fun u M' D'=>u= .tuple #[]∧ ∃G',GOk G' (iE σ b (some (eF f)))∧M'=[.many 124 (Gr.blks G')]∧D'=[.graph mb G']):=by
 refine Ct.of_run (args:=[cW b, .string ctx]) Tryz.func125 aF Z Tryz.ntmps125 Z (fun c=>?_)
 obtain⟨cs,R,hp,hR⟩:=hG.split hf
 refine lW (sJ hp) (yM (.flds mb cs f) (fun w ok h=>(dget h 0 Z:(DA.graph mb G).p w ok) _ (hp.mem_iff.2 List.mem_cons_self)) ?_)
 refine vY (p:=cs.length=37) (fun w ok h=>(dget h 0 Z:(DA.flds mb cs f).p w ok).1) (fun hcl=>?_)
 refine vY (p:= ∃p:Option Addr,cs[29]? =some (.pointer p)∧p.isSome=(f 29).isSome) (fun w ok h=>?_) (fun⟨p,hc29,hps⟩=>?_)
 ·obtain⟨p,a1,a2,_⟩:=qL (dget h 0 rfl:(DA.flds mb cs f).p w ok) (i:=29) aE aE
  exact⟨p,a1,a2⟩
 have hcl2:(cs.set (0+30) (.pointer p)).length=37:=by rw [List.length_set];exact hcl
 refine rO 7 Z (zC rZ Z Z ?_)
 refine zA (tO 0 dm Z Z Z bL ?_)
 refine zA (yI fU Z Z ?_)
 refine zX (zW Z (fun h8=>?_) (fun h8=>?_))
 ·refine rO 9 Z (zC rZ Z Z ?_)
  refine zA (tO 0 dm Z Z Z bL ?_)
  refine oO 3 Z (zC qY Z Z ?_)
  refine zA (rN 0 Z Z Z Z Z jx aC ?_)
  refine oK 1 [0] Z Z (rO 6 Z ?_)
  refine zC rZ Z Z (zA ?_)
  refine rN 0 Z Z Z Z Z jx aC (zX ?_)
  obtain⟨a,ha⟩: ∃a,f 29=some a:=Option.isSome_iff_exists.1 (hps.symm.trans h8)
  refine lW (sJ (G:=(b,(cs.set 30 (.pointer p)).set 29 (.pointer none),eF f)::R) (List.Perm.refl _)).symm (uR (D':=[.graph mb ((b,(cs.set 30 (.pointer p)).set 29 (.pointer none),eF f)::R)]) (fun w ok h x hx=>?_) ?_)
  ·rw [List.mem_singleton.1 hx]
   refine lZ hp (dget h 1 Z) ?_
   have hf1:CellsP w ok mb cs f:=dget h 0 rfl
   obtain⟨p',a1,a2,a3⟩:=qL hf1 (i:=29) aE aE
   rw [hc29]at a1
   injection a1 with a1
   injection a1 with a1
   subst a1
   rw [pW ha]
   exact ey (ey hf1 aE (by rw [a2,ha]) (fun fv h=>a3 fv (ha.trans h))) aE Z (fun fv h=>by cases h)
  exact vI Tryz.results125 ⟨rfl,_,hR.join _ _,rfl,rfl⟩ (List.Sublist.refl _) (fun d hd=>hd)
 refine xZ ?_
 have hn:f 29=none:=by
  cases e:f 29 with
  |none=>rfl
  |some a=>rw [e]at hps;rw [hps]at h8;cases h8
 refine lW (sJ hp).symm ?_
 exact vI Tryz.results125 ⟨rfl,G,by rw [qN hn,gN hf];exact hG,rfl,rfl⟩ (List.Sublist.refl _) (fun d hd=>by rw [List.mem_singleton.1 hd];simp)
theorem Pw(mb b:Nat)(G:Gr)(v:V)(hp:Pl v)(hs:IsShape v)(hd:cn ff v)(hU:Unf G v b):
  Ct Tryz.prog 84 #[cW b] [.many 124 (Gr.blks G)] [.graph mb G] (fun u M' D'=>u= .tuple #[]∧ ∃G',Unf G' (cV (cO v)) b∧M'=[.many 124 (Gr.blks G')]∧D'=[.graph mb G']):=by
 refine Ct.of_run (args:=[cW b]) Tryz.func84 aF Z Tryz.ntmps84 Z (fun c=>?_)
 refine EO (fun hnd=>?_)
 obtain⟨σ,hσ⟩:=GOk.ex (ie hnd)
 obtain⟨mu,hmu⟩:=AX Ei σ
 have hok:=JR (P:=Tryz.prog) (fo:=125) (mb:=mb) hmu (fun σ b f ctx G hf hG=>N8 mb σ b f ctx G hf hG)
 refine rO 4 Z (ku Z Z Z (JT (Lm mb KK σ mu) 125 #[] hok b ((),σ) G _ ⟨v,⟨hp,hs,hd⟩,(gP hσ v b).1 hU⟩ (fun d _=> .inl Z) hσ) (fun d hd=>hd) (fun u3 M3 D3 hv3=>?_))
 obtain⟨rfl,y3,G3,_,hG3,rfl,rfl,_,hdn,_⟩:=hv3
 obtain⟨_,rfl,hU3,_⟩:=yp hσ hG3 hp hs hd hdn hU
 exact zX (vI Tryz.results84 ⟨rfl,G3,hU3,rfl,rfl⟩ (List.Sublist.refl _) (cS 0 Z))
theorem c44(v:V)(x:Value):CtR Tryz.prog 44 #[x] [.val x v] (fun u D'=> ∃y z,u= .tuple #[y, .bool (tb (vw v))]∧RV z y D'∧(vw v→z=cV (cO v))):=by
 refine Ct.of_run (args:=[x]) Tryz.func44 aF Z Tryz.ntmps44 Z (fun c=>?_)
 refine yP 0 Z (fun A1 c1 A2 c2 hx hsz1 hk1 hk2 hi1 hi2=>?_)
 subst hx
 refine rO 3 Z (yK Z Z Z (fun b1=>?_))
 refine zA (zS cx Z (fun b2=>?_))
 change cL _ _ _ _ _ _ _ _ (HA.blk _ [_,_,_,_,_] _::_) _
 refine oO 7 Z (zJ 1 Z cP Z Z ?_)
 refine zA (zK Z Z Z (c20 v _) aA ?_)
 refine oS 4 Z (yU (s:=7) Z (fun h7=>?_) (fun h7=>?_))
 ·refine oO 9 Z (yX Z Z (q9 ..) ?_)
  refine zA (zF 0 (M':=[HA.blk _ [_,_,_,_,_] _,_]) Z Z Z Z cY Z Z Z ?_)
  refine oK 3 [3,2] Z Z ?_
  have hno: ¬ vw v:=fun hc=>by rw [tb_t hc.1]at h7;cases h7
  refine yQ (M':=[HA.blk b2 [_,_,_,_,_] 25]) (by repeat (first|exact zQ _|refine zB 0 Z ?_|refine zB 1 Z ?_|refine zB 2 Z ?_|refine zB 3 Z ?_|refine zB 4 Z ?_)) ?_
  refine yM (.val (.agg #[.int .i64 0, .int .i64 0, .string ⟨#[]⟩, .slice none 0 0, .slice none 0 0]) zV) (fun w ok _=>sE w ok) ?_
  exact xX 0 Tryz.results44 Z Z Z cP ⟨rfl, .agg #[.int .i64 0, .int .i64 0, .string ⟨#[]⟩, .slice none 0 0, .slice none 0 0],zV,by rw [tb_f hno],⟨none,0,none,0,rfl,rfl⟩,fun h=>absurd h hno⟩ nS (cS 0 Z)
 have hsv0:=yT.1 (by simpa using h7)
 have hp:Pl v:=⟨12,hsv0.1.1⟩
 have hs:=hsv0.2
 refine zI Z Z (zJ 1 Z cP Z Z ?_)
 refine zI Z Z (zK Z Z Z (Mi 80 (fun z=>(getV z iT).isSome=true∧(getV z eY).isSome=true) (fun z hz y=>Ps z hz y) v hp _) aA ?_)
 refine oR 3 Z (zW Z (fun h10=>?_) (fun h10=>?_))
 ·refine rO 3 Z (yX Z Z (q9 ..) ?_)
  refine zA (zF 0 (M':=[HA.blk _ [_,_,_,_,_] _,_]) Z Z Z Z cY Z Z Z ?_)
  refine oK 3 [3,2] Z Z ?_
  have hno: ¬ vw v:=fun hc=>(yT.1 h10) hc.2
  refine yQ (M':=[HA.blk b2 [_,_,_,_,_] 25]) (by repeat (first|exact zQ _|refine zB 0 Z ?_|refine zB 1 Z ?_|refine zB 2 Z ?_|refine zB 3 Z ?_|refine zB 4 Z ?_)) ?_
  refine yM (.val (.agg #[.int .i64 0, .int .i64 0, .string ⟨#[]⟩, .slice none 0 0, .slice none 0 0]) zV) (fun w ok _=>sE w ok) ?_
  exact xX 0 Tryz.results44 Z Z Z cP ⟨rfl, .agg #[.int .i64 0, .int .i64 0, .string ⟨#[]⟩, .slice none 0 0, .slice none 0 0],zV,by rw [tb_f hno],⟨none,0,none,0,rfl,rfl⟩,fun h=>absurd h hno⟩ nS (cS 0 Z)
 refine rO 4 Z (zJ 1 Z cP Z Z ?_)
 refine zA ?_
 refine zT Z Z Z (Mx v hp.wf _) aA (fun u13 D13 hv13=>?_)
 obtain⟨A13,m13,B13,d13,rfl,rfl⟩:=hv13
 refine zA ?_
 refine zT Z Z Z (c81 (cO v) (qU hs hp).wf _) aA (fun u14 D14 hv14=>?_)
 obtain⟨A14,m14,B14,d14,rfl,rfl⟩:=hv14
 refine zA (zF 0 (M':=[HA.blk _ [_,_,_,_,_] _,_]) Z Z Z Z cY Z Z Z ?_)
 refine oK 3 [3,2] Z Z ?_
 have hyes:vw v:=⟨hsv0,Classical.byContradiction fun hc=>by rw [tb_t (p:= ¬ cn (fun z=> ¬ ((getV z iT).isSome=true∧(getV z eY).isSome=true)) v) hc]at h10;cases h10⟩
 refine yQ (M':=[HA.blk b2 [_,_,_,_,_] 25]) (by repeat (first|exact zQ _|refine zB 0 Z ?_|refine zB 1 Z ?_|refine zB 2 Z ?_|refine zB 3 Z ?_|refine zB 4 Z ?_)) ?_
 exact xX 0 Tryz.results44 Z Z Z cP ⟨rfl, .agg #[.int .i64 (cV (cO v)).kind, .int .i64 (cV (cO v)).num, .string (cV (cO v)).text, .slice A14 (cV (cO v)).keys.length m14, .slice B14 (cV (cO v)).items.length d14],_,by rw [tb_t hyes],⟨_,_,_,_,rfl,rfl⟩,fun _=>rfl⟩ nS (cS 0 Z)
def merL(l:List V)(out:V):V:=l.foldl (fun o own=>eS own o) out
noncomputable def oM(u:V):V:=match getV u k28 with
  |some all=>merL all.items (withoutV u k28)
  |none=>u
noncomputable def mergedV:V→V:=V.fix (α:=V) (fun v g=>oM (belowV g v))
theorem sL(v:V):mergedV v=oM (belowV mergedV v):=
 V.fix_eq (α:=V) (G:=fun v g=>oM (belowV g v)) (fun t g g' h=>by rw [kn h]) v
theorem Bz{l:List V}{out:V}(h:out.kind=5):(merL l out).kind=5:=by
  induction l generalizing out with
  |nil=>exact h
  |cons p l ih=>exact ih (Bm h)
theorem gp(v:V):(mergedV v).kind=5:=by
 rw [sL,oM]
 split
 ·exact Bz Z
 ·rfl
def Clear1:dv→V→Prop
  |[],_=>True
  |p::l,o=> ¬ (0≤dh o.keys p.1∨p.1=k3∨p.1=k2∨p.1=k1)∧Clear1 l (dq o p.1 p.2)
def ClearM:List V→V→Prop
  |[],_=>True
  |own::l,o=>Clear1 (own.keys.zip own.items) o∧ClearM l (eS own o)
def Ja(u:V):Prop:= ∀ all,getV u k28=some all→ClearM all.items (withoutV u k28)
def CI(v:V):Prop:=Ja (belowV mergedV v)
theorem yu{l:dv}{o:V}(h:Clear1 l o): ∀ p∈l,p.1≠k3∧p.1≠k2∧p.1≠k1:=by
  induction l generalizing o with
  |nil=>intro p hp;cases hp
  |cons q l ih=>
    intro p hp
    rcases List.mem_cons.1 hp with rfl|hp
    · exact⟨fun e=>h.1 (.inr (.inl e)),fun e=>h.1 (.inr (.inr (.inl e))),fun e=>h.1 (.inr (.inr (.inr e)))⟩
    · exact ih h.2 p hp
theorem yv{l:List V}{o:V}(h:ClearM l o): ∀ own∈l,∀ p∈own.keys.zip own.items,p.1≠k3∧p.1≠k2∧p.1≠k1:=by
  induction l generalizing o with
  |nil=>intro p hp;cases hp
  |cons q l ih=>
    intro p hp
    rcases List.mem_cons.1 hp with rfl|hp
    · exact yu h.1
    · exact ih h.2 p hp

def eT(v:V):Prop:=AV (v.keys.zip v.items)∧v.keys.length=v.items.length
theorem mf{l:dv}(h:AV l):eT (l4 l):=⟨by rw [pO];exact h,by simp [l4,V.keys,V.items]⟩
theorem qh{v:V}{key:ByteArray}{own:V}(h:eT v):eT (dq v key own):=mf (vf h.1)
theorem la{l:dv}{out:V}(h:eT out):eT (setL l out):=by
  induction l generalizing out with
  |nil=>exact h
  |cons p l ih=>exact ih (qh h)
theorem B0{l:List V}{out:V}(h:eT out):eT (merL l out):=by
  induction l generalizing out with
  |nil=>exact h
  |cons p l ih=>exact ih (la h)
theorem qH{v:V}(hp:Pl v)(hk:v.kind=5):eT v:=⟨ym (hp.keys hk) _,(qE hp hk).2.1⟩
theorem fE{g:V→V}{v:V}(h:eT v):eT (belowV g v):=mf (sa (fun k x=>cQ (cM k) g x) h.1)
theorem pQ{v:V}{key:ByteArray}(h:eT v):eT (withoutV v key):=mf (oA _ h.1)
theorem sM{v:V}(h:eT v):eT (mergedV v):=by
 rw [sL,oM]
 split
 ·exact B0 (pQ (fE h))
 ·exact fE h
theorem je{v:V}(h:eT v):v.keys.Nodup:=by
 have:=nY (ks:=(v.keys.zip v.items).map (·.1)) (by rw [List.pairwise_map];exact h.1)
 rwa [List.map_fst_zip bN]at this
theorem Jb{l:dv}(h:AV l){key:ByteArray}{x:V}(hm:(key,x)∈l):lk l key=some x:=by
  induction l with
  |nil=>cases hm
  |cons p l ih=>
    obtain⟨h1,h2⟩:=List.pairwise_cons.1 h
    rw [sS]
    rcases List.mem_cons.1 hm with e|e
    · rw [←e,if_pos rfl]
    · rw [if_neg (fun he=>?_)]
      · exact ih h2 e
      · have:=h1 _ e
        rw [he]at this
        exact List.lt_irrefl _ this
theorem vx{v:V}(h:eT v){key:ByteArray}{x:V}(hm:(key,x)∈v.keys.zip v.items):getV v key=some x:=by
 rw [pN bN]
 exact Jb h.1 hm
theorem Ev{v:V}(h:eT v){key:ByteArray}{x:V}(hm:getV v key=some x):(key,x)∈v.keys.zip v.items:=by
 rw [pN bN]at hm
 exact yi hm
theorem qV{v:V}(h:eT v):v.keys.length≤v.items.length:=by rw [h.2];exact Nat.le_refl _
theorem qk{v:V}(hv:eT v)(hk:v.kind=5)(h: ∀ key x,(key,x)∈v.keys.zip v.items→cT (cM key) x∧(∀ z∈kidsOf (cM key) x,IsShape z)∧(key=kId→ ∃u,getV v dL=some u∧dS u.text)):IsShape v:=by
 refine(wQ v).2 ⟨hk,fun j k x hj hx=>h k x ?_⟩
 refine List.mem_of_getElem? (i:=j) ?_
 rw [List.getElem?_zip_eq_some]
 exact⟨hj,hx⟩

theorem Ex{l:List V}{out:V}{q:ByteArray×V}(h:q∈(merL l out).keys.zip (merL l out).items):(∃own∈l,q∈own.keys.zip own.items)∨q∈out.keys.zip out.items:=by
  induction l generalizing out with
  |nil=>exact .inr h
  |cons p l ih=>
    rcases ih h with ⟨own,ho,e⟩|e
    · exact .inl ⟨own,List.mem_cons_of_mem _ ho,e⟩
    · rcases Ed e with e|e
      · exact .inl ⟨p,List.mem_cons_self,e⟩
      · exact .inr e
theorem Ey{l:List V}{out:V}(hs: ∀ own∈l,eT own)(h:eT out){key:ByteArray}(hno: ∀ own∈l,getV own key=none):getV (merL l out) key=getV out key:=by
  induction l generalizing out with
  |nil=>rfl
  |cons p l ih=>
    have hp:=hs p List.mem_cons_self
    rw [show merL (p::l) out=merL l (eS p out)from rfl,ih (out:=eS p out) (fun o ho=>hs o (List.mem_cons_of_mem _ ho)) (la h) (fun o ho=>hno o (List.mem_cons_of_mem _ ho)),
      qe (je hp) (qV hp) (qV h),hno p List.mem_cons_self]
    rfl
theorem jf{v:V}(hv:d5 v){q:ByteArray×V}(h:q∈(mergedV v).keys.zip (mergedV v).items):
    (∃x,getV v q.1=some x∧q.2=cQ (cM q.1) mergedV x)∨(∃xa z,getV v k28=some xa∧z∈kidsOf 13 xa∧q∈(mergedV z).keys.zip (mergedV z).items):=by
  have hsv:=qH hv.1 hv.2.kind
  have below:q∈(belowV mergedV v).keys.zip (belowV mergedV v).items→ ∃x,getV v q.1=some x∧q.2=cQ (cM q.1) mergedV x:=fun hm=>by
    rw [belowV,pO]at hm
    obtain⟨p,hp,rfl⟩:=List.mem_map.1 hm
    exact⟨p.2,vx hsv hp,rfl⟩
  rw [sL,oM]at h
  cases ha:getV (belowV mergedV v) k28 with
  |none=>rw [ha]at h;exact .inl (below h)
  |some all=>
    rw [ha]at h
    rcases Ex h with ⟨own,ho,e⟩|e
    · rw [uV (qV hsv)]at ha
      cases hx:getV v k28 with
      |none=>rw [hx]at ha;cases ha
      |some xa=>
        rw [hx]at ha
        injection ha with ha
        have e28:cM k28=13:=by decide+kernel
        rw [e28]at ha
        have hf:=(xN hv.2 hx).1
        rw [e28]at hf
        have hf':xa.kind=4∧ ∀ x'∈xa.items,x'.kind=5:=by simpa [cT]using hf
        subst ha
        have et:cQ 13 mergedV xa=ce mergedV xa:=by simp [cQ]
        rw [et]at ho
        obtain⟨z,hz,rfl⟩:=List.mem_map.1 (show own∈xa.items.map (cp mergedV)from ho)
        rw [xV (hf'.2 z hz)]at e
        exact .inr ⟨xa,z,rfl,by rw [eO hf'.2];exact hz,e⟩
    · rw [withoutV,pO]at e
      exact .inl (below (List.mem_filter.1 e).1)
theorem e28:cM k28=13:=by decide+kernel
theorem kw{v:V}(hv:d5 v)(hm:CI v){xa z:V}(ha:getV v k28=some xa)(hz:z∈kidsOf 13 xa): ∀ p∈(mergedV z).keys.zip (mergedV z).items,p.1≠k3∧p.1≠k2∧p.1≠k1:=by
 have hf:=(xN hv.2 ha).1
 rw [e28]at hf
 have hf':xa.kind=4∧ ∀ x'∈xa.items,x'.kind=5:=by simpa [cT]using hf
 have hb:getV (belowV mergedV v) k28=some (ce mergedV xa):=by
  rw [uV hv.1.wf.le,ha,e28]
  simp [cQ]
 refine yv (hm _ hb) (mergedV z) ?_
 rw [eO hf'.2]at hz
 exact List.mem_map.2 ⟨z,hz,xV (hf'.2 z hz)⟩
theorem so(v:V):d5 v→cn CI v→IsShape (mergedV v):=by
  refine V.indS (p:=fun v=>d5 v→cn CI v→IsShape (mergedV v)) (fun v IH hv hd=>?_) v
  obtain⟨hm,hk⟩:=(wG _ _).1 hd
  have hsv:=qH hv.1 hv.2.kind
  have sub: ∀ z∈kidsV v,IsShape (mergedV z):=fun z hz=>IH z (wL hz) (sch_good.kid v hv z hz) (hk z hz)
  refine qk (sM hsv) (gp v) fun key y hy=>?_
  rcases jf hv hy with ⟨x,hx,he⟩|⟨xa,z,hx,hz,he⟩
  · simp only at hx he
    subst he
    obtain⟨h1,h2⟩:=fZ (g:=mergedV) (xN hv.2 hx).1 fun z hz=>sub z (xH hv.1 hv.2.kind hx hz)
    refine⟨h1,h2,fun hid=>?_⟩
    obtain⟨u,hu,h4⟩:=(xN hv.2 hx).2.2 hid
    refine⟨cQ (cM dL) mergedV u,?_,by rw [pM];exact h4⟩
    have hb:getV (belowV mergedV v) dL=some (cQ (cM dL) mergedV u):=by rw [uV hv.1.wf.le,hu];rfl
    rw [sL,oM]
    cases ha:getV (belowV mergedV v) k28 with
    |none=>exact hb
    |some all=>
      simp only
      rw [uV hv.1.wf.le]at ha
      cases hxa:getV v k28 with
      |none=>rw [hxa]at ha;cases ha
      |some xa=>
        rw [hxa]at ha
        injection ha with ha
        rw [e28]at ha
        have hf:=(xN hv.2 hxa).1
        rw [e28]at hf
        have hf':xa.kind=4∧ ∀ x'∈xa.items,x'.kind=5:=by simpa [cT]using hf
        have et:cQ 13 mergedV xa=ce mergedV xa:=by simp [cQ]
        have hown: ∀ own∈all.items,∃z∈kidsOf 13 xa,own=mergedV z:=fun own ho=>by
          rw [←ha,et]at ho
          obtain⟨z,hz,rfl⟩:=List.mem_map.1 (show own∈xa.items.map (cp mergedV)from ho)
          exact⟨z,by rw [eO hf'.2];exact hz,xV (hf'.2 z hz)⟩
        rw [Ey (fun own ho=>?_) (pQ (fE hsv)) (fun own ho=>?_),fY (rU _ _),if_neg aD,hb]
        · obtain⟨z,hz,rfl⟩:=hown own ho
          have hzk:=xH hv.1 hv.2.kind hxa bp
          exact sM (qH (vP hv.1 hzk) (wH hv.1 hv.2 hzk).kind)
        · obtain⟨z,hz,rfl⟩:=hown own ho
          cases hg:getV (mergedV z) dL with
          |none=>rfl
          |some x'=>
            have hzk:=xH hv.1 hv.2.kind hxa bp
            have:=kw hv hm hxa hz _ (Ev (sM (qH (vP hv.1 hzk) (wH hv.1 hv.2 hzk).kind)) hg)
            exact absurd Z this.2.2
  · have hzk:=xH hv.1 hv.2.kind hx bp
    have hsz:=sub z hzk
    have hsz':=sM (qH (vP hv.1 hzk) (wH hv.1 hv.2 hzk).kind)
    obtain⟨h1,h2,h3⟩:=xN hsz (vx hsz' he)
    exact⟨h1,h2,fun hid=>absurd hid (kw hv hm hx hz _ he).2.1⟩
theorem yw{v:V}(hv:d5 v)(IH: ∀ z∈kidsV v,ii (mergedV z))(hk:ii v):ii (mergedV v):=by
  have hsv:=sM (qH hv.1 hv.2.kind)
  intro k hk'
  obtain⟨i,hi,rfl⟩:=List.getElem_of_mem hk'
  have hm:((mergedV v).keys[i],(mergedV v).items[i]'(by rw [←hsv.2];exact hi))∈(mergedV v).keys.zip (mergedV v).items:=by
    refine List.mem_of_getElem? (i:=i) ?_
    rw [List.getElem?_zip_eq_some]
    exact⟨List.getElem?_eq_getElem hi,List.getElem?_eq_getElem (by rw [←hsv.2];exact hi)⟩
  rcases jf hv hm with ⟨x,hx,_⟩|⟨xa,z,hx,hz,he⟩
  · obtain⟨j,hj,_⟩:=pD hx
    exact hk _ (List.mem_of_getElem? hj)
  · exact IH z (xH hv.1 hv.2.kind hx bp) _ (List.of_mem_zip he).1
theorem vy{v z:V}(hv:d5 v)(h:z∈kidsV (mergedV v)):(∃y∈kidsV v,z=mergedV y)∨ ∃y∈kidsV v,z∈kidsV (mergedV y):=by
 obtain⟨p,hp,hz⟩:=List.mem_flatMap.1 h
 rcases jf hv (show(p.1,p.2)∈_ from hp)with ⟨x,hx,he⟩|⟨xa,y,hx,hy,he⟩
 ·simp only at hx he
  rw [he]at hz
  obtain⟨y,hy,rfl⟩:=gO gp (xN hv.2 hx).1 hz
  exact .inl ⟨y,xH hv.1 hv.2.kind hx hy,rfl⟩
 ·exact .inr ⟨y,xH hv.1 hv.2.kind hx (by rw [e28];exact hy),List.mem_flatMap.2 ⟨p,he,hz⟩⟩
theorem l8(v:V):d5 v→cn ii v→cn ii (mergedV v):=by
 refine V.indS (p:=fun v=>d5 v→cn ii v→cn ii (mergedV v)) (fun v IH hv hd=>?_) v
 obtain⟨h1,h2⟩:=(wG _ _).1 hd
 have sub: ∀ z∈kidsV v,cn ii (mergedV z):=fun z hz=>IH z (wL hz) (sch_good.kid v hv z hz) (h2 z hz)
 refine(wG _ _).2 ⟨yw hv (fun z hz=>((wG _ _).1 (sub z hz)).1) h1,fun z hz=>?_⟩
 rcases vy hv hz with ⟨y,hy,rfl⟩|⟨y,hy,hz⟩
 ·exact sub y hy
 ·exact((wG _ _).1 (sub y hy)).2 z hz
theorem CA{U U':Nat→V→Prop}{g:V→V}(hg: ∀ z,(g z).kind=5){v:V}(hv:d5 v){i:Nat}{f:Flds}(h1:1≤i)(h2:i≤36)(h: ∀ c z,i∈cw→c∈cU f i→z∈kidsV v→U c z→U' c (g z))(hf:FldRel U v i (f i)):FldRel U' (belowV g v) i (f i):=by
  cases hfi:f i with
  |none=>
    rw [hfi]at hf
    intro key hkw
    rw [uV hv.1.wf.le,hf key hkw];rfl
  |some fv=>
    rw [hfi]at hf
    obtain⟨key,x,hkw,hx,hr⟩:=hf
    have hsh:=pF hkw aC
    refine⟨key,cQ (cM key) g x,hkw,by rw [uV hv.1.wf.le,hx];rfl,?_⟩
    have hfit:=(xN hv.2 hx).1
    rw [hsh]at hfit⊢
    refine FvRel.turn hg hfit (fun c z hc hz hu=>?_) hr
    exact h c z (mc h1 h2 hr hc) bF (xH hv.1 hv.2.kind hx bn) hu
def gq(σ:cv)(a:Flds)(c:Nat):Flds:=match σ c with
  |some s=>jp a s
  |none=>a
def wn(σ:cv)(f:Flds):Flds:=match f 28 with
  |some (.list bs)=>(bs.foldl (gq σ) f).put 28 none
  |_=>f
theorem kx{σ:cv}{f:Flds}(h:f 28=none):wn σ f=f:=by unfold wn;rw [h]
theorem ky{σ:cv}{f:Flds}{bs:List Nat}(h:f 28=some (.list bs)):wn σ f=(bs.foldl (gq σ) f).put 28 none:=by unfold wn;rw [h]
theorem Jc(f s:Flds)(i:Nat):jp f s i=f i∨jp f s i=s i:=by
  unfold jp
  split
  · cases s i with
    |none=>exact .inl rfl
    |some x=>exact .inr rfl
  · exact .inl Z
theorem Gp{a s:Flds}(h:s 28=none):(jp a s).put 28 none=jp (a.put 28 none) s:=by
 funext i
 by_cases e:i=28
 ·subst e
  show(if(28:Nat)=28 then none else _)=jp (a.put 28 none) s 28
  unfold jp
  rw [if_pos rfl,if_pos aE,h]
  simp [Flds.put]
 ·show(if i=28 then none else jp a s i)=jp (a.put 28 none) s i
  rw [if_neg e]
  unfold jp
  simp [Flds.put,e]
theorem Ez{σ:cv}{bs:List Nat}(h: ∀ c∈bs,∀ s,σ c=some s→s 28=none)(a:Flds):(bs.foldl (gq σ) a).put 28 none=bs.foldl (gq σ) (a.put 28 none):=by
  induction bs generalizing a with
  |nil=>rfl
  |cons c bs ih=>
    have h':=fun c' hc'=>h c' (List.mem_cons_of_mem _ hc')
    rw [List.foldl_cons,List.foldl_cons,ih h']
    congr 1
    unfold gq
    cases hc:σ c with
    |none=>rfl
    |some s=>exact Gp (h c List.mem_cons_self s hc)
theorem E0{σ:cv}{p:Nat→FVal→Prop}{bs:List Nat}(hs: ∀ c∈bs,∀ s,σ c=some s→ ∀ i fv,s i=some fv→p i fv){a:Flds}(ha: ∀ i fv,a i=some fv→p i fv): ∀ i fv,(bs.foldl (gq σ) a) i=some fv→p i fv:=by
  induction bs generalizing a with
  |nil=>exact ha
  |cons c bs ih=>
    refine ih (fun c' hc'=>hs c' (List.mem_cons_of_mem _ hc')) (fun i fv hf=>?_)
    unfold gq at hf
    cases hc:σ c with
    |none=>rw [hc]at hf;exact ha i fv hf
    |some s=>
      rw [hc]at hf
      rcases Jc a s i with e|e
      · exact ha i fv (e.symm.trans hf)
      · exact hs c List.mem_cons_self s hc i fv (e.symm.trans hf)
theorem E1{σ:cv}{p:Nat→FVal→Prop}{f:Flds}(hs: ∀ bs,f 28=some (.list bs)→ ∀ c∈bs,∀ s,σ c=some s→ ∀ i fv,s i=some fv→p i fv)(ha: ∀ i fv,f i=some fv→p i fv): ∀ i fv,wn σ f i=some fv→p i fv:=by
  intro i fv hf
  by_cases hl: ∃bs,f 28=some (.list bs)
  · obtain⟨bs,hb⟩:=hl
    rw [ky hb]at hf
    by_cases e:i=28
    · subst e;simp [Flds.put]at hf
    · rw [show ∀ g:Flds,g.put 28 none i=g i from fun g=>by simp [Flds.put,e]]at hf
      exact E0 (hs bs hb) ha i fv hf
  · have e:wn σ f=f:=by
      unfold wn
      split
      · rename_i bs hb;exact absurd ⟨bs,hb⟩ hl
      · rfl
    rw [e]at hf
    exact ha i fv hf
theorem vz{U:Nat→V→Prop}{σ:cv}: ∀ (bs:List Nat) (owns:List V),All2 (fun c own=>eT own∧ ∃s,σ c=some s∧ ∀ i,1≤i→i≤36→FldRel U own i (s i)) bs owns→ ∀ (out:V) (a:Flds),eT out→(∀ i,1≤i→i≤36→FldRel U out i (a i))→ ∀ i,1≤i→i≤36→FldRel U (merL owns out) i ((bs.foldl (gq σ) a) i)
  |[],owns,h,out,a,ho,hf=>by
    have:owns=[]:=List.eq_nil_of_length_eq_zero h.1.symm
    subst this
    exact hf
  |c::bs,[],h,out,a,ho,hf=>by cases h.1
  |c::bs,own::owns,h,out,a,ho,hf=>by
    obtain⟨hso,s,hs,hfl⟩:=h.2 0 c own rfl rfl
    have h':All2 (fun c own=>eT own∧ ∃s,σ c=some s∧ ∀ i,1≤i→i≤36→FldRel U own i (s i)) bs owns:=⟨by simpa using h.1,fun i a b ha hb=>h.2 (i+1) a b (by simpa using ha) (by simpa using hb)⟩
    refine vz bs owns h' (eS own out) (gq σ a c) (la ho) (fun i hi hj=>?_)
    have e:gq σ a c=jp a s:=by unfold gq;rw [hs]
    rw [e]
    exact Gg hi hj (fun key=>qe (je hso) (qV hso) (qV ho) key) (hfl i hi hj) (hf i hi hj)

def lc(σ0 σ:cv)(d:Nat):Prop:= ∀ e,Rch σ d e→(∃f,σ e=some f∧f 28=none)∧ ∀ v,d5 v→USig σ0 v e→USig σ (mergedV v) e
def Lw(mb:Nat)(σ0:cv)(mu:Nat→Nat):Trv Unit where
 mb:=mb
 X:=fun _=>[]
 D0:=[]
 I:=fun x=> ∀ d,fB d5 σ0 d→(∃f,x.2 d=some f∧FT f∧ ∀ i∈cw,∀ c∈cU f i,fB d5 σ0 c∧mu c<mu d)∧(x.2 d=σ0 d∨lc σ0 x.2 d)
 S:=fun _=>fB d5 σ0
 mu:=mu
 dn:=fun x _ b=>lc σ0 x.2 b
theorem E2{σ0 σ σ':cv}{d:Nat}(h:lc σ0 σ d)(ha: ∀ e,Rch σ d e→σ' e=σ e):lc σ0 σ' d:=by
 intro e he
 have he':=rch_agree' he ha
 obtain⟨⟨f,h1,h2⟩,h3⟩:=h e he'
 exact⟨⟨f,(ha e he').trans h1,h2⟩,fun v hv hu=>oB _ e (fun d' hd'=>ha d' (he'.trans hd')) (h3 v hv hu)⟩
theorem v8{f:Flds}{i c:Nat}(h:c∈cU f i): ∃fv,f i=some fv∧c∈db fv:=by
  unfold cU at h
  cases hf:f i with
  |none=>rw [hf]at h;cases h
  |some fv=>rw [hf]at h;exact⟨fv,rfl,h⟩
theorem wa{σ0 σ:cv}{v:V}{b:Nat}{f:Flds}(hv:d5 v)(hu:USig σ0 v b)(hf:σ0 b=some f)(hft:FT f)(hfin: ∀ i∈cw,∀ c∈cU f i,lc σ0 σ c):
    ∀ i,1≤i→i≤36→FldRel (fun c x=>USig σ x c) (mergedV v) i (wn σ f i):=by
  obtain⟨f',h1,hU⟩:=(xO _ _ _).1 hu
  rw [hf]at h1
  injection h1 with h1
  subst h1
  have hsv:=qH hv.1 hv.2.kind
  have below: ∀ i,1≤i→i≤36→FldRel (fun c x=>USig σ x c) (belowV mergedV v) i (f i):=fun i hi hj=>
    CA gp hv hi hj (fun c z hik hc hz huc=>(hfin i hik c hc c (.refl c)).2 z (sch_good.kid v hv z hz) huc) (hU i hi hj)
  intro i hi hj
  cases h28:f 28 with
  |none=>
    rw [kx h28,sL,oM]
    have hno:getV (belowV mergedV v) k28=none:=by
      have:=below 28 aE aE
      rw [h28]at this
      exact this k28 aD
    rw [hno]
    exact below i hi hj
  |some fv=>
    have hok:=hft 28 fv aE aE h28
    obtain⟨key,xa,hkw,hxa,hr⟩: ∃key x,kwIdx key=28∧getV v key=some x∧FvRel (fun c x=>USig σ0 x c) (shIdx 28) x fv:=by
      have:=hU 28 aE aE
      rw [h28]at this
      exact this
    obtain rfl:=Bk hkw k28 aD aE
    obtain⟨bs,rfl⟩:=qP hok
    have hf13:=(xN hv.2 hxa).1
    rw [e28]at hf13
    have hf':xa.kind=4∧ ∀ x'∈xa.items,x'.kind=5:=by simpa [cT]using hf13
    have hget:getV (belowV mergedV v) k28=some (ce mergedV xa):=by
      rw [uV hv.1.wf.le,hxa,e28]
      simp [cQ]
    have hbs: ∀ c∈bs,c∈cU f 28:=fun c hc=>by unfold cU;rw [h28];exact hc
    rw [ky h28,Ez (fun c hc s hs=>?_),sL,oM,hget]
    · refine vz bs _ ?_ _ _ (pQ (fE hsv)) (fun i hi hj=>?_) i hi hj
      · show All2 _ bs (xa.items.map (cp mergedV))
        refine All2.map (fun c z hc hz huc=>?_) hr.2
        rw [xV (hf'.2 z hz)]
        have hzk:z∈kidsV v:=xH hv.1 hv.2.kind hxa (by rw [e28,eO hf'.2];exact hz)
        have hsz:=sch_good.kid v hv z hzk
        obtain⟨s,hs,hfl⟩:=(xO _ _ _).1 ((hfin 28 aE c (hbs c hc) c (.refl c)).2 z hsz huc)
        exact⟨sM (qH hsz.1 hsz.2.kind),s,hs,hfl⟩
      · by_cases e:i=28
        · subst e
          show FldRel _ _ 28 (if(28:Nat)=28 then none else f 28)
          rw [if_pos rfl]
          intro key hk
          obtain rfl:=Bk hk k28 aD aE
          rw [fY (rU _ _),if_pos rfl]
        · have e':(f.put 28 none) i=f i:=by simp [Flds.put,e]
          rw [e']
          have hb:=below i hi hj
          have hg: ∀ key,kwIdx key=i→getV (withoutV (belowV mergedV v) k28) key=getV (belowV mergedV v) key:=fun key hk=>by
            rw [fY (rU _ _),if_neg (fun h=>e (by rw [←hk,h];decide+kernel))]
          cases hfi:f i with
          |none=>rw [hfi]at hb;intro key hk;rw [hg key hk];exact hb key hk
          |some fv=>rw [hfi]at hb;obtain⟨key,x,a,b,c⟩:=hb;exact⟨key,x,a,by rw [hg key a];exact b,c⟩
    · obtain⟨s',hs',h'⟩:=(hfin 28 aE c (hbs c hc) c (.refl c)).1
      rw [hs]at hs'
      injection hs' with hs'
      rw [hs'];exact h'
theorem Jd{P:Program}{fo:FuncId}{mb:Nat}{σ0:cv}{mu:Nat→Nat}
    (hop: ∀ σ b f ctx G,σ b=some f→FT f→GOk G σ→(∀ bs,f 28=some (.list bs)→ ∀ c∈bs,c≠b∧ ∃s,σ c=some s)→Ct P fo #[cW b, .string ctx] [.many 124 (Gr.blks G)] [.graph mb G] (fun u M' D'=>u= .tuple #[]∧ ∃G',GOk G' (iE σ b (some (wn σ f)))∧M'=[.many 124 (Gr.blks G')]∧D'=[.graph mb G'])):
    (Lw mb σ0 mu).Ok P fo #[] where
  kid:=fun x _ b hI hS=>(hI b hS).1
  op:=fun x b f ctx G hI hS hf hk hG=>by
    obtain⟨⟨f',h1,hft,hkid⟩,hst⟩:=hI b hS
    rw [hf]at h1
    injection h1 with h1
    subst h1
    refine(hop x.2 b f ctx G hf hft hG (fun bs hb c hc=>?_)).mono ?_
    · have hc':c∈cU f 28:=by unfold cU;rw [hb];exact hc
      obtain⟨h2,h3⟩:=hkid 28 aE c hc'
      obtain⟨⟨s,hs,_⟩,_⟩:=hI c h2
      exact⟨fun e=>by subst e;exact Nat.lt_irrefl _ h3,s,hs⟩
    rintro u M' D' ⟨rfl,G',hG',rfl,rfl⟩
    have hk': ∀ i∈cw,∀ c∈cU f i,lc σ0 x.2 c:=hk
    by_cases h28:f 28=none
    · rw [kx h28,gN hf]at hG'
      refine⟨rfl,x,G',hI,hG',rfl,rfl,fun o d h=>h,?_,fun d _=>rfl⟩
      rcases hst with h|h
      · intro e he
        cases he with
        |refl=>
          refine⟨⟨f,hf,h28⟩,fun v hv hu=>(xO _ _ _).2 ⟨f,hf,fun i hi hj=>?_⟩⟩
          have:=wa (σ:=x.2) hv hu (h▸hf) hft hk' i hi hj
          rwa [kx h28]at this
        |step hσ hi hc r=>
          rw [hf]at hσ
          injection hσ with hσ
          subst hσ
          exact hk' _ hi _ hc e r
      · exact h
    · have hnf: ¬ lc σ0 x.2 b:=fun h=>by
        obtain⟨⟨f',h1,h2⟩,_⟩:=h b (.refl b)
        rw [hf]at h1
        injection h1 with h1
        subst h1
        exact h28 h2
      have h0:x.2 b=σ0 b:=hst.resolve_right hnf
      have hne: ∀ d,lc σ0 x.2 d→ ∀ e,Rch x.2 d e→e≠b:=fun d hd e he heq=>by
        subst heq
        obtain⟨⟨f',h1,h2⟩,_⟩:=hd e he
        rw [hf]at h1
        injection h1 with h1
        subst h1
        exact h28 h2
      have hmv: ∀ d,lc σ0 x.2 d→lc σ0 (iE x.2 b (some (wn x.2 f))) d:=fun d hd=>E2 hd fun e he=>uA (hne d hd e he) _
      have hkF: ∀ i∈cw,∀ c∈cU (wn x.2 f) i,(fB d5 σ0 c∧mu c<mu b)∧lc σ0 x.2 c:=by
        intro i hi c hc
        obtain⟨fv,hfv,hcf⟩:=v8 hc
        refine E1 (p:=fun i fv=>i∈cw→ ∀ c∈db fv,(fB d5 σ0 c∧mu c<mu b)∧lc σ0 x.2 c) (fun bs hb c' hc' s hs i fv hsi hik c hcf=>?_) (fun i fv hfi hik c hcf=>?_) i fv hfv hi c hcf
        · have hc2:c'∈cU f 28:=by unfold cU;rw [hb];exact hc'
          obtain⟨h2,h3⟩:=hkid 28 aE c' hc2
          obtain⟨⟨s',hs',_,hk2⟩,_⟩:=hI c' h2
          rw [hs]at hs'
          injection hs' with hs'
          subst hs'
          have hcs:c∈cU s i:=by unfold cU;rw [hsi];exact hcf
          obtain⟨h4,h5⟩:=hk2 i hik c hcs
          refine⟨⟨h4,Nat.lt_trans h5 h3⟩,fun e he=>hk' 28 aE c' hc2 e (.step hs hik hcs he)⟩
        · have hcs:c∈cU f i:=by unfold cU;rw [hfi];exact hcf
          exact⟨hkid i hik c hcs,hk' i hik c hcs⟩
      have hftF:FT (wn x.2 f):=fun i fv hi hj hfv=>by
        refine E1 (p:=fun i fv=>1≤i→i≤36→lX (shIdx i) fv) (fun bs hb c' hc' s hs i fv hsi h1 h2=>?_) (fun i fv hfi h1 h2=>hft i fv h1 h2 hfi) i fv hfv hi hj
        have hc2:c'∈cU f 28:=by unfold cU;rw [hb];exact hc'
        obtain⟨⟨s',hs',hfs,_⟩,_⟩:=hI c' (hkid 28 aE c' hc2).1
        rw [hs]at hs'
        injection hs' with hs'
        subst hs'
        exact hfs i fv h1 h2 hsi
      have hF28:wn x.2 f 28=none:=by
        cases h:f 28 with
        |none=>exact absurd h h28
        |some fv=>
          have hok:=hft 28 fv aE aE h
          obtain⟨bs,rfl⟩:=qP hok
          rw [ky h];rfl
      have hfb:lc σ0 (iE x.2 b (some (wn x.2 f))) b:=by
        intro e he
        cases he with
        |refl=>
          refine⟨⟨_,vS _ _ _,hF28⟩,fun v hv hu=>(xO _ _ _).2 ⟨_,vS _ _ _,fun i hi hj=>?_⟩⟩
          refine gl hi hj (fun c z hik hc _ huz=>?_) (wa (σ:=x.2) hv hu (h0▸hf) hft hk' i hi hj)
          exact oB z c (fun d hd=>uA (hne c (hkF i hik c hc).2 d hd) _) huz
        |step hσ hi hc r=>
          rw [vS]at hσ
          injection hσ with hσ
          subst hσ
          exact hmv _ (hkF _ hi _ hc).2 e r
      refine⟨rfl,((),iE x.2 b (some (wn x.2 f))),G',fun d hd=>?_,hG',rfl,rfl,fun o d h=>hmv d h,hfb,fun d hd=>uA hd _⟩
      by_cases e:d=b
      · subst e
        exact⟨⟨_,vS _ _ _,hftF,fun i hi c hc=>(hkF i hi c hc).1⟩, .inr hfb⟩
      · obtain⟨⟨f1,h1,h2,h3⟩,h4⟩:=hI d hd
        refine⟨⟨f1,(uA e _).trans h1,h2,h3⟩,?_⟩
        rcases h4 with h4|h4
        · exact .inl ((uA e _).trans h4)
        · exact .inr (hmv d h4)
abbrev oN:ByteArray:=⟨#[111,98,106,101,99,116]⟩
def cu(z:V):Prop:=(getV z k3).isSome=true
noncomputable def refT(z:V):ByteArray:=((getV z k3).getD zV).text
def im(t:V)(name:ByteArray):Prop:=(((getV t k27).getD zV).kind=3∧((getV t k27).getD zV).text=name)∨(((getV t k27).getD zV).kind≠3∧ ∃y∈((getV t k27).getD zV).items,y.text=name)
def eG(t:V):Prop:=im t oN∨(getV t eY).isSome=true
def wb(t:V):Prop:= ¬ cn (fun z=> ¬ (getV z eY).isSome=true) t∨(getV t Kl).isSome=true
noncomputable def kp(z:V):V:=if z.kind=5 then z else l4 []
theorem sq(z:V):(kp z).kind=5:=by
 unfold kp
 split
 ·assumption
 ·rfl
theorem wc{z:V}(h:z.kind=5):kp z=z:=if_pos h
noncomputable def gu(g:ByteArray→V→V)(v:V):V:=l4 ((v.keys.zip v.items).map fun p=>(p.1,cQ (cM p.1) (g p.1) p.2))
open Classical in
noncomputable def dy(w:V):Nat→Bool→V→V
  |0,_,z=>kp z
  |n+1,one,z=>if cu z then(match PtV w (refT z)with
      |none=>kp z
      |some t=>if one=true∨eG t then kp z else dy w n false t)
    else gu (fun key=>dy w n (decide (key=eY))) z
def dY(w:V):Nat→Bool→V→Prop
  |0,_,_=>False
  |n+1,one,z=>(cu z→z.keys.length=1∧ ∃t,PtV w (refT z)=some t∧(one=true∨eG t∨(¬ eG t∧ ¬ wb t∧dY w n false t)))∧
      (¬ cu z→ ∀ p∈z.keys.zip z.items,∀ y∈kidsOf (cM p.1) p.2,dY w n (decide (p.1=eY)) y)
theorem pG{w z t:V}{n:Nat}{one:Bool}(h:cu z)(ht:PtV w (refT z)=some t)(hk:one=true∨eG t):dy w (n+1) one z=kp z:=by
 rw [dy,if_pos h,ht]
 exact if_pos hk
theorem jg{w z t:V}{n:Nat}{one:Bool}(h:cu z)(ht:PtV w (refT z)=some t)(hk: ¬ (one=true∨eG t)):dy w (n+1) one z=dy w n false t:=by
 rw [dy,if_pos h,ht]
 exact if_neg hk
theorem ji{w z:V}{n:Nat}{one:Bool}(h: ¬ cu z):dy w (n+1) one z=gu (fun key=>dy w n (decide (key=eY))) z:=by
 rw [dy,if_neg h]
theorem oQ{w:V}: ∀ (n:Nat) (one:Bool) (z:V),(dy w n one z).kind=5
  |0,one,z=>sq z
  |n+1,one,z=>by
    by_cases h:cu z
    · cases ht:PtV w (refT z)with
      |none=>rw [dy,if_pos h,ht];exact sq z
      |some t=>
        by_cases hk:one=true∨eG t
        · rw [pG h ht hk];exact sq z
        · rw [jg h ht hk];exact oQ n false t
    · rw [ji h];rfl
theorem ld{g g':V→V}{sh:Int}{x:V}(h: ∀ y∈kidsOf sh x,g y=g' y):cQ sh g x=cQ sh g' x:=by
 have al:(∀ y∈x.items.filter (fun y=>decide (y.kind=5)),g y=g' y)→ce g x=ce g' x:=fun h=>by
  unfold ce
  congr 1
  refine List.map_congr_left fun y hy=>?_
  by_cases hk:y.kind=5
  ·rw [xV hk,xV hk]
   exact h y (List.mem_filter.2 ⟨hy,decide_eq_true hk⟩)
  ·rw [uH hk,uH hk]
 unfold cQ
 unfold kidsOf at h
 split
 ·rename_i h5;rw [if_pos h5]at h;exact h x (List.mem_singleton.2 rfl)
 rename_i h5;rw [if_neg h5]at h
 split
 ·rename_i h6
  rw [if_pos h6]at h
  split
  ·rename_i hk;rw [if_pos hk]at h;exact h x (List.mem_singleton.2 rfl)
  ·rfl
 rename_i h6;rw [if_neg h6]at h
 split
 ·rename_i h7
  rw [if_pos h7]at h
  split
  ·rename_i hk;rw [if_pos hk]at h;exact h x (List.mem_singleton.2 rfl)
  ·rename_i hk;rw [if_neg hk]at h;exact al h
 rename_i h7;rw [if_neg h7]at h
 split
 ·rename_i h9;rw [if_pos h9]at h;exact al h
 ·rfl
theorem gR{w:V}: ∀ {n m:Nat} {one:Bool} {z:V},dY w n one z→n≤m→dY w m one z∧dy w m one z=dy w n one z:=by
  intro n
  induction n with
  |zero=>intro m one z h;exact h.elim
  |succ n ih=>
    intro m one z h hm
    obtain⟨m,rfl⟩: ∃q,m=q+1:=⟨m - 1,aC⟩
    have hm':n≤m:=by omega
    by_cases hr:cu z
    · obtain⟨h1,t,ht,hc⟩:=h.1 hr
      by_cases hk:one=true∨eG t
      · exact⟨⟨fun _=>⟨h1,t,ht,hk.imp id .inl⟩,fun h=>absurd hr h⟩,by rw [pG hr ht hk,pG hr ht hk]⟩
      · have hg: ¬ eG t∧ ¬ wb t∧dY w n false t:=by
          rcases hc with e|e|e
          · exact absurd (.inl e) hk
          · exact absurd (.inr e) hk
          · exact e
        have:=ih hg.2.2 hm'
        exact⟨⟨fun _=>⟨h1,t,ht, .inr (.inr ⟨hg.1,hg.2.1,this.1⟩)⟩,fun h=>absurd hr h⟩,by rw [jg hr ht hk,jg hr ht hk];exact this.2⟩
    · have h2:=h.2 hr
      refine⟨⟨fun h=>absurd h hr,fun _ p hp y hy=>(ih (h2 p hp y hy) hm').1⟩,?_⟩
      rw [ji hr,ji hr]
      unfold gu
      congr 1
      refine List.map_congr_left fun p hp=>?_
      exact congrArg _ (ld fun y hy=>(ih (h2 p hp y hy) hm').2)
theorem jj{v:V}(h:v.keys.length≤v.items.length)(g:ByteArray→V→V)(k:ByteArray):getV (gu g v) k=(getV v k).map (cQ (cM k) (g k)):=by
 rw [gu,km,pN h,ER (v.keys.zip v.items) (fun k=>cQ (cM k) (g k)) k]
theorem yx{U U':Nat→V→Prop}{g:ByteArray→V→V}(hg: ∀ k z,(g k z).kind=5){v:V}(hv:d5 v){i:Nat}{f:Flds}(h1:1≤i)(h2:i≤36)(h: ∀ c z key x,kwIdx key=i→getV v key=some x→z∈kidsOf (cM key) x→i∈cw→c∈cU f i→U c z→U' c (g key z))(hf:FldRel U v i (f i)):FldRel U' (gu g v) i (f i):=by
  cases hfi:f i with
  |none=>
    rw [hfi]at hf
    intro key hkw
    rw [jj hv.1.wf.le,hf key hkw];rfl
  |some fv=>
    rw [hfi]at hf
    obtain⟨key,x,hkw,hx,hr⟩:=hf
    have hsh:=pF hkw aC
    refine⟨key,cQ (cM key) (g key) x,hkw,by rw [jj hv.1.wf.le,hx];rfl,?_⟩
    have hfit:=(xN hv.2 hx).1
    have hz: ∀ z,z∈kidsOf (shIdx i) x→z∈kidsOf (cM key) x:=fun z h=>by rw [hsh];exact h
    rw [hsh]at hfit⊢
    exact FvRel.turn (hg key) hfit (fun c z hc hz' hu=>h c z key x hkw hx (hz z hz') (mc h1 h2 hr hc) bF hu) hr
structure RX where
 σ:cv
 w:V
 b:Nat
 f:Flds
 hw:d5 w
 hu:USig σ w b
 hf:σ b=some f
 hr: ¬ cu w
inductive RX.RS (c:RX):Bool→Nat→Prop where
  |top:RS c false c.b
  |kid {one:Bool} {d i e:Nat} {f:Flds} (h:RS c one d) (hf:c.σ d=some f) (hi:i∈cw) (he:e∈cU f i):RS c (decide (i=30)) e
def RX.One(c:RX):Prop:= ∀ d,c.RS true d→ ¬ c.RS false d
def RX.Tgt(c:RX)(ref:ByteArray)(t:Nat):Prop:= ∃p l,eP (iD c.w) ref=some p∧c.f (if p.2=kDefs then 32 else 23)=some (.named l)∧ ∃q∈l,q.1=oZ ref p.1 p.2∧q.2=t
def dz(f:Flds):Prop:=(f 27=some (.tyS oN)∨ ∃l,f 27=some (.tyL l)∧oN∈l)∨f 30≠none∨f 22≠none
def RX.Lnk(c:RX)(d t:Nat):Prop:= ∃f ref g,c.σ d=some f∧f 3=some (.text ref)∧c.Tgt ref t∧c.σ t=some g∧ ¬ dz g
def Eqv(f g:Flds):Prop:= ∀ i,1≤i→i≤36→f i=g i
theorem Eqv.kids{f g:Flds}(h:Eqv f g){i:Nat}(hi:i∈cw):cU f i=cU g i:=by
 have:=tV i hi
 unfold cU
 rw [h i this.1 this.2]
theorem Eqv.ft{f g:Flds}(h:Eqv f g)(hg:FT g):FT f:=fun i fv h1 h2 hf=>hg i fv h1 h2 (by rw [←h i h1 h2];exact hf)
theorem Eqv.keep{f g:Flds}(h:Eqv f g):dz f↔dz g:=by
 unfold dz
 rw [h 27 aE aE,h 30 aE aE,h 22 aE aE]
theorem E3{σ:cv}{z:V}{d e:Nat}{f g:Flds}(hd:σ d=some f)(he:σ e=some g)(h:Eqv f g)(hu:USig σ z e):USig σ z d:=by
 obtain⟨g',h1,h2⟩:=(xO _ _ _).1 hu
 obtain rfl:g'=g:=by rw [he]at h1;exact(Option.some.inj h1).symm
 exact(xO _ _ _).2 ⟨f,hd,fun i hi hj=>by rw [h i hi hj];exact h2 i hi hj⟩
theorem mg{U:Nat→V→Prop}{z:V}{o:Option FVal}(h:FldRel U z 3 o):(cu z→o=some (.text (refT z)))∧(¬ cu z→o=none):=by
  cases o with
  |none=>
    have hn:getV z k3=none:=h k3 aD
    refine⟨fun hr=>?_,fun _=>rfl⟩
    unfold cu at hr
    rw [hn]at hr
    cases hr
  |some fv=>
    obtain⟨key,x,hk,hg,hF⟩:=h
    obtain rfl:=Bk hk k3 aD aE
    refine⟨fun _=>?_,fun hr=>absurd (by unfold cu;rw [hg];rfl) hr⟩
    unfold refT
    rw [hg]
    exact congrArg some (jB hF)
theorem ql{z x:V}{key:ByteArray}(hz:d5 z)(h1:z.keys.length=1)(hr:cu z)(hg:getV z key=some x):key=k3:=by
  have hm: ∀ k y,getV z k=some y→k∈z.keys:=fun k y h=>(List.of_mem_zip ((xD hz.1 hz.2.kind).2 h)).1
  obtain⟨y,hy⟩:=Option.isSome_iff_exists.1 hr
  have a:=hm _ _ hg
  have b:=hm _ _ hy
  match hk:z.keys,h1 with
  |[k],_=>
    rw [hk]at a b
    rw [List.mem_singleton.1 a,List.mem_singleton.1 b]
theorem gv{U:Nat→V→Prop}{z:V}{f:Flds}(hz:d5 z)(h1:z.keys.length=1)(hr:cu z)(hU: ∀ i,1≤i→i≤36→FldRel U z i (f i)): ∀ i,1≤i→i≤36→i≠3→f i=none:=by
  intro i hi hj h3
  cases hf:f i with
  |none=>rfl
  |some fv=>
    have:=hU i hi hj
    rw [hf]at this
    obtain⟨key,x,hk,hg,_⟩:=this
    rw [ql hz h1 hr hg]at hk
    exact absurd (hk.symm.trans (by decide+kernel:kwIdx k3=3)) h3
theorem E4{key:ByteArray}{i:Nat}(h:kwIdx key=i)(hi:i∈cw):decide (key=eY)=decide (i=30):=by
 by_cases e:i=30
 ·rw [decide_eq_true e,decide_eq_true (Bk (h.trans e) eY aD aE)]
 ·rw [decide_eq_false e,decide_eq_false (fun ek=>e (by rw [←h,ek];decide+kernel))]
section
variable {c:RX}
theorem RX.told0{N:Nat}(ht:dY c.w N false c.w){one:Bool}{d:Nat}(h:c.RS one d): ∃n z,n≤N∧d5 z∧USig c.σ z d∧dY c.w n one z:=by
  induction h with
  |top=>exact⟨N,c.w,Nat.le_refl _,c.hw,c.hu,ht⟩
  | @kid one d i e f h hf hi he ih=>
    obtain⟨n,z,hnN,hz,hu,hn⟩:=ih
    obtain⟨f',h1,hU⟩:=(xO _ _ _).1 hu
    obtain rfl:f'=f:=by rw [hf]at h1;exact(Option.some.inj h1).symm
    have hle:=tV i hi
    cases n with
    |zero=>exact hn.elim
    |succ n=>
      by_cases hr:cu z
      · have:=gv hz (hn.1 hr).1 hr hU i hle.1 hle.2 (fun e=>by subst e;exact absurd hi aE)
        unfold cU at he
        rw [this]at he
        cases he
      · have hFi:=hU i hle.1 hle.2
        unfold cU at he
        cases hfi:f' i with
        |none=>rw [hfi]at he;cases he
        |some fv=>
          rw [hfi]at hFi he
          obtain⟨key,x,hk,hg,hF⟩:=hFi
          have hsh:=pF hk aC
          have hfit:=(xN hz.2 hg).1
          rw [hsh]at hfit
          obtain⟨y,hy,hue⟩:=hF.kid hfit he
          rw [←hsh]at hy
          have:=hn.2 hr (key,x) ((xD hz.1 hz.2.kind).2 hg) y hy
          rw [E4 hk hi]at this
          have hkid:=xH hz.1 hz.2.kind hg hy
          exact⟨n,y,aC,⟨vP hz.1 hkid,wH hz.1 hz.2 hkid⟩,hue,this⟩
theorem RX.told{N:Nat}(ht:dY c.w N false c.w){one:Bool}{d:Nat}(h:c.RS one d): ∃n z,d5 z∧USig c.σ z d∧dY c.w n one z:=by
 obtain⟨n,z,_,h1⟩:=c.told0 ht h
 exact⟨n,z,h1⟩
theorem RX.tgt{ref:ByteArray}{tz:V}(h:PtV c.w ref=some tz): ∃t,c.Tgt ref t∧USig c.σ tz t∧c.RS false t∧d5 tz:=by
  unfold PtV at h
  cases hh:eP (iD c.w) ref with
  |none=>rw [hh]at h;cases h
  |some p=>
    rw [hh,Option.bind_some]at h
    cases ha:getV c.w p.2 with
    |none=>rw [ha]at h;cases h
    |some all=>
      rw [ha,Option.bind_some]at h
      obtain⟨f',h1,hU⟩:=(xO _ _ _).1 c.hu
      obtain rfl:f'=c.f:=by have:=c.hf;rw [h1]at this;exact Option.some.inj this
      have hpt:=(jK hh).2.2
      obtain⟨l,ps,hd,hpp,hperm,hall⟩:=JZ hU hpt ha
      have h9:=H2 hpt
      obtain⟨hpa,hk5,hit⟩:=yg c.hw.2 c.hw.1 h9 ha
      have hm:=hperm.mem_iff.2 ((xD hpa hk5).2 h)
      obtain⟨i,hi,he⟩:=List.getElem_of_mem hm
      have hil:i<l.length:=by rw [hall.1];exact hi
      have hq:=hall.2 i _ _ (List.getElem?_eq_getElem hil) (List.getElem?_eq_getElem hi)
      rw [he]at hq
      have hsz:=hit tz (uU h)
      have hfq:c.f (if p.2=kDefs then 32 else 23)=some (FVal.named l):=by
        split
        · rename_i e;exact hd e
        · rename_i e;exact hpp (hpt.resolve_left e)
      refine⟨l[i].2,⟨p,l,hh,hfq,l[i],List.getElem_mem hil,hq.1,rfl⟩,hq.2,?_,hsz.2.2,hsz.2.1⟩
      have hmem:l[i].2∈cU c.f (if p.2=kDefs then 32 else 23):=by
        unfold cU
        rw [hfq]
        exact List.mem_map.2 ⟨l[i],List.getElem_mem hil,rfl⟩
      have:=RX.RS.kid (c:=c) .top h1 (i:=if p.2=kDefs then 32 else 23) (by split<;>decide) hmem
      have e:decide ((if p.2=kDefs then 32 else 23)=30)=false:=by split<;>rfl
      rw [e]at this
      exact this
theorem Gq{α β:Type}{g:α→β}{l:List α}(h:(l.map g).Nodup){a b:α}(ha:a∈l)(hb:b∈l)(e:g a=g b):a=b:=by
  induction l with
  |nil=>cases ha
  |cons x l ih=>
    rw [List.map_cons,List.nodup_cons]at h
    rcases List.mem_cons.1 ha with ea|ha2
    · rcases List.mem_cons.1 hb with eb|hb2
      · exact ea.trans eb.symm
      · exact(h.1 (List.mem_map.2 ⟨b,hb2,by rw [←e,ea]⟩)).elim
    · rcases List.mem_cons.1 hb with eb|hb2
      · exact(h.1 (List.mem_map.2 ⟨a,ha2,by rw [e,eb]⟩)).elim
      · exact ih h.2 ha2 hb2
theorem RX.tgt_fun{ref:ByteArray}{t t':Nat}(h:c.Tgt ref t)(h':c.Tgt ref t'):t=t':=by
 obtain⟨p,l,h1,h2,q,hq,hn,rfl⟩:=h
 obtain⟨p',l',h1',h2',q',hq',hn',rfl⟩:=h'
 rw [h1]at h1'
 cases h1'
 rw [h2]at h2'
 cases h2'
 obtain⟨f',e1,hU⟩:=(xO _ _ _).1 c.hu
 obtain rfl:f'=c.f:=by have:=c.hf;rw [e1]at this;exact Option.some.inj this
 have hsplit: ∀ i,1≤i→i≤36→shIdx i=9→c.f i=some (FVal.named l)→q=q':=fun i hi hj h9 hf=>by
  have:=hU i hi hj
  rw [hf]at this
  obtain⟨key,x,hk,hg,hF⟩:=this
  rw [h9]at hF
  obtain⟨_,ps,hp,hA⟩:=hF
  have hsub:=yg c.hw.2 c.hw.1 (by rw [pF hk aC];exact h9) hg
  have hnd:(l.map (·.1)).Nodup:=by
   have e:l.map (·.1)=ps.map (·.1):=hA.map_eq (fun a b _ _ h=>h.1)
   rw [e]
   exact((hp.map _).nodup_iff).2 (map_fst_zip' (Ec hsub.1 hsub.2.1))
  exact Gq hnd hq hq' (hn.trans hn'.symm)
 split at h2
 ·rw [hsplit 32 aE aE aE h2]
 ·rw [hsplit 23 aE aE aE h2]
theorem RX.lnk_fun{d t t':Nat}(h:c.Lnk d t)(h':c.Lnk d t'):t=t':=by
 obtain⟨f,ref,g,h1,h2,h3,_⟩:=h
 obtain⟨f',ref',g',h1',h2',h3',_⟩:=h'
 rw [h1]at h1'
 cases h1'
 rw [h2]at h2'
 cases h2'
 exact c.tgt_fun h3 h3'
theorem oT{U:Nat→V→Prop}{z:V}{f:Flds}(hU: ∀ i,1≤i→i≤36→FldRel U z i (f i)):dz f↔eG z∨(getV z Kl).isSome=true:=by
  have some_iff: ∀ i key,1≤i→i≤36→kwIdx key=i→(f i≠none↔(getV z key).isSome=true):=fun i key hi hj hk=>by
    have:=hU i hi hj
    cases hf:f i with
    |none=>rw [hf]at this;rw [this key hk];simp
    |some fv=>
      rw [hf]at this
      obtain⟨key',x,hk',hg,_⟩:=this
      obtain rfl:=Bk hk' key hk aC
      rw [hg]
      simp
  have h27:(f 27=some (.tyS oN)∨ ∃l,f 27=some (.tyL l)∧oN∈l)↔im z oN:=by
    have:=hU 27 aE aE
    unfold im
    cases hf:f 27 with
    |none=>
      rw [hf]at this
      rw [this k27 aD]
      constructor
      · rintro (h|⟨l,h,_⟩)<;>cases h
      · rintro (h|⟨_,y,hy,_⟩)
        · exact absurd h.1 aE
        · cases hy
    |some fv=>
      rw [hf]at this
      obtain⟨key,x,hk,hg,hF⟩:=this
      obtain rfl:=Bk hk k27 aD aE
      rw [hg]
      show _↔(x.kind=3∧x.text=oN)∨(x.kind≠3∧ ∃y∈x.items,y.text=oN)
      have hF:FvRel U 12 x fv:=hF
      cases fv with
      |tyS s=>
        obtain⟨_,h3,rfl⟩:=hF
        constructor
        · rintro (h|⟨l,h,_⟩)
          · injection h with h;injection h with h;exact .inl ⟨h3,h⟩
          · cases h
        · rintro (h|h)
          · rw [h.2];exact .inl rfl
          · exact absurd h3 h.1
      |tyL l=>
        obtain⟨_,h4,rfl⟩:=hF
        constructor
        · rintro (h|⟨l,h,hm⟩)
          · cases h
          · injection h with h
            injection h with h
            rw [←h]at hm
            obtain⟨y,hy,hyt⟩:=List.mem_map.1 hm
            exact .inr ⟨aC,y,hy,hyt⟩
        · rintro (h|⟨_,y,hy,hyt⟩)
          · omega
          · exact .inr ⟨_,rfl,List.mem_map.2 ⟨y,hy,hyt⟩⟩
      |_=>simp [FvRel]at hF
  unfold dz eG
  rw [h27,some_iff 30 eY aE aE aD,some_iff 22 Kl aE aE aD,or_assoc]
inductive RX.Ch (c:RX):Nat→Nat→Prop where
  |refl (d:Nat):Ch c d d
  |step {d t e:Nat} (h:c.Lnk d t) (k:Ch c t e):Ch c d e
theorem RX.Ch.trans{a b d:Nat}(h:c.Ch a b)(k:c.Ch b d):c.Ch a d:=by
  induction h with
  |refl=>exact k
  |step h1 _ ih=>exact .step h1 (ih k)
theorem RX.Ch.stay{d e:Nat}(h:c.Ch d e)(hn: ∀ t,¬ c.Lnk d t):e=d:=by
  cases h with
  |refl=>rfl
  |step h1 _=>exact absurd h1 (hn _)
theorem RX.refs{N:Nat}(ht:dY c.w N false c.w){one:Bool}{d:Nat}{f:Flds}{ref:ByteArray}(h:c.RS one d)(hf:c.σ d=some f)(hr:f 3=some (.text ref)):
    (∀ i,1≤i→i≤36→i≠3→f i=none)∧ ∃t tz,PtV c.w ref=some tz∧c.Tgt ref t∧USig c.σ tz t∧c.RS false t∧d5 tz:=by
  obtain⟨n,z,hz,hu,hn⟩:=c.told ht h
  obtain⟨f',h1,hU⟩:=(xO _ _ _).1 hu
  obtain rfl:f'=f:=by rw [hf]at h1;exact(Option.some.inj h1).symm
  cases n with
  |zero=>exact hn.elim
  |succ n=>
    have h3:=mg (hU 3 aE aE)
    by_cases hz3:cu z
    · have e:=h3.1 hz3
      rw [hr]at e
      injection e with e
      injection e with e
      obtain⟨hl,tz,hp,_⟩:=hn.1 hz3
      rw [←e]at hp
      obtain⟨t,h4,h5,h6,h7⟩:=c.tgt hp
      exact⟨gv hz hl hz3 hU,t,tz,hp,h4,h5,h6,h7⟩
    · have e:=h3.2 hz3
      rw [hr]at e
      cases e
theorem RX.lnk_ref{d t:Nat}(h:c.Lnk d t): ∃f ref,c.σ d=some f∧f 3=some (.text ref)∧c.Tgt ref t:=by
 obtain⟨f,ref,g,h1,h2,h3,_⟩:=h
 exact⟨f,ref,h1,h2,h3⟩
theorem RX.lnk_rs{N:Nat}(ht:dY c.w N false c.w){one:Bool}{d t:Nat}(hd:c.RS one d)(h:c.Lnk d t):c.RS false t:=by
 obtain⟨f,ref,h1,h2,h3⟩:=c.lnk_ref h
 obtain⟨_,t',tz,_,h4,_,h5,_⟩:=c.refs ht hd h1 h2
 rw [c.tgt_fun h3 h4]
 exact h5
theorem RX.ch_rs{N:Nat}(ht:dY c.w N false c.w){d e:Nat}(h:c.Ch d e):c.RS false d→c.RS false e:=by
  induction h with
  |refl=>exact id
  |step h1 _ ih=>exact fun hd=>ih (c.lnk_rs ht hd h1)
def RX.Lv(c:RX)(n d:Nat):Prop:= ∀ one,c.RS one d→ ∃z,d5 z∧USig c.σ z d∧dY c.w n one z
structure RX.Mu(c:RX)(mu:Nat→Nat):Prop where
 kid: ∀ {one d f},c.RS one d→c.σ d=some f→FT f∧ ∀ i∈cw,∀ e∈cU f i,mu e<mu d
 lnk: ∀ {d t},c.RS false d→c.Lnk d t→mu t<mu d
theorem RX.mu_ex{N:Nat}(ht:dY c.w N false c.w)(h1:c.One): ∃mu,c.Mu mu∧ ∀ d,mu d≤N:=by
  have flag: ∀ {o o' d},c.RS o d→c.RS o' d→o=o':=by
    intro o o' d h h'
    cases o<;>cases o'
    · rfl
    · exact absurd h (h1 d h')
    · exact absurd h' (h1 d h)
    · rfl
  have ex: ∀ d,∃m,m≤N∧ ∀ one,c.RS one d→c.Lv m d∧ ∀ k,c.Lv k d→m≤k:=by
    intro d
    by_cases hd: ∃one,c.RS one d
    · obtain⟨one,hd⟩:=hd
      obtain⟨n,z,hnN,hz,hu,hn⟩:=c.told0 ht hd
      obtain⟨m,hm,hl⟩:=qd (p:=fun n=>c.Lv n d) n (fun o ho=>by rw [flag ho hd];exact⟨z,hz,hu,hn⟩)
      exact⟨m,Nat.le_trans (hl n (fun o ho=>by rw [flag ho hd];exact⟨z,hz,hu,hn⟩)) hnN,fun _ _=>⟨hm,hl⟩⟩
    · exact⟨0,Nat.zero_le _,fun one h=>absurd ⟨one,h⟩ hd⟩
  refine⟨fun d=>(ex d).choose,⟨?_,?_⟩,fun d=>(ex d).choose_spec.1⟩
  · intro one d f hd hf
    obtain⟨hL,_⟩:=(ex d).choose_spec.2 one hd
    obtain⟨z,hz,hu,hn⟩:=hL one hd
    obtain⟨f',e1,hFT⟩:=AW hu
    obtain rfl:f'=f:=by rw [hf]at e1;exact(Option.some.inj e1).symm
    refine⟨hFT,fun i hi e he=>?_⟩
    have hrs:=RX.RS.kid hd hf hi he
    obtain⟨f2,h2,hU⟩:=(xO _ _ _).1 hu
    obtain rfl:f2=f':=by rw [hf]at h2;exact(Option.some.inj h2).symm
    have hle:=tV i hi
    show(ex e).choose<(ex d).choose
    match hm:(ex d).choose,hn with
    |0,hn=>exact hn.elim
    |n+1,hn=>
      refine Nat.lt_succ_of_le (((ex e).choose_spec.2 _ hrs).2 n fun o ho=>?_)
      rw [flag ho hrs]
      by_cases hr:cu z
      · have:=gv hz (hn.1 hr).1 hr hU i hle.1 hle.2 (fun e=>by subst e;exact absurd hi aE)
        unfold cU at he
        rw [this]at he
        cases he
      · have hFi:=hU i hle.1 hle.2
        unfold cU at he
        cases hfi:f2 i with
        |none=>rw [hfi]at he;cases he
        |some fv=>
          rw [hfi]at hFi he
          obtain⟨key,x,hk,hg,hF⟩:=hFi
          have hsh:=pF hk aC
          have hfit:=(xN hz.2 hg).1
          rw [hsh]at hfit
          obtain⟨y,hy,hue⟩:=hF.kid hfit he
          rw [←hsh]at hy
          have h5:=hn.2 hr (key,x) ((xD hz.1 hz.2.kind).2 hg) y hy
          rw [E4 hk hi]at h5
          have hkid:=xH hz.1 hz.2.kind hg hy
          exact⟨y,⟨vP hz.1 hkid,wH hz.1 hz.2 hkid⟩,hue,h5⟩
  · intro d t hd hl
    have hrt:=c.lnk_rs ht hd hl
    obtain⟨hL,_⟩:=(ex d).choose_spec.2 _ hd
    obtain⟨z,hz,hu,hn⟩:=hL _ hd
    obtain⟨f2,h2,hU⟩:=(xO _ _ _).1 hu
    obtain⟨f,ref,g,e1,e2,e3,e4,e5⟩:=hl
    obtain rfl:f2=f:=by rw [e1]at h2;exact(Option.some.inj h2).symm
    have h3:=mg (hU 3 aE aE)
    show(ex t).choose<(ex d).choose
    match hm:(ex d).choose,hn with
    |0,hn=>exact hn.elim
    |n+1,hn=>
      refine Nat.lt_succ_of_le (((ex t).choose_spec.2 _ hrt).2 n fun o ho=>?_)
      rw [flag ho hrt]
      by_cases hr:cu z
      · have e:=h3.1 hr
        rw [e2]at e
        injection e with e
        injection e with e
        obtain⟨_,tz,hp,hc⟩:=hn.1 hr
        rw [←e]at hp
        obtain⟨t',h4,h5,h6,h7⟩:=c.tgt hp
        obtain rfl:=c.tgt_fun e3 h4
        obtain⟨g',h8,hUt⟩:=(xO _ _ _).1 h5
        obtain rfl:g'=g:=by rw [e4]at h8;exact(Option.some.inj h8).symm
        have hk:=oT hUt
        rcases hc with hc|hc|hc
        · cases hc
        · exact absurd (hk.2 (.inl hc)) e5
        · exact⟨tz,h7,h5,hc.2.2⟩
      · have e:=h3.2 hr
        rw [e2]at e
        cases e
end
structure RX.Inv(c:RX)(ε:Nat→Nat)(σ:cv):Prop where
 fls: ∀ d,c.RS false d→c.Ch d (ε d)
 tru: ∀ d,c.RS true d→ε d=d
 eq: ∀ one d,c.RS one d→ ∃f g,σ d=some f∧c.σ (ε d)=some g∧Eqv f g
section
variable {c:RX} {N:Nat} {mu:Nat→Nat} {ε:Nat→Nat} {σ:cv}
theorem RX.inv0(ht:dY c.w N false c.w):c.Inv id c.σ where
 fls:=fun d _=> .refl d
 tru:=fun d _=>rfl
 eq:=fun one d hd=>by
  obtain⟨n,z,_,hu,_⟩:=c.told ht hd
  obtain⟨f,h1,_⟩:=(xO _ _ _).1 hu
  exact⟨f,f,h1,h1,fun i _ _=>rfl⟩
theorem RX.Ch.two{d e:Nat}(h:c.Ch d e):e=d∨ ∃t,c.Lnk d t∧c.Ch t e:=by
  cases h with
  |refl=>exact .inl rfl
  |step a b=>exact .inr ⟨_,a,b⟩
theorem RX.ch_mu(ht:dY c.w N false c.w)(hmu:c.Mu mu){d e:Nat}(h:c.Ch d e):c.RS false d→mu e≤mu d:=by
  induction h with
  |refl=>exact fun _=>Nat.le_refl _
  |step h1 _ ih=>exact fun hd=>Nat.le_trans (ih (c.lnk_rs ht hd h1)) (Nat.le_of_lt (hmu.lnk hd h1))
theorem RX.Inv.rs(hI:c.Inv ε σ)(ht:dY c.w N false c.w){one:Bool}{d:Nat}(h:c.RS one d):c.RS one (ε d):=by
  cases one with
  |true=>rw [hI.tru d h];exact h
  |false=>exact c.ch_rs ht (hI.fls d h) h
theorem RX.Inv.kid(hI:c.Inv ε σ)(ht:dY c.w N false c.w)(hmu:c.Mu mu){one:Bool}{d:Nat}(h:c.RS one d): ∃f,σ d=some f∧FT f∧ ∀ i∈cw,∀ e∈cU f i,c.RS (decide (i=30)) e∧mu e<mu d:=by
  obtain⟨f,g,h1,h2,h3⟩:=hI.eq one d h
  have hr:=hI.rs ht h
  obtain⟨h4,h5⟩:=hmu.kid hr h2
  refine⟨f,h1,h3.ft h4,fun i hi e he=>?_⟩
  rw [h3.kids hi]at he
  refine⟨.kid hr h2 hi he,Nat.lt_of_lt_of_le (h5 i hi e he) ?_⟩
  cases one with
  |true=>rw [hI.tru d h];exact Nat.le_refl _
  |false=>exact c.ch_mu ht hmu (hI.fls d h) h
def RX.Nk(c:RX)(d:Nat):Prop:= ∃g,c.σ d=some g∧ ¬ dz g
theorem RX.ch_nk{d e:Nat}(h:c.Ch d e):c.Nk d→c.Nk e:=by
  induction h with
  |refl=>exact id
  |step h1 _ ih=>
    obtain⟨_,_,g,_,_,_,h2,h3⟩:=h1
    exact fun _=>ih ⟨g,h2,h3⟩
theorem yy{f:Flds}(h: ∀ i,1≤i→i≤36→i≠3→f i=none): ¬ dz f:=by
 unfold dz
 rw [h 27 aE aE aE,h 30 aE aE aE,h 22 aE aE aE]
 rintro ((h|⟨l,h,_⟩)|h|h)
 ·cases h
 ·cases h
 ·exact h Z
 ·exact h Z
theorem RX.Inv.keep(hI:c.Inv ε σ)(ht:dY c.w N false c.w){t:Nat}{f g:Flds}(h:c.RS false t)(hf:σ t=some f)(hg:c.σ t=some g):dz f↔dz g:=by
 obtain⟨f',g',h1,h2,h3⟩:=hI.eq false t h
 obtain rfl:f'=f:=by rw [hf]at h1;exact(Option.some.inj h1).symm
 rcases(hI.fls t h).two with he|⟨t1,hl,hk⟩
 ·rw [he]at h2
  obtain rfl:g'=g:=by rw [hg]at h2;exact(Option.some.inj h2).symm
  exact h3.keep
 ·obtain⟨f0,ref,e1,e2,_⟩:=c.lnk_ref hl
  obtain rfl:f0=g:=by rw [hg]at e1;exact(Option.some.inj e1).symm
  have hn:=yy (c.refs ht h e1 e2).1
  obtain⟨g2,a1,a2⟩:=c.ch_nk (hI.fls t h) ⟨_,e1,hn⟩
  obtain rfl:g2=g':=by rw [h2]at a1;exact(Option.some.inj a1).symm
  exact⟨fun h=>absurd (h3.keep.1 h) a2,fun h=>absurd h hn⟩
theorem RX.Inv.put(hI:c.Inv ε σ)(ht:dY c.w N false c.w)(h1:c.One)(hmu:c.Mu mu){d t:Nat}{f g:Flds}{ref:ByteArray}(hd:c.RS false d)(hf:σ d=some f)(hr:f 3=some (.text ref))(hT:c.Tgt ref t)(hg:σ t=some g)(hk: ¬ dz g):
    c.Inv (fun x=>if x=d then ε t else ε x) (iE σ d (some (jp (f.put 3 none) g)))∧mu (ε t)<mu (ε d):=by
  obtain⟨f',f0,e1,e2,e3⟩:=hI.eq false d hd
  obtain rfl:f'=f:=by rw [hf]at e1;exact(Option.some.inj e1).symm
  have hde:=hI.rs ht hd
  have hr0:f0 3=some (.text ref):=by rw [←e3 3 aE aE];exact hr
  obtain⟨hal,t',tz,hp,hT',hut,hrt,hst⟩:=c.refs ht hde e2 hr0
  obtain rfl:=c.tgt_fun hT hT'
  obtain⟨g0,hg0,_⟩:=(xO _ _ _).1 hut
  have hL:c.Lnk (ε d) t:=⟨f0,ref,g0,e2,hr0,hT,hg0,fun h=>hk ((hI.keep ht hrt hg hg0).2 h)⟩
  obtain⟨g',g2,a1,a2,a3⟩:=hI.eq false t hrt
  obtain rfl:g'=g:=by rw [hg]at a1;exact(Option.some.inj a1).symm
  refine⟨⟨fun x hx=>?_,fun x hx=>?_,fun one x hx=>?_⟩,Nat.lt_of_le_of_lt (c.ch_mu ht hmu (hI.fls t hrt) hrt) (hmu.lnk hde hL)⟩
  · by_cases e:x=d
    · subst e
      rw [if_pos rfl]
      exact(hI.fls x hd).trans (.step hL (hI.fls t hrt))
    · rw [if_neg e];exact hI.fls x hx
  · rw [if_neg (fun e:x=d=>h1 x hx (by rw [e];exact hd))]
    exact hI.tru x hx
  · by_cases e:x=d
    · subst e
      refine⟨_,g2,vS _ _ _,by rw [if_pos Z];exact a2,fun i hi hj=>?_⟩
      have hn:(f'.put 3 none) i=none:=by
        by_cases e:i=3
        · subst e;exact if_pos rfl
        · rw [show(f'.put 3 none) i=f' i from if_neg e,e3 i hi hj]
          exact hal i hi hj e
      unfold jp
      by_cases hm:i∈cpyL
      · rw [if_pos hm,hn,a3 i hi hj,Option.or_none]
      · rw [if_neg hm,hn]
        obtain⟨n,z,_,hu,_⟩:=c.told ht (hI.rs ht hrt)
        obtain⟨g3,h3,hU⟩:=(xO _ _ _).1 hu
        obtain rfl:g3=g2:=by rw [a2]at h3;exact(Option.some.inj h3).symm
        have hi45:i=4∨i=5:=by
          have:=vm ⟨i,aC⟩
          simp only at this
          rcases this with h|h|h|h
          · exact absurd h hm
          · omega
          · exact .inl h
          · exact .inr h
        exact(AY (hU i hi hj) hi45).symm
    · obtain⟨p,q,b1,b2,b3⟩:=hI.eq one x hx
      exact⟨p,q,(uA e _).trans b1,by rw [if_neg e];exact b2,b3⟩
theorem RX.ch_end{a x y:Nat}(h:c.Ch a x):c.Ch a y→(∀ t,¬ c.Lnk x t)→(∀ t,¬ c.Lnk y t)→x=y:=by
  induction h with
  |refl=>exact fun k h1 _=>(k.stay h1).symm
  |step h1 _ ih=>
    intro k hx hy
    cases k with
    |refl=>exact absurd h1 (hy _)
    |step h2 k2=>
      obtain rfl:=c.lnk_fun h1 h2
      exact ih k2 hx hy
theorem RX.Inv.fin(hI:c.Inv ε σ)(ht:dY c.w N false c.w)(hfix: ∀ d,c.RS false d→ ∀ t,¬ c.Lnk (ε d) t):
    ∀ (n:Nat) (z:V) (one:Bool) (d:Nat),c.RS one d→d5 z→dY c.w n one z→USig c.σ z d→USig σ (dy c.w n one z) d:=by
  intro n
  induction n with
  |zero=>intro z one d _ _ h;exact h.elim
  |succ n ih=>
    intro z one d hd hz hn hu
    obtain⟨f0,hf0,hU⟩:=(xO _ _ _).1 hu
    have h3:=mg (hU 3 aE aE)
    obtain⟨f,g,a1,a2,a3⟩:=hI.eq one d hd
    have stay:ε d=d→Eqv f f0:=fun e=>by
      rw [e,hf0]at a2
      rw [Option.some.inj a2]
      exact a3
    by_cases hr:cu z
    · obtain⟨hl,tz,hp,hc⟩:=hn.1 hr
      by_cases hk:one=true∨eG tz
      · rw [pG hr hp hk,wc hz.2.kind]
        have he:ε d=d:=by
          cases one with
          |true=>exact hI.tru d hd
          |false=>
            refine(hI.fls d hd).stay fun t hL=>?_
            obtain⟨f2,ref,g2,b1,b2,b3,b4,b5⟩:=hL
            obtain rfl:f2=f0:=by rw [hf0]at b1;exact(Option.some.inj b1).symm
            rw [h3.1 hr]at b2
            injection b2 with b2
            injection b2 with b2
            obtain⟨t',c1,c2,_⟩:=c.tgt hp
            rw [b2]at c1
            obtain rfl:=c.tgt_fun b3 c1
            obtain⟨g3,d1,hUt⟩:=(xO _ _ _).1 c2
            obtain rfl:g3=g2:=by rw [b4]at d1;exact(Option.some.inj d1).symm
            exact b5 ((oT hUt).2 (.inl (hk.resolve_left (fun e=>by cases e))))
        have hE:=stay he
        refine(xO _ _ _).2 ⟨f,a1,fun i hi hj=>?_⟩
        rw [hE i hi hj]
        refine gl hi hj (fun e x hik he _ _=>?_) (hU i hi hj)
        have:=gv hz hl hr hU i hi hj (fun e=>by subst e;exact absurd hik aE)
        unfold cU at he
        rw [this]at he
        cases he
      · rw [jg hr hp hk]
        have hone:one=false:=by cases one with|true=>exact absurd (.inl rfl) hk|false=>rfl
        subst hone
        have hg: ¬ eG tz∧ ¬ wb tz∧dY c.w n false tz:=by
          rcases hc with e|e|e
          · cases e
          · exact absurd (.inr e) hk
          · exact e
        obtain⟨t,c1,c2,c3,c4⟩:=c.tgt hp
        obtain⟨g2,d1,hUt⟩:=(xO _ _ _).1 c2
        have hL:c.Lnk d t:=⟨f0,refT z,g2,hf0,h3.1 hr,c1,d1,fun h=>((oT hUt).1 h).elim hg.1 (fun h=>hg.2.1 (.inr h))⟩
        have hit:=ih tz false t c3 c4 hg.2.2 c2
        have he:ε d=ε t:=by
          rcases(hI.fls d hd).two with e|⟨t1,hl2,k⟩
          · exact absurd (show c.Lnk (ε d) t from by rw [e];exact hL) (hfix d hd t)
          · obtain rfl:=c.lnk_fun hL hl2
            exact c.ch_end k (hI.fls t c3) (hfix d hd) (hfix t c3)
        obtain⟨p,q,b1,b2,b3⟩:=hI.eq false t c3
        refine E3 a1 b1 (fun i hi hj=>?_) hit
        rw [a3 i hi hj,b3 i hi hj]
        rw [he,b2]at a2
        rw [Option.some.inj a2]
    · rw [ji hr]
      have he:ε d=d:=by
        cases one with
        |true=>exact hI.tru d hd
        |false=>
          refine(hI.fls d hd).stay fun t hL=>?_
          obtain⟨f2,ref,b1,b2,_⟩:=c.lnk_ref hL
          obtain rfl:f2=f0:=by rw [hf0]at b1;exact(Option.some.inj b1).symm
          rw [h3.2 hr]at b2
          cases b2
      have hE:=stay he
      refine(xO _ _ _).2 ⟨f,a1,fun i hi hj=>?_⟩
      rw [hE i hi hj]
      refine yx (fun k z=>oQ n _ z) hz hi hj (fun e y key x hk hg hy hik hee hue=>?_) (hU i hi hj)
      have hkid:=xH hz.1 hz.2.kind hg hy
      refine ih y _ e ?_ ⟨vP hz.1 hkid,wH hz.1 hz.2 hkid⟩ (hn.2 hr (key,x) ((xD hz.1 hz.2.kind).2 hg) y hy) hue
      rw [E4 hk hik]
      exact .kid hd hf0 hik hee
inductive CR (σ:cv):Bool→Nat→Bool→Nat→Prop where
  |refl (one:Bool) (d:Nat):CR σ one d one d
  |step {one fl:Bool} {d e i x:Nat} {f:Flds} (h:σ d=some f) (hi:i∈cw) (he:e∈cU f i) (k:CR σ (decide (i=30)) e fl x):CR σ one d fl x
theorem CR.snoc{one fl:Bool}{d x i e:Nat}{f:Flds}(h:CR σ one d fl x)(hf:σ x=some f)(hi:i∈cw)(he:e∈cU f i):CR σ one d (decide (i=30)) e:=by
  induction h with
  |refl=>exact .step hf hi he (.refl _ _)
  |step h1 h2 h3 _ ih=>exact .step h1 h2 h3 (ih hf)
theorem RX.Inv.all(hI:c.Inv ε σ)(ht:dY c.w N false c.w){one:Bool}{d:Nat}(h:c.RS one d):CR σ false c.b one d:=by
  induction h with
  |top=>exact .refl _ _
  | @kid one d i e f h hf hi he ih=>
    obtain⟨p,q,b1,b2,b3⟩:=hI.eq one d h
    have hed:ε d=d:=by
      cases one with
      |true=>exact hI.tru d h
      |false=>
        refine(hI.fls d h).stay fun t hL=>?_
        obtain⟨f2,ref,c1,c2,_⟩:=c.lnk_ref hL
        obtain rfl:f2=f:=by rw [hf]at c1;exact(Option.some.inj c1).symm
        have hle:=tV i hi
        have:=(c.refs ht h c1 c2).1 i hle.1 hle.2 (fun e=>by subst e;exact absurd hi aE)
        unfold cU at he
        rw [this]at he
        cases he
    rw [hed,hf]at b2
    obtain rfl:=Option.some.inj b2
    exact ih.snoc b1 hi (by rw [b3.kids hi];exact he)
theorem Gs{l:List Nat}{m:Nat→Nat}{b x:Nat}(hb:b∈l)(hx:x<m b):(l.map (fun d=>if d=b then x else m d)).sum+1≤(l.map m).sum:=by
  have mono: ∀ l:List Nat,(l.map (fun d=>if d=b then x else m d)).sum≤(l.map m).sum:=by
    intro l
    induction l with
    |nil=>exact Nat.le_refl _
    |cons a l ih=>
      simp only [List.map_cons,List.sum_cons]
      by_cases e:a=b
      · subst e;rw [if_pos rfl];omega
      · rw [if_neg e];omega
  induction l with
  |nil=>cases hb
  |cons a l ih=>
    simp only [List.map_cons,List.sum_cons]
    by_cases e:a=b
    · subst e
      rw [if_pos rfl]
      have:=mono l
      omega
    · rw [if_neg e]
      have:=ih ((List.mem_cons.1 hb).resolve_left (Ne.symm e))
      omega
def Lx(c:RX)(mb:Nat)(X:Nat→List HA)(D0:List DA)(L:List Nat)(mu:Nat→Nat)(K:Nat):Trv (Nat×(Nat→Nat)) where
 mb:=mb
 X:=fun y=>X y.1
 D0:=D0
 I:=fun x=>c.Inv x.1.2 x.2∧x.1.1+(L.map (fun d=>mu (x.1.2 d))).sum≤K
 S:=fun one d=>c.RS one d
 mu:=mu
 dn:=fun x one d=>0<x.1.1∨ ∀ fl e,CR x.2 one d fl e→fl=false→ ∀ t,¬ c.Lnk (x.1.2 e) t
def H3(c:RX)(P:Program)(fo:FuncId)(cap:Array Value)(mb:Nat)(X:Nat→List HA)(D0:List DA)(K:Nat):Prop:=
  ∀ (n:Nat) (ε:Nat→Nat) (σ:cv) (b:Nat) (f:Flds) (ctx:ByteArray) (G:Gr),n≤K→c.Inv ε σ→c.RS (decide (ctx=dw)) b→σ b=some f→GOk G σ→
    Ct P fo (#[cW b, .string ctx]++cap) (.many 124 (Gr.blks G)::X n) (.graph mb G::D0) (fun u M' D'=>u= .tuple #[]∧ ∃G',D'=[.graph mb G']∧
      ((GOk G' σ∧M'= .many 124 (Gr.blks G')::X n∧(ctx=dw∨f 3=none∨ ∃ref t g,f 3=some (.text ref)∧c.Tgt ref t∧σ t=some g∧dz g))∨
       ∃ref t g,ctx≠dw∧f 3=some (.text ref)∧c.Tgt ref t∧σ t=some g∧ ¬ dz g∧GOk G' (iE σ b (some (jp (f.put 3 none) g)))∧M'= .many 124 (Gr.blks G')::X (n+1)))
theorem Je{P:Program}{fo:FuncId}{cap:Array Value}{mb K:Nat}{X:Nat→List HA}{D0:List DA}{L:List Nat}(ht:dY c.w N false c.w)(h1:c.One)(hmu:c.Mu mu)(hL: ∀ one d,c.RS one d→d∈L)(hop:H3 c P fo cap mb X D0 K):(Lx c mb X D0 L mu K).Ok P fo cap where
  kid:=fun x one b hI hS=>hI.1.kid ht hmu hS
  op:=fun x b f ctx G hI hS hf hk hG=>by
    have hn:x.1.1≤K:=Nat.le_trans (Nat.le_add_right _ _) hI.2
    refine(hop x.1.1 x.1.2 x.2 b f ctx G hn hI.1 hS hf hG).mono ?_
    rintro u M' D' ⟨rfl,G',rfl,h|h⟩
    · obtain⟨hG',rfl,hc⟩:=h
      refine⟨rfl,x,G',hI,hG',rfl,rfl,fun _ _=>id,?_,fun _ _=>rfl⟩
      by_cases h0:0<x.1.1
      · exact .inl h0
      refine .inr fun fl e hr hfl t hL=>?_
      cases hr with
      |step h2 hi he k=>
        rw [hf]at h2
        obtain rfl:=Option.some.inj h2
        exact((hk _ hi _ he).resolve_left h0) fl e k hfl t hL
      |refl=>
        have hS:c.RS (decide (ctx=dw)) b:=hS
        rw [hfl]at hS
        obtain⟨f',g0,e1,e2,e3⟩:=hI.1.eq false b hS
        obtain rfl:f'=f:=by rw [hf]at e1;exact(Option.some.inj e1).symm
        obtain⟨f2,ref,g2,a1,a2,a3,a4,a5⟩:=hL
        obtain rfl:f2=g0:=by rw [e2]at a1;exact(Option.some.inj a1).symm
        rw [←e3 3 aE aE]at a2
        rcases hc with hc|hc|⟨ref',t',g',b1,b2,b3,b4⟩
        · rw [decide_eq_true hc]at hfl;cases hfl
        · rw [hc]at a2;cases a2
        · rw [b1]at a2
          injection a2 with a2
          injection a2 with a2
          rw [a2]at b2
          obtain rfl:=c.tgt_fun a3 b2
          exact a5 ((hI.1.keep ht (c.lnk_rs ht (hI.1.rs ht hS) ⟨f2,ref,g2,e2,by rw [←e3 3 aE aE,b1,a2],a3,a4,a5⟩) b3 a4).1 b4)
    · obtain⟨ref,t,g,hc,b1,b2,b3,b4,hG',rfl⟩:=h
      have hS:c.RS (decide (ctx=dw)) b:=hS
      rw [decide_eq_false hc]at hS
      obtain⟨i1,i2⟩:=hI.1.put ht h1 hmu hS hf b1 b2 b3 b4
      refine⟨rfl,((x.1.1+1,fun y=>if y=b then x.1.2 t else x.1.2 y),iE x.2 b (some (jp (f.put 3 none) g))),G',⟨i1,?_⟩,hG',rfl,rfl,fun _ _ _=> .inl (Nat.succ_pos _), .inl (Nat.succ_pos _),fun d hd=>uA hd _⟩
      have h5:=Gs (m:=fun d=>mu (x.1.2 d)) (x:=mu (x.1.2 t)) (hL _ _ hS) i2
      have h6:=hI.2
      have e:(L.map (fun d=>mu (if d=b then x.1.2 t else x.1.2 d)))=L.map (fun d=>if d=b then mu (x.1.2 t)else mu (x.1.2 d)):=List.map_congr_left fun d _=>by split<;>rfl
      show x.1.1+1+(L.map (fun d=>mu (if d=b then x.1.2 t else x.1.2 d))).sum≤K
      rw [e]
      omega
end
noncomputable def dQ:V→Nat:=V.fix (fun v f=>1+((kidsV v).map f).sum)
theorem gS(v:V):dQ v=1+((kidsV v).map dQ).sum:=
 V.fix_eq (G:=fun v f=>1+((kidsV v).map f).sum) (fun t g g' h=>by
  show 1+((kidsV t).map g).sum=1+((kidsV t).map g').sum
  rw [List.map_congr_left fun z hz=>h z (wL hz)]) v
theorem Jf{α:Type}(l:List α)(g:α→List V)(m:V→Nat):((l.flatMap g).map m).sum=(l.map (fun p=>((g p).map m).sum)).sum:=by
  induction l with
  |nil=>rfl
  |cons a l ih=>rw [List.flatMap_cons,List.map_append,List.sum_append,List.map_cons,List.sum_cons,ih]
theorem jk{α:Type}{m:α→Nat}{Q:α→Nat→Prop}: ∀ {l:List α},(∀ p∈l,∃L:List Nat,L.length≤m p∧ ∀ x,Q p x→x∈L)→ ∃L:List Nat,L.length≤(l.map m).sum∧ ∀ p∈l,∀ x,Q p x→x∈L
  |[],_=>⟨[],Nat.zero_le _,fun p hp=>by cases hp⟩
  |a::l,h=>by
    obtain⟨L1,h1,h2⟩:=h a List.mem_cons_self
    obtain⟨L2,h3,h4⟩:=jk (l:=l) (fun p hp=>h p (List.mem_cons_of_mem _ hp))
    refine⟨L1++L2,by rw [List.length_append,List.map_cons,List.sum_cons];omega,fun p hp x hx=>?_⟩
    rcases List.mem_cons.1 hp with rfl|hp
    · exact List.mem_append_left _ (h2 x hx)
    · exact List.mem_append_right _ (h4 p hp x hx)
theorem wd{α β:Type}{R:α→β→Prop}{m:β→Nat}{Q:α→Nat→Prop}{l:List α}{l':List β}(h:All2 R l l')(hq: ∀ a b,a∈l→b∈l'→R a b→ ∃L:List Nat,L.length≤m b∧ ∀ x,Q a x→x∈L): ∃L:List Nat,L.length≤(l'.map m).sum∧ ∀ a∈l,∀ x,Q a x→x∈L:=by
 have hz: ∃L:List Nat,L.length≤((l.zip l').map (fun p:α×β=>m p.2)).sum∧ ∀ p∈l.zip l',∀ x,Q p.1 x→x∈L:=by
  refine jk (m:=fun p:α×β=>m p.2) (Q:=fun p:α×β=>Q p.1) fun p hp=>?_
  have hm:=List.of_mem_zip hp
  obtain⟨i,hi,rfl⟩:=List.getElem_of_mem hp
  rw [List.length_zip]at hi
  have h1:i<l.length:=by omega
  have h2:i<l'.length:=by omega
  rw [List.getElem_zip]at hm⊢
  exact hq _ _ hm.1 hm.2 (h.2 i _ _ (List.getElem?_eq_getElem h1) (List.getElem?_eq_getElem h2))
 obtain⟨L,h1,h2⟩:=hz
 have e:(l.zip l').map (fun p:α×β=>m p.2)=l'.map m:=by
  have:((l.zip l').map Prod.snd).map m=l'.map m:=by rw [uZ bI]
  rw [←this,List.map_map]
  rfl
 rw [e]at h1
 refine⟨L,h1,fun a ha x hx=>?_⟩
 obtain⟨i,hi,rfl⟩:=List.getElem_of_mem ha
 have h3:i<l'.length:=by rw [←h.1];exact hi
 have hp:(l[i],l'[i])∈l.zip l':=by
  refine List.mem_of_getElem? (i:=i) ?_
  rw [List.getElem?_zip_eq_some]
  exact⟨List.getElem?_eq_getElem hi,List.getElem?_eq_getElem h3⟩
 exact h2 _ hp x hx
theorem E5{l l':List Nat}(h:l.Perm l'):l.sum=l'.sum:=by
  induction h with
  |nil=>rfl
  |cons x _ ih=>rw [List.sum_cons,List.sum_cons,ih]
  |swap x y l=>simp only [List.sum_cons];omega
  |trans _ _ h1 h2=>exact h1.trans h2
theorem E6{σ:cv}(z:V): ∀ d,d5 z→USig σ z d→ ∃L:List Nat,L.length≤dQ z∧ ∀ x,Rch σ d x→x∈L:=by
  refine V.indS (p:=fun z=> ∀ d,d5 z→USig σ z d→ ∃L:List Nat,L.length≤dQ z∧ ∀ x,Rch σ d x→x∈L) (fun z IH d hz hu=>?_) z
  obtain⟨f,hf,hU⟩:=(xO _ _ _).1 hu
  have key: ∀ p∈z.keys.zip z.items,∃L:List Nat,L.length≤((kidsOf (cM p.1) p.2).map dQ).sum∧ ∀ x,(∃c∈cU f (kwIdx p.1),kwIdx p.1∈cw∧Rch σ c x)→x∈L:=by
    intro p hp
    by_cases hk:kwIdx p.1∈cw
    · have hle:=tV _ hk
      have hFi:=hU _ hle.1 hle.2
      cases hfi:f (kwIdx p.1)with
      |none=>exact⟨[],Nat.zero_le _,fun x ⟨c,hc,_⟩=>by unfold cU at hc;rw [hfi]at hc;cases hc⟩
      |some fv=>
        rw [hfi]at hFi
        obtain⟨key,x,hkw,hg,hF⟩:=hFi
        obtain rfl:=Bk hkw p.1 rfl aC
        have hgp:getV z p.1=some p.2:=(xD hz.1 hz.2.kind).1 hp
        have hpx:p.2=x:=Option.some.inj (hgp.symm.trans hg)
        have hsh:cM p.1=shIdx (kwIdx p.1):=pF rfl aC
        have hfit:=(xN hz.2 hgp).1
        have hkid: ∀ y∈kidsOf (cM p.1) p.2,d5 y∧SizeOf.sizeOf y<SizeOf.sizeOf z:=fun y hy=>by
          have:=xH hz.1 hz.2.kind hgp hy
          exact⟨⟨vP hz.1 this,wH hz.1 hz.2 this⟩,wL this⟩
        have hka:cU f (kwIdx p.1)=db fv:=by unfold cU;rw [hfi]
        rw [hka]
        rw [←hpx]at hF
        rw [hsh]at hfit hkid⊢
        have one: ∀ c,db fv=[c]→p.2∈kidsOf (shIdx (kwIdx p.1)) p.2→kidsOf (shIdx (kwIdx p.1)) p.2=[p.2]→USig σ p.2 c→ ∃L:List Nat,L.length≤((kidsOf (shIdx (kwIdx p.1)) p.2).map dQ).sum∧ ∀ x,(∃c∈db fv,kwIdx p.1∈cw∧Rch σ c x)→x∈L:=by
          intro c hc hm hk1 hu
          obtain⟨h1,h2⟩:=hkid _ hm
          obtain⟨L,h3,h4⟩:=IH p.2 h2 c h1 hu
          refine⟨L,by rw [hk1];simpa using h3,fun x ⟨c',hc',_,hr⟩=>?_⟩
          rw [hc]at hc'
          rw [List.mem_singleton.1 hc']at hr
          exact h4 x hr
        have lst: ∀ bs:List Nat,db fv=bs→kidsOf (shIdx (kwIdx p.1)) p.2=p.2.items→All2 (fun b x=>USig σ x b) bs p.2.items→ ∃L:List Nat,L.length≤((kidsOf (shIdx (kwIdx p.1)) p.2).map dQ).sum∧ ∀ x,(∃c∈db fv,kwIdx p.1∈cw∧Rch σ c x)→x∈L:=by
          intro bs hb hk1 hA
          rw [hk1]at hkid⊢
          obtain⟨L,h3,h4⟩:=wd (m:=dQ) (Q:=fun c x=>Rch σ c x) hA (fun b y _ hy hu=>IH y (hkid y hy).2 b (hkid y hy).1 hu)
          rw [hb]
          exact⟨L,h3,fun x ⟨c,hc,_,hr⟩=>h4 c hc x hr⟩
        revert one lst
        generalize shIdx (kwIdx p.1)=sh at*
        intro one lst
        cases fv with
        |sbS b=>obtain⟨rfl,h5,hu⟩:=hF;exact one b rfl br br hu
        |itS b=>obtain⟨rfl,h5,hu⟩:=hF;exact one b rfl br br hu
        |one b=>obtain⟨rfl,hu⟩:=hF;exact one b rfl cG cG hu
        |itL bs=>
          obtain⟨rfl,h4,hA⟩:=hF
          have hi: ∀ y∈p.2.items,y.kind=5:=by simpa [cT,h4]using hfit
          exact lst bs Z (gf h4 hi) hA
        |list bs=>
          obtain⟨rfl,hA⟩:=hF
          have hi:p.2.kind=4∧ ∀ y∈p.2.items,y.kind=5:=by simpa [cT]using hfit
          exact lst bs Z (eO hi.2) hA
        |named l=>
          obtain⟨rfl,ps,hp2,hA⟩:=hF
          have hi:p.2.kind=5∧ ∀ y∈p.2.items,y.kind=5:=by simpa [cT]using hfit
          rw [kU hi.2]at hkid⊢
          obtain⟨L,h3,h4⟩:=wd (m:=fun q:ByteArray×V=>dQ q.2) (Q:=fun(q:ByteArray×Nat) x=>Rch σ q.2 x) hA (fun q r _ hr hu=>by
            have hy:=(List.of_mem_zip (hp2.mem_iff.1 hr)).2
            exact IH r.2 (hkid _ hy).2 q.2 (hkid _ hy).1 hu.2)
          have e:(ps.map (fun q=>dQ q.2)).sum≤(p.2.items.map dQ).sum:=by
            rw [E5 (hp2.map _)]
            have:((p.2.keys.zip p.2.items).map (fun q=>dQ q.2))=((p.2.keys.zip p.2.items).map Prod.snd).map dQ:=by rw [List.map_map];rfl
            have hlen:=(hz.1.item _ (uU hgp)).wf.eq hi.1
            rw [this,uZ aC]
            exact Nat.le_refl _
          refine⟨L,Nat.le_trans h3 e,fun x ⟨c,hc,_,hr⟩=>?_⟩
          obtain⟨q,hq,rfl⟩:=List.mem_map.1 hc
          exact h4 q hq x hr
        |_=>exact⟨[],Nat.zero_le _,fun x ⟨c,hc,_⟩=>by cases hc⟩
    · exact⟨[],Nat.zero_le _,fun x ⟨c,_,h,_⟩=>absurd h hk⟩
  obtain⟨L,h1,h2⟩:=jk (m:=fun p:ByteArray×V=>((kidsOf (cM p.1) p.2).map dQ).sum) (Q:=fun p x=> ∃c∈cU f (kwIdx p.1),kwIdx p.1∈cw∧Rch σ c x) key
  refine⟨d::L,?_,fun x hx=>?_⟩
  · rw [gS,kidsV,Jf,List.length_cons]
    omega
  · cases hx with
    |refl=>exact List.mem_cons_self
    |step h hi hc r=>
      rw [hf]at h
      obtain rfl:=Option.some.inj h
      have hle:=tV _ hi
      have hFi:=hU _ hle.1 hle.2
      have hc0:=hc
      unfold cU at hc
      cases hfi:f _ with
      |none=>rw [hfi]at hc;cases hc
      |some fv=>
        rw [hfi]at hFi
        obtain⟨key,y,hkw,hg,_⟩:=hFi
        subst hkw
        exact List.mem_cons_of_mem _ (h2 (key,y) ((xD hz.1 hz.2.kind).2 hg) x ⟨_,hc0,hi,r⟩)
theorem RX.rs_rch{c:RX}{one:Bool}{d:Nat}(h:c.RS one d):Rch c.σ c.b d:=by
  induction h with
  |top=>exact .refl _
  |kid h hf hi he ih=>exact ih.trans (.step hf hi he (.refl _))
theorem E7{α:Type}{F:α→List Nat}{l:List α}{a a':α}{d:Nat}(hn:(l.flatMap F).Nodup)(ha:a∈l)(ha':a'∈l)(h:d∈F a)(h':d∈F a'):a=a'∧(F a).Nodup:=by
  induction l with
  |nil=>cases ha
  |cons x l ih=>
    rw [List.flatMap_cons]at hn
    obtain⟨h1,h2,h3⟩:=List.nodup_append.1 hn
    rcases List.mem_cons.1 ha with rfl|hb
    · rcases List.mem_cons.1 ha' with rfl|hb'
      · exact⟨rfl,h1⟩
      · exact absurd Z (h3 d h d (List.mem_flatMap.2 ⟨_,hb',h'⟩))
    · rcases List.mem_cons.1 ha' with rfl|hb'
      · exact absurd Z (h3 d h' d (List.mem_flatMap.2 ⟨_,hb,h⟩))
      · exact ih h2 hb hb'
theorem Gt{c:RX}{G:Gr}(hG:GOk G c.σ)(ho:Own G [c.b]):c.One:=by
  have hn:(c.b::G.flatMap (fun g=>iR g.2.2)).Nodup:=ho.nodup hG.1
  rw [List.nodup_cons]at hn
  have place: ∀ {one d},c.RS one d→(d=c.b∧one=false)∨ ∃g∈G,∃i,i∈cw∧d∈cU g.2.2 i∧one=decide (i=30):=by
    intro one d h
    cases h with
    |top=>exact .inl ⟨rfl,rfl⟩
    |kid h hf hi he=>
      obtain⟨cs,hm⟩:=(hG.2 _ _).2 hf
      exact .inr ⟨_,hm,_,hi,he,rfl⟩
  have inF: ∀ {g:Nat×List Value×Flds} {i d},i∈cw→d∈cU g.2.2 i→d∈iR g.2.2:=fun hi hd=>List.mem_flatMap.2 ⟨_,List.mem_range.2 (by have:=tV _ hi;omega),hd⟩
  intro d ht hf
  rcases place ht with ⟨_,h⟩|⟨g,hg,i,hi,hd,e⟩
  · cases h
  rcases place hf with ⟨rfl,_⟩|⟨g',hg',i',hi',hd',e'⟩
  · exact hn.1 (List.mem_flatMap.2 ⟨g,hg,inF hi hd⟩)
  · obtain⟨rfl,hk⟩:=E7 hn.2 hg hg' (inF hi hd) (inF hi' hd')
    have:=(E7 (F:=cU g.2.2) (l:=List.range 37) hk (List.mem_range.2 (by have:=tV _ hi;omega)) (List.mem_range.2 (by have:=tV _ hi';omega)) hd hd').1
    subst this
    rw [←e]at e'
    cases e'
theorem sr{w tz:V}{ref:ByteArray}(hw:d5 w)(h:PtV w ref=some tz):tz∈kidsV w:=by
  unfold PtV at h
  cases hh:eP (iD w) ref with
  |none=>rw [hh]at h;cases h
  |some p=>
    rw [hh,Option.bind_some]at h
    cases ha:getV w p.2 with
    |none=>rw [ha]at h;cases h
    |some all=>
      rw [ha,Option.bind_some]at h
      have h9:=H2 (jK hh).2.2
      obtain⟨hpa,hk5,hit⟩:=yg hw.2 hw.1 h9 ha
      refine xH hw.1 hw.2.kind ha ?_
      rw [h9,kU (fun y hy=>(hit y hy).1)]
      exact uU h
theorem oU(g:ByteArray→V→V)(v:V):(gu g v).keys.zip (gu g v).items=(v.keys.zip v.items).map fun p=>(p.1,cQ (cM p.1) (g p.1) p.2):=pO _
theorem su{g:ByteArray→V→V}(hg: ∀ k z,(g k z).kind=5){v z:V}(hv:d5 v)(h:z∈kidsV (gu g v)): ∃p∈v.keys.zip v.items,∃y∈kidsOf (cM p.1) p.2,z=g p.1 y:=by
 obtain⟨q,hq,hz⟩:=List.mem_flatMap.1 h
 rw [oU]at hq
 obtain⟨p,hp,rfl⟩:=List.mem_map.1 hq
 have hgp:=(xD hv.1 hv.2.kind).1 (show(p.1,p.2)∈v.keys.zip v.items from hp)
 obtain⟨y,hy,e⟩:=gO (hg p.1) (xN hv.2 hgp).1 hz
 exact⟨p,hp,y,hy,e⟩
theorem CB{w:V}(hw:d5 w): ∀ (n:Nat) (one:Bool) (z:V),d5 z→dY w n one z→IsShape (dy w n one z):=by
  intro n
  induction n with
  |zero=>intro one z _ h;exact h.elim
  |succ n ih=>
    intro one z hz hn
    by_cases hr:cu z
    · obtain⟨hl,tz,hp,hc⟩:=hn.1 hr
      by_cases hk:one=true∨eG tz
      · rw [pG hr hp hk,wc hz.2.kind];exact hz.2
      · rw [jg hr hp hk]
        have hkid:=sr hw hp
        refine ih false tz ⟨vP hw.1 hkid,wH hw.1 hw.2 hkid⟩ ?_
        rcases hc with e|e|e
        · exact absurd (.inl e) hk
        · exact absurd (.inr e) hk
        · exact e.2.2
    · rw [ji hr]
      have hsv:=qH hz.1 hz.2.kind
      refine qk (mf (sa (fun k x=>cQ (cM k) (dy w n (decide (k=eY))) x) hsv.1)) Z fun key y hy=>?_
      rw [oU]at hy
      obtain⟨p,hp,e⟩:=List.mem_map.1 hy
      injection e with e1 e2
      subst e1
      subst e2
      have hg:=(xD hz.1 hz.2.kind).1 (show(p.1,p.2)∈z.keys.zip z.items from hp)
      have hgs:=xN hz.2 hg
      obtain⟨h1,h2⟩:=fZ (g:=dy w n (decide (p.1=eY))) hgs.1 fun y hy=>by
        have hkid:=xH hz.1 hz.2.kind hg hy
        exact ih _ y ⟨vP hz.1 hkid,wH hz.1 hz.2 hkid⟩ (hn.2 hr p hp y hy)
      refine⟨h1,h2,fun hid=>?_⟩
      obtain⟨u,hu,h4⟩:=hgs.2.2 hid
      exact⟨_,by rw [jj hz.1.wf.le,hu];rfl,by rw [pM];exact h4⟩
theorem E8{w:V}(hw:d5 w)(hwk:cn ii w): ∀ (n:Nat) (one:Bool) (z:V),d5 z→cn ii z→dY w n one z→cn ii (dy w n one z):=by
  intro n
  induction n with
  |zero=>intro one z _ _ h;exact h.elim
  |succ n ih=>
    intro one z hz hd hn
    by_cases hr:cu z
    · obtain⟨hl,tz,hp,hc⟩:=hn.1 hr
      by_cases hk:one=true∨eG tz
      · rw [pG hr hp hk,wc hz.2.kind];exact hd
      · rw [jg hr hp hk]
        have hkid:=sr hw hp
        refine ih false tz ⟨vP hw.1 hkid,wH hw.1 hw.2 hkid⟩ (((wG _ _).1 hwk).2 tz hkid) ?_
        rcases hc with e|e|e
        · exact absurd (.inl e) hk
        · exact absurd (.inr e) hk
        · exact e.2.2
    · rw [ji hr]
      obtain⟨h1,h2⟩:=(wG _ _).1 hd
      refine(wG _ _).2 ⟨fun k hk=>h1 k ?_,fun y hy=>?_⟩
      · have:k∈((z.keys.zip z.items).map fun p=>(p.1,cQ (cM p.1) (dy w n (decide (p.1=eY))) p.2)).map (·.1):=hk
        rw [List.map_map]at this
        obtain⟨p,hp,rfl⟩:=List.mem_map.1 this
        exact(List.of_mem_zip hp).1
      · obtain⟨p,hp,x,hx,rfl⟩:=su (fun k z=>oQ n _ z) hz hy
        have hg:=(xD hz.1 hz.2.kind).1 (show(p.1,p.2)∈z.keys.zip z.items from hp)
        have hkid:=xH hz.1 hz.2.kind hg hx
        exact ih _ x ⟨vP hz.1 hkid,wH hz.1 hz.2 hkid⟩ (h2 x hkid) (hn.2 hr p hp x hx)
theorem Gu{w out:V}{n:Nat}(hw:d5 w)(hwk:cn ii w)(hn:dY w n false w)(ho:out=dy w n false w)(hp:Pl out):d5 out∧cO out=out:=by
 subst ho
 have hs:=CB hw n false w hw hn
 exact⟨⟨hp,hs⟩,gk _ hp hs (E8 hw hwk n false w hw hwk hn)⟩
theorem Ly{g:V→V}{key:ByteArray}(h:cM key=1∨cM key=12)(x:V):cQ (cM key) g x=x:=lP aC
theorem map_id{o:Option V}{g:V→V}(h: ∀ x,g x=x):o.map g=o:=by cases o with|none=>rfl|some x=>rw [Option.map_some,h]

def E9(f:Flds)(name:ByteArray):Prop:=f 27=some (.tyS name)∨ ∃l,f 27=some (.tyL l)∧name∈l
theorem Lz{l:List ByteArray}{p:ByteArray→Prop}{i:Nat}(h: ∀ j (h:j<l.length),j<i→p l[j])(hi:i<l.length)(h0:p l[i]): ∀ j (h:j<l.length),j<i+1→p l[j]:=fun j hj hlt=>by
  rcases Nat.lt_or_ge j i with h1|h1
  · exact h j hj h1
  · obtain rfl:j=i:=by omega
    exact h0
theorem L3{f:Flds}{s name:ByteArray}(h:f 27=some (.tyS s)):E9 f name↔s=name:=by
 unfold E9
 rw [h]
 constructor
 ·rintro (e|⟨l,e,_⟩)
  ·injection e with e;injection e
  ·cases e
 ·rintro rfl;exact .inl rfl
theorem H4{f:Flds}{l:List ByteArray}{name:ByteArray}(h:f 27=some (.tyL l)):E9 f name↔name∈l:=by
 unfold E9
 rw [h]
 constructor
 ·rintro (e|⟨l',e,hm⟩)
  ·cases e
  ·injection e with e;injection e with e;rw [e];exact hm
 ·exact fun e=> .inr ⟨l,rfl,e⟩
theorem L4{f:Flds}{name:ByteArray}(h:f 27=none): ¬ E9 f name:=by
 unfold E9
 rw [h]
 rintro (e|⟨l,e,_⟩)<;>cases e
theorem L5(mb b:Nat)(G:Gr)(cs:List Value)(f:Flds)(name:ByteArray)(hm:(b,cs,f)∈G)(hf:f 27=none):Ct Tryz.prog 123 #[cW b, .string name] [.many 124 (Gr.blks G)] [.graph mb G] (fun u M' D'=>u= .bool (tb (E9 f name))∧M'=[.many 124 (Gr.blks G)]∧D'=[]):=by
 refine Ct.of_run (args:=[cW b, .string name]) Tryz.func123 aF Z Tryz.ntmps123 Z (fun c=>?_)
 refine xU 0 27 Z hm aE aE (fun p27 hc27 hp27=>?_)
 obtain rfl:p27=none:=by rw [hf]at hp27;cases p27 with|none=>rfl|some a=>cases hp27
 refine rO 13 Z (zC tK Z Z ?_)
 refine zA (yY 0 iL Z Z Z (xE hm) hc27 ?_)
 refine zA (yI ue Z Z ?_)
 refine oR 8 Z ?_
 exact zE Tryz.results123 Z ⟨congrArg Value.bool ((tb_f (L4 hf)).symm),rfl,rfl⟩ (List.Sublist.refl _) (fun _ h=>by cases h)
theorem L6(mb b:Nat)(G:Gr)(cs:List Value)(f:Flds)(name:ByteArray)(hm:(b,cs,f)∈G)(s:ByteArray)(hf:f 27=some (.tyS s)):Ct Tryz.prog 123 #[cW b, .string name] [.many 124 (Gr.blks G)] [.graph mb G] (fun u M' D'=>u= .bool (tb (E9 f name))∧M'=[.many 124 (Gr.blks G)]∧D'=[]):=by
 refine Ct.of_run (args:=[cW b, .string name]) Tryz.func123 aF Z Tryz.ntmps123 Z (fun c=>?_)
 refine xU 0 27 Z hm aE aE (fun p27 hc27 hp27=>?_)
 refine vQ 0 27 Z hm aE aE hc27 hf (z4 0 Z (fun bt pt hu hss=>?_))
 cases hu
 refine rO 13 Z (zC tK Z Z ?_)
 refine zA (yY 0 iL Z Z Z (xE hm) hc27 ?_)
 refine zA (yI ue Z Z ?_)
 refine oO 9 Z (zC tK Z Z ?_)
 refine zA (yY 0 iL Z Z Z (xE hm) hc27 ?_)
 refine oO 3 Z (zC gX Z Z ?_)
 refine zA (yH dP Z Z (fun _ h=>qJ h (j:=0) Z Z) ?_)
 refine zA (yI dc Z Z ?_)
 refine oK 1 [19,0,1] Z Z (rO 8 Z ?_)
 refine zC tK Z Z (zA ?_)
 refine yY 0 iL Z Z Z (xE hm) hc27 (oO 3 Z ?_)
 refine zC gX Z Z (zA ?_)
 refine yH dP Z Z (fun _ h=>qJ h (j:=0) Z Z) (oO 3 Z ?_)
 refine yW 1 dK Z Z Z (oK 7 [4] Z Z ?_)
 exact zE Tryz.results123 Z ⟨congrArg Value.bool (lj (by rw [decide_eq_true_iff,L3 hf])),rfl,rfl⟩ (List.Sublist.refl _) (fun _ h=>by cases h)
theorem L7(mb b:Nat)(G:Gr)(cs:List Value)(f:Flds)(name:ByteArray)(hm:(b,cs,f)∈G)(l:List ByteArray)(hf:f 27=some (.tyL l)):Ct Tryz.prog 123 #[cW b, .string name] [.many 124 (Gr.blks G)] [.graph mb G] (fun u M' D'=>u= .bool (tb (E9 f name))∧M'=[.many 124 (Gr.blks G)]∧D'=[]):=by
 refine Ct.of_run (args:=[cW b, .string name]) Tryz.func123 aF Z Tryz.ntmps123 Z (fun c=>?_)
 refine xU 0 27 Z hm aE aE (fun p27 hc27 hp27=>?_)
 refine vQ 0 27 Z hm aE aE hc27 hf (z5 0 Z (fun bt pt sl hu=>?_))
 cases hu
 refine nA 2 Z (fun A1 c1 hx hk1 hk2=>?_)
 subst hx
 unfold maxLen at hk2
 refine rO 13 Z (zC tK Z Z ?_)
 refine zA (yY 0 iL Z Z Z (xE hm) hc27 ?_)
 refine zA (yI ue Z Z ?_)
 refine oO 9 Z (zC tK Z Z ?_)
 refine zA (yY 0 iL Z Z Z (xE hm) hc27 ?_)
 refine oO 3 Z (zC gX Z Z ?_)
 refine zA (yH dP Z Z (fun _ h=>qJ h (j:=0) Z Z) ?_)
 refine zA (yI dc Z Z ?_)
 refine oK 1 [19,0,1] Z Z (rO 8 Z ?_)
 refine zC tK Z Z (zA ?_)
 refine yY 0 iL Z Z Z (xE hm) hc27 (oO 3 Z ?_)
 refine zC kJ Z Z (zA ?_)
 refine yH jw Z Z (fun _ h=>qJ h (j:=0) Z Z) (zA ?_)
 refine yI ud Z Z (oO 9 Z ?_)
 refine zC tK Z Z (zA ?_)
 refine yY 0 iL Z Z Z (xE hm) hc27 (oO 3 Z ?_)
 refine zC kJ Z Z (zA ?_)
 refine yH jw Z Z (fun _ h=>qJ h (j:=0) Z Z) (oO 3 Z ?_)
 refine yW 1 dN Z Z Z (zA ?_)
 refine yA cX Z Z (oK 3 [49,48,47,1] Z Z ?_)
 refine rK 1 [49,48,47,1] Z Z (xJ 1 (fun(i:Nat)=>i≤l.length∧ ∀ j (h:j<l.length),j<i→ ¬ l[j]=name) (fun(i:Nat)=>[(49, .int .i64 ((i:Nat):Int))]) (fun(i:Nat)=>l.length - i) 0 (⟨Nat.zero_le _,fun j _ h=>absurd h (Nat.not_lt_zero _)⟩) (eC Z (eN _)) ?_ (eC Z (eC Z (eC Z (eN _)))))
 intro i hI K hK
 change Run _ _ _ _ _ [(49,_),(48,_),(47,_),(1,_)] _ _
 obtain⟨hi,hno⟩:=hI
 refine rO 3 Z (yJ Z Z Z ?_)
 refine oR 2 Z (zN Z (fun h50=>?_) (fun h50=>?_))
 ·refine rO 6 Z (xP 2 cX Z Z Z Z h50 ?_)
  refine zA (yH dK Z Z (fun _ h=>xF h (j:=2) Z (List.getElem?_eq_getElem h50)) ?_)
  refine oR 12 Z (zW Z (fun h55=>?_) (fun h55=>?_))
  ·refine rK 5 [4] Z Z ?_
   exact zE Tryz.results123 Z ⟨congrArg Value.bool ((tb_t ((H4 hf).2 ((by simpa using h55:l[i]=name)▸List.getElem_mem h50))).symm),rfl,rfl⟩ (List.Sublist.refl _) (fun _ h=>by cases h)
  refine rO 4 Z (yB Z Z aC ?_)
  refine oR 3 Z ?_
  exact kQ (hK (i+1) (⟨aC,Lz (p:=fun s=> ¬ s=name) hno h50 (by simpa using h55)⟩) aC)
 refine rR 6 Z ?_
 exact zE Tryz.results123 Z ⟨congrArg Value.bool ((tb_f (fun e=>by
  obtain⟨j,hj,he⟩:=List.getElem_of_mem ((H4 hf).1 e)
  exact hno j hj aC he)).symm),rfl,rfl⟩ (List.Sublist.refl _) (fun _ h=>by cases h)
theorem N9(mb b:Nat)(G:Gr)(cs:List Value)(f:Flds)(name:ByteArray)(hm:(b,cs,f)∈G)(hft:FT f):Ct Tryz.prog 123 #[cW b, .string name] [.many 124 (Gr.blks G)] [.graph mb G] (fun u M' D'=>u= .bool (tb (E9 f name))∧M'=[.many 124 (Gr.blks G)]∧D'=[]):=by
  cases hf:f 27 with
  |none=>exact L5 mb b G cs f name hm hf
  |some fv=>
    have:=hft 27 fv aE aE hf
    have e:shIdx 27=12:=rfl
    rw [e]at this
    cases fv with
    |tyS s=>exact L6 mb b G cs f name hm s hf
    |tyL l=>exact L7 mb b G cs f name hm l hf
    |_=>simp [lX]at this
theorem CC{c:RX}{ε:Nat→Nat}{σ:cv}(hI:c.Inv ε σ): ∃f,σ c.b=some f∧Eqv f c.f:=by
 obtain⟨f,g,h1,h2,h3⟩:=hI.eq false c.b .top
 have he:ε c.b=c.b:=(hI.fls c.b .top).stay fun t hL=>by
  obtain⟨f2,ref,e1,e2,_⟩:=c.lnk_ref hL
  obtain⟨f',e3,hU⟩:=(xO _ _ _).1 c.hu
  have e4:=(mg (hU 3 aE aE)).2 c.hr
  rw [e1]at e3
  rw [←Option.some.inj e3,e2]at e4
  cases e4
 rw [he,c.hf]at h2
 rw [←Option.some.inj h2]at h3
 exact⟨f,h1,h3⟩
noncomputable abbrev kz(c:RX)(mb ck:Nat):HA:= .obj mb (.map #[{key:= .string (iD c.w),val:=cW c.b,born:=0}] ck)
theorem Gv{c:RX}{N:Nat}(ht:dY c.w N false c.w){one:Bool}{d:Nat}{f:Flds}{ref:ByteArray}(hd:c.RS one d)(hf:c.σ d=some f)(hr:f 3=some (.text ref)):ref.size≤200:=by
 obtain⟨n,z,hz,hu,_⟩:=c.told ht hd
 obtain⟨f',h1,hU⟩:=(xO _ _ _).1 hu
 obtain rfl:f'=f:=by rw [hf]at h1;exact(Option.some.inj h1).symm
 have h3:=hU 3 aE aE
 rw [hr]at h3
 obtain⟨key,x,_,hg,hF⟩:=h3
 obtain⟨_,e⟩:(1:Int)=1∧ref=x.text:=hF
 rw [e]
 exact me (hz.1.item x (uU hg))
theorem L8{c:RX}{N:Nat}{ε:Nat→Nat}{σ:cv}{G:Gr}{d:Nat}{one:Bool}{f:Flds}{ref:ByteArray}(mb ck:Nat)(hroot:IsRootV c.w)(ht:dY c.w N false c.w)(hI:c.Inv ε σ)(hG:GOk G σ)(hd:c.RS one d)(hf:σ d=some f)(hr3:f 3=some (.text ref)):
    ∃t g,c.Tgt ref t∧c.RS false t∧σ t=some g∧Ct Tryz.prog 114 #[cW c.b, .string ref] [.many 124 (Gr.blks G),kz c mb ck] [.graph mb G] (fun u M' D'=>M'=[.many 124 (Gr.blks G),kz c mb ck]∧D'=[.graph mb G]∧u= .tuple #[cW t, .nilIface]):=by
  obtain⟨f',g0,e1,e2,e3⟩:=hI.eq one d hd
  obtain rfl:f'=f:=by rw [hf]at e1;exact(Option.some.inj e1).symm
  have hsz:=Gv ht (hI.rs ht hd) e2 (by rw [←e3 3 aE aE];exact hr3)
  obtain⟨_,t,tz,hp,hT,hut,hrt,hst⟩:=c.refs ht (hI.rs ht hd) e2 (by rw [←e3 3 aE aE];exact hr3)
  obtain⟨g,_,hg,_,_⟩:=hI.eq false t hrt
  refine⟨t,g,hT,hrt,hg,?_⟩
  obtain⟨p,l,hh,hl,q,hq,hqn,rfl⟩:=id hT
  obtain⟨fr,hfr,hre⟩:=CC hI
  obtain⟨csr,hmr⟩:=(hG.2 _ _).2 hfr
  obtain⟨idv,p0,rest,h1,h2,h3,h4,h5,h6⟩:=Gn c.hw.1 hroot hh
  have hid:iD c.w=idv.text:=by unfold iD;rw [h1];rfl
  obtain⟨fc,e4,hU⟩:=(xO _ _ _).1 c.hu
  obtain rfl:fc=c.f:=by have:=c.hf;rw [e4]at this;exact Option.some.inj this
  have hpt:=(jK hh).2.2
  unfold kz
  rw [hid]
  refine(N6 mb c.b ck G csr fr idv.text ref p0 rest p.2 (oZ ref p.1 p.2) l hmr (by rw [hre 2 aE aE];exact JY (hU 2 aE aE) h1) aC aC h2 h4 h5 hpt (fun e=>by rw [hre 32 aE aE];rw [if_pos e]at hl;exact hl) (fun e=>by rw [hre 23 aE aE];rw [if_neg (by rw [e];decide)]at hl;exact hl) h6).mono ?_
  rintro u M' D' ⟨rfl,rfl,o,er,rfl,hF,her⟩
  refine⟨rfl,rfl,?_⟩
  cases o with
  |none=>exact absurd hqn (hF q hq)
  |some b'=>
    obtain⟨q',hq',hn',rfl⟩:=hF
    have e:=c.tgt_fun hT ⟨p,l,hh,hl,q',hq',hn',rfl⟩
    rcases her with ⟨_,rfl⟩|⟨h,_⟩
    · rw [e];rfl
    · cases h
theorem oV{g:Flds}(h:E9 g oN∨g 30≠none∨g 22≠none):dz g:=h
theorem Af{G R R2:Gr}{b t:Nat}{cs ct:List Value}{f g:Flds}{X:List HA}(h1:G.Perm ((b,cs,f)::R))(h2:R.Perm ((t,ct,g)::R2)):HE (.many 124 (Gr.blks G)::X) (.blk b cs 124:: .blk t ct 124:: .many 124 (Gr.blks R2)::X):=
 HE.append (M:=[.many 124 (Gr.blks G)]) (N:=[.blk b cs 124, .blk t ct 124, .many 124 (Gr.blks R2)]) ((sJ h1).trans (HE.append (M:=[.blk b cs 124]) (N:=[.blk b cs 124]) (HE.refl _) (sJ h2))) (HE.refl X)
theorem FA{R2:Gr}{b t:Nat}{cs ct:List Value}{f g:Flds}{X:List HA}:HE (.blk b cs 124:: .blk t ct 124:: .many 124 (Gr.blks R2)::X) (.many 124 (Gr.blks ((b,cs,f)::(t,ct,g)::R2))::X):=
 (Af (List.Perm.refl _) (List.Perm.refl _)).symm

noncomputable abbrev XR(c:RX)(mb ck cq rq:Nat)(n:Nat):List HA:=[.blk cq [.int .i64 (n:Nat)] 3, .blk rq [cW c.b] 63,kz c mb ck]
theorem L9(C:RX)(mb ck cq rq n:Nat)(σ:cv)(b:Nat)(f:Flds)(ctx:ByteArray)(G:Gr)(hG:GOk G σ)(hf:σ b=some f)(hf3:f 3=none):Ct Tryz.prog 122 #[cW b, .string ctx,cW rq,cW cq] (.many 124 (Gr.blks G)::XR C mb ck cq rq n) [.graph mb G] (fun u M' D'=>u= .tuple #[]∧ ∃G',D'=[.graph mb G']∧((GOk G' σ∧M'= .many 124 (Gr.blks G')::XR C mb ck cq rq n∧(ctx=dw∨f 3=none∨ ∃ref t g,f 3=some (.text ref)∧C.Tgt ref t∧σ t=some g∧dz g))∨ ∃ref t g,ctx≠dw∧f 3=some (.text ref)∧C.Tgt ref t∧σ t=some g∧ ¬ dz g∧GOk G' (iE σ b (some (jp (f.put 3 none) g)))∧M'= .many 124 (Gr.blks G')::XR C mb ck cq rq (n+1))):=by
 obtain⟨cs,hm⟩:=(hG.2 b f).2 hf
 change Ct Tryz.prog 122 #[cW b, .string ctx,cW rq,cW cq] [.many 124 (Gr.blks G), .blk cq [.int .i64 (n:Nat)] 3, .blk rq [cW C.b] 63,kz C mb ck] [.graph mb G] _
 refine Ct.of_run (args:=[cW b, .string ctx,cW rq,cW cq]) Tryz.func122 aF Z Tryz.ntmps122 Z (fun c=>?_)
 refine xU 0 3 Z hm aE aE (fun p3 hc3 hp3=>?_)
 obtain rfl:p3=none:=by rw [hf3]at hp3;cases p3 with|none=>rfl|some a=>cases hp3
 refine rO 7 Z (zC fP Z Z ?_)
 refine zA (yY 0 dP Z Z Z (xE hm) hc3 ?_)
 refine zA (yI dc Z Z ?_)
 refine oR 3 Z ?_
 refine yQ (M':= .many 124 (Gr.blks G)::XR C mb ck cq rq n) (by repeat (first|exact zQ _|refine zB 0 Z ?_|refine zB 1 Z ?_|refine zB 2 Z ?_|refine zB 3 Z ?_|refine zB 4 Z ?_|refine zB 5 Z ?_)) ?_
 exact vI Tryz.results122 ⟨rfl,G,rfl, .inl ⟨hG,rfl, .inr (.inl hf3)⟩⟩ (List.Sublist.refl _) aS
theorem MA(C:RX)(mb ck cq rq n:Nat)(σ:cv)(b:Nat)(f:Flds)(ctx:ByteArray)(G:Gr)(hG:GOk G σ)(hf:σ b=some f)(ref:ByteArray)(t:Nat)(g:Flds)(hf3:f 3=some (.text ref))(hT:C.Tgt ref t)(hg:σ t=some g)(hgt:FT g)(hne:t≠b)(hn:n<1000000000)(hct:Ct Tryz.prog 114 #[cW C.b, .string ref] [.many 124 (Gr.blks G),kz C mb ck] [.graph mb G] (fun u M' D'=>M'=[.many 124 (Gr.blks G),kz C mb ck]∧D'=[.graph mb G]∧u= .tuple #[cW t, .nilIface])):Ct Tryz.prog 122 #[cW b, .string ctx,cW rq,cW cq] (.many 124 (Gr.blks G)::XR C mb ck cq rq n) [.graph mb G] (fun u M' D'=>u= .tuple #[]∧ ∃G',D'=[.graph mb G']∧((GOk G' σ∧M'= .many 124 (Gr.blks G')::XR C mb ck cq rq n∧(ctx=dw∨f 3=none∨ ∃ref t g,f 3=some (.text ref)∧C.Tgt ref t∧σ t=some g∧dz g))∨ ∃ref t g,ctx≠dw∧f 3=some (.text ref)∧C.Tgt ref t∧σ t=some g∧ ¬ dz g∧GOk G' (iE σ b (some (jp (f.put 3 none) g)))∧M'= .many 124 (Gr.blks G')::XR C mb ck cq rq (n+1))):=by
 obtain⟨cs,hm⟩:=(hG.2 b f).2 hf
 change Ct Tryz.prog 122 #[cW b, .string ctx,cW rq,cW cq] [.many 124 (Gr.blks G), .blk cq [.int .i64 (n:Nat)] 3, .blk rq [cW C.b] 63,kz C mb ck] [.graph mb G] _
 refine Ct.of_run (args:=[cW b, .string ctx,cW rq,cW cq]) Tryz.func122 aF Z Tryz.ntmps122 Z (fun c=>?_)
 obtain⟨cst,hmt⟩:=(hG.2 t g).2 hg
 refine xU 0 3 Z hm aE aE (fun p3 hc3 hp3=>?_)
 refine xU 0 30 Z hmt aE aE (fun p30 hc30 hp30=>?_)
 refine xU 0 22 Z hmt aE aE (fun p22 hc22 hp22=>?_)
 refine vQ 0 3 Z hm aE aE hc3 hf3 (gH 0 Z (fun pt hu hss=>?_))
 cases hu
 refine rO 7 Z (zC fP Z Z ?_)
 refine zA (yY 0 dP Z Z Z (xE hm) hc3 ?_)
 refine zA (yI dc Z Z ?_)
 refine oR 3 Z (yO yE ?_)
 refine zR (tP 1 Z cK (zZ Z) ?_)
 refine tP 2 Z cK (xA Z) (tP 3 Z cK (zY fP Z) ?_)
 refine uS (zB 0 Z (zB 1 Z (zQ _))) (wD (zB 0 Z (zB 1 Z (zQ _))) 0 (yN _ _ _ _) Z cK aD aD aD Z (wV dx Z (fun _ h=>df h (i:=1) Z Z)) ?_)
 refine wD (zB 0 Z (zB 1 Z (zQ _))) 4 (yN _ _ _ _) Z cK aD aD aD Z (wV dP Z (fun _ h=>pZ h (i:=0) Z (xE hm) hc3)) (zR ?_)
 refine tP 5 Z cK (xA Z) (qW ?_)
 refine rI 6 (yN _ _ _ _) Z cK aD aD aD Z (xr 0 dK Z Z) (zL 7 aD ?_)
 refine zO (I2:=[[],[],[],[],[]]) Z cK aD (fun Kd hKd=>?_)
 refine qB 0 2 Z Z Z hct Z Z aS (fun u21 M21 D21 hv21=>?_)
 obtain⟨rfl,rfl,rfl⟩:=hv21
 refine hKd _ _ _ (zD (zD (zD (zD (zD (zP)))))) (zR ?_)
 refine tP 8 Z cK (zZ Z) (tP 9 Z cK (gW Z Z) ?_)
 refine tP 10 Z cK (gW Z Z) (tP 11 Z cK (xC Z) ?_)
 refine tP 12 Z cK (xC Z) (yG aD ?_)
 refine rK 0 [7,6,0,1,3] Z Z (rO 5 Z ?_)
 refine nr GS Z Z (oO 7 Z ?_)
 refine wE 0 Z Z Z (N9 mb t G cst g oN hmt hgt) Z aS (fun u27 M27 D27 hv27=>?_)
 obtain⟨rfl,rfl,rfl⟩:=hv27
 refine zX (zW Z (fun h27=>?_) (fun h27=>?_))
 ·refine xZ ?_
  refine yQ (M':= .many 124 (Gr.blks G)::XR C mb ck cq rq n) (by repeat (first|exact zQ _|refine zB 0 Z ?_|refine zB 1 Z ?_|refine zB 2 Z ?_|refine zB 3 Z ?_|refine zB 4 Z ?_|refine zB 5 Z ?_)) ?_
  exact vI Tryz.results122 ⟨rfl,G,rfl, .inl ⟨hG,rfl, .inr (.inr ⟨ref,t,g,hf3,hT,hg,oV (.inl (yT.1 h27))⟩)⟩⟩ (List.Sublist.refl _) aS
 refine rR 7 Z (zW Z (fun h29=>?_) (fun h29=>?_))
 ·refine xZ ?_
  refine yQ (M':= .many 124 (Gr.blks G)::XR C mb ck cq rq n) (by repeat (first|exact zQ _|refine zB 0 Z ?_|refine zB 1 Z ?_|refine zB 2 Z ?_|refine zB 3 Z ?_|refine zB 4 Z ?_|refine zB 5 Z ?_)) ?_
  exact vI Tryz.results122 ⟨rfl,G,rfl, .inl ⟨hG,rfl, .inl (of_decide_eq_true h29)⟩⟩ (List.Sublist.refl _) aS
 refine rO 7 Z (zC qY Z Z ?_)
 refine zA (yY 0 dm Z Z Z (xE hmt) hc30 ?_)
 refine zA (yI fU Z Z ?_)
 refine oK 1 [34,6,0,3] Z Z (zW Z (fun h34=>?_) (fun h34=>?_))
 ·refine xZ ?_
  refine yQ (M':= .many 124 (Gr.blks G)::XR C mb ck cq rq n) (by repeat (first|exact zQ _|refine zB 0 Z ?_|refine zB 1 Z ?_|refine zB 2 Z ?_|refine zB 3 Z ?_|refine zB 4 Z ?_|refine zB 5 Z ?_)) ?_
  exact vI Tryz.results122 ⟨rfl,G,rfl, .inl ⟨hG,rfl, .inr (.inr ⟨ref,t,g,hf3,hT,hg,oV (.inr (.inl (fun e=>by rw [e]at hp30;rw [h34]at hp30;cases hp30)))⟩)⟩⟩ (List.Sublist.refl _) aS
 refine rO 7 Z (zC en Z Z ?_)
 refine zA (yY 0 iK Z Z Z (xE hmt) hc22 ?_)
 refine zA (yI nW Z Z ?_)
 refine zX (zW Z (fun h39=>?_) (fun h39=>?_))
 ·refine xZ ?_
  refine yQ (M':= .many 124 (Gr.blks G)::XR C mb ck cq rq n) (by repeat (first|exact zQ _|refine zB 0 Z ?_|refine zB 1 Z ?_|refine zB 2 Z ?_|refine zB 3 Z ?_|refine zB 4 Z ?_|refine zB 5 Z ?_)) ?_
  exact vI Tryz.results122 ⟨rfl,G,rfl, .inl ⟨hG,rfl, .inr (.inr ⟨ref,t,g,hf3,hT,hg,oV (.inr (.inr (fun e=>by rw [e]at hp22;rw [h39]at hp22;cases hp22)))⟩)⟩⟩ (List.Sublist.refl _) aS
 refine rS 4 Z ?_
 obtain⟨cs1,R1,hp1,hR1⟩:=hG.split hf
 have hutg0:(iE σ b none) t=some g:=(uA hne none).trans hg
 obtain⟨ct,R2,hp2,hR2⟩:=hR1.split hutg0
 have hutg:=hutg0
 refine r9 (Af hp1 hp2) (iQ (.flds mb ct g) (fun w ok hh=>(hh (.graph mb G) aj:(DA.graph mb G).p w ok) _ (hp1.mem_iff.2 (List.mem_cons_of_mem _ (hp2.mem_iff.2 List.mem_cons_self)))) ?_)
 refine iQ (.flds mb cs1 f) (fun w ok hh=>(hh (.graph mb G) aj:(DA.graph mb G).p w ok) _ (hp1.mem_iff.2 List.mem_cons_self)) (s6 (p:=cs1.length=37) (fun w ok hh=>(dget hh 0 Z:CellsP w ok mb cs1 f).1) (fun hl1=>?_))
 refine iQ (.flds mb (cs1.set 3 (.pointer none)) (f.put 3 none)) (fun w ok hh=>ey (hh (.flds mb cs1 f) List.mem_cons_self:CellsP w ok mb cs1 f) aE Z (fun fv e=>by cases e)) (oO 3 Z ?_)
 refine zC fP Z Z (zA ?_)
 refine rN 0 Z Z Z Z Z eU aC (oK 1 [6,0,3] Z Z ?_)
 refine rO 7 Z (vT (M1:=[_,_]) Z Z Z (On b t mb mb (cs1.set 3 (.pointer none)) ct (f.put 3 none) g) Z (dC 0 2 Z Z) (fun u45 M45 D45 hv45=>?_))
 obtain⟨rfl,cs45,rfl,rfl⟩:=hv45
 refine oO 3 Z (zG 4 KF Z Z Z Z ?_)
 refine zA (xQ (s:=((n+1:Nat):Int)) Z Z Z aC aC aC ?_)
 refine zA (zF 4 (M':=[_,_,_,_,HA.blk _ [_] _,_]) Z Z Z Z KG Z Z Z ?_)
 refine zX ?_
 have hnk: ¬ dz g:=by
  rintro (e|e|e)
  ·exact wM.1 h27 e
  ·cases hg30:g 30 with
   |none=>exact e hg30
   |some a=>rw [hg30,h34]at hp30;cases hp30
  ·cases hg22:g 22 with
   |none=>exact e hg22
   |some a=>rw [hg22,h39]at hp22;cases hp22
 have hj2:=hR2.join ct g
 rw [gN (hutg)]at hj2
 have hj:=hj2.join cs45 (jp (f.put 3 none) g)
 refine lW (N:= .many 124 (Gr.blks ((b,cs45,jp (f.put 3 none) g)::(t,ct,g)::R2))::_) ((HE.perm (List.Perm.refl _)).trans FA) (yM (.graph mb ((b,cs45,jp (f.put 3 none) g)::(t,ct,g)::R2)) (fun w ok hh x hx=>?_) ?_)
 ·have hgr:(DA.graph mb G).p w ok:=hh _ aj
  rcases List.mem_cons.1 hx with e|e
  ·rw [e];exact(hh (.flds mb cs45 (jp (f.put 3 none) g)) aj:_)
  ·exact hgr x (hp1.mem_iff.2 (List.mem_cons_of_mem _ (hp2.mem_iff.2 e)))
 refine yQ (M':= .many 124 (Gr.blks ((b,cs45,jp (f.put 3 none) g)::(t,ct,g)::R2))::XR C mb ck cq rq (n+1)) (by repeat (first|exact zQ _|refine zB 0 Z ?_|refine zB 1 Z ?_|refine zB 2 Z ?_|refine zB 3 Z ?_|refine zB 4 Z ?_|refine zB 5 Z ?_)) ?_
 exact vI Tryz.results122 ⟨rfl,_,rfl, .inr ⟨ref,t,g,of_decide_eq_false h29,hf3,hT,hg,hnk,hj,rfl⟩⟩ (List.Sublist.refl _) (cS 0 Z)
abbrev yz(L:List Nat)(mu:Nat→Nat)(ε:Nat→Nat):Nat:=(L.map (fun d=>mu (ε d))).sum
theorem FB{c:RX}{N:Nat}{mu:Nat→Nat}{ε:Nat→Nat}{σ:cv}(ht:dY c.w N false c.w)(hmu:c.Mu mu)(hI:c.Inv ε σ){t:Nat}{f:Flds}{ref:ByteArray}(hrt:c.RS false t)(hf:σ t=some f)(hf3:f 3=some (.text ref))(hT:c.Tgt ref t):False:=by
 obtain⟨f',g0,e1,e2,e3⟩:=hI.eq false t hrt
 obtain rfl:f'=f:=by rw [hf]at e1;exact(Option.some.inj e1).symm
 have hr0:g0 3=some (.text ref):=by rw [←e3 3 aE aE];exact hf3
 have hre:=hI.rs ht hrt
 obtain⟨hal,t',tz,_,hT',hut,_,_⟩:=c.refs ht hre e2 hr0
 obtain rfl:=c.tgt_fun hT hT'
 obtain⟨gt,hgt,_⟩:=(xO _ _ _).1 hut
 have hch:=hI.fls t hrt
 have hnk: ¬ dz gt:=by
  by_cases e:ε t=t
  ·rw [e,hgt]at e2
   rw [Option.some.inj e2]
   exact yy hal
  ·rcases hch.two with e'|⟨t1,hl,_⟩
   ·exact absurd e' e
   ·obtain⟨f0,ref0,a1,a2,_⟩:=c.lnk_ref hl
    have ef:gt=f0:=Option.some.inj (hgt.symm.trans a1)
    rw [ef]
    exact yy (c.refs ht hrt a1 a2).1
 have h5:=hmu.lnk hre (⟨g0,ref,gt,e2,hr0,hT,hgt,hnk⟩:c.Lnk (ε t) t)
 have h6:=c.ch_mu ht hmu hch hrt
 omega
theorem OA{c:RX}{N:Nat}(mb ck cq rq K:Nat)(hroot:IsRootV c.w)(ht:dY c.w N false c.w)(h1:c.One){mu:Nat→Nat}(hmu:c.Mu mu)(hK:K<1000000000):H3 c Tryz.prog 122 #[cW rq,cW cq] mb (XR c mb ck cq rq) [] K:=by
  intro n ε σ b f ctx G hn hI hS hf hG
  obtain⟨o,ho⟩: ∃o,o=f 3:=⟨_,rfl⟩
  have hf3:=ho.symm
  clear ho
  cases o with
  |none=>exact L9 c mb ck cq rq n σ b f ctx G hG hf hf3
  |some fv=>
    obtain⟨f',hf',hft,_⟩:=hI.kid ht hmu hS
    obtain rfl:f'=f:=by rw [hf]at hf';exact(Option.some.inj hf').symm
    have hok:=hft 3 fv aE aE hf3
    obtain⟨ref,rfl⟩: ∃ref,fv= .text ref:=by
      have e:shIdx 3=1:=rfl
      rw [e]at hok
      cases fv<;>first|exact⟨_,rfl⟩|exact absurd hok cJ
    obtain⟨t,g,hT,hrt,hg,hct⟩:=L8 mb ck hroot ht hI hG hS hf hf3
    obtain⟨g',hg',hgt,_⟩:=hI.kid ht hmu hrt
    obtain rfl:g'=g:=by rw [hg]at hg';exact(Option.some.inj hg').symm
    refine MA c mb ck cq rq n σ b _ ctx G hG hf ref t _ hf3 hT hg hgt (fun e=>?_) aC hct
    subst e
    exact FB ht hmu hI hrt hf hf3 hT

theorem Px(C:RX)(mb ck N:Nat)(G0:Gr)(L:List Nat)(mu:Nat→Nat)(hroot:IsRootV C.w)(ht:dY C.w N false C.w)(h1:C.One)(hmu:C.Mu mu)(hL: ∀ one d,C.RS one d→d∈L)(hphi:yz L mu id<999999999)(hG0:GOk G0 C.σ):Ct Tryz.prog 82 #[cW C.b] [.many 124 (Gr.blks G0),kz C mb ck] [.graph mb G0] (fun u M' D'=>u= .tuple #[]∧ ∃G' σ',GOk G' σ'∧USig σ' (dy C.w N false C.w) C.b∧M'=[.many 124 (Gr.blks G'),kz C mb ck]∧D'=[.graph mb G']):=by
 refine Ct.of_run (args:=[cW C.b]) Tryz.func82 aF Z Tryz.ntmps82 Z (fun c=>?_)
 refine rO 5 Z (zS Mp Z (fun b2=>?_))
 change cL _ _ _ _ _ _ _ _ (HA.blk _ [_] _::_) _
 refine zA (zF 0 (M':=[HA.blk _ [_] _,_,_]) Z Z Z Z Fh Z Z Z ?_)
 refine oO 4 Z (zS O7 Z (fun b3=>?_))
 change cL _ _ _ _ _ _ _ _ (HA.blk _ [_] _::_) _
 refine zA (zF 0 (M':=[HA.blk _ [_] _,_,_,_]) Z Z Z Z KG Z Z Z ?_)
 refine oK 2 [3,2,0] Z Z ?_
 refine yQ (M':=HA.many 124 (Gr.blks G0)::HA.blk b3 [.int .i64 ((1:Nat):Int)] 3::HA.blk b2 [cW C.b] 63::kz C mb ck::[]) (by repeat (first|exact zQ _|refine zB 0 Z ?_|refine zB 1 Z ?_|refine zB 2 Z ?_|refine zB 3 Z ?_|refine zB 4 Z ?_|refine zB 5 Z ?_)) ?_
 refine yL 0 (fun(⟨n,ε,σ,G⟩:Nat×(Nat→Nat)×cv×Gr)=>C.Inv ε σ∧GOk G σ∧yz L mu ε+n≤yz L mu id+1∧(n=0→ ∀ d,C.RS false d→ ∀ t,¬ C.Lnk (ε d) t)) (fun(⟨n,ε,σ,G⟩:Nat×(Nat→Nat)×cv×Gr)=>[]) (fun(⟨n,ε,σ,G⟩:Nat×(Nat→Nat)×cv×Gr)=>HA.many 124 (Gr.blks G)::HA.blk b3 [.int .i64 (n:Nat)] 3::HA.blk b2 [cW C.b] 63::kz C mb ck::[]) (fun(⟨n,ε,σ,G⟩:Nat×(Nat→Nat)×cv×Gr)=> .graph mb G::[]) (fun(⟨n,ε,σ,G⟩:Nat×(Nat→Nat)×cv×Gr)=>yz L mu ε+n) (1,id,C.σ,G0) (⟨RX.inv0 ht,hG0,Nat.le_refl _,fun e=>by cases e⟩) (eN _) Z Z ?_ (eC Z (eC Z (eC Z (eN _))))
 intro ⟨n,ε,σ,G⟩ hI K hK
 change Run _ _ _ _ _ [(3,_),(2,_),(0,_)] [_,_,_,_] [_]
 obtain⟨hI0,hG,hpn,hfx⟩:=hI
 refine rO 4 Z (zG 1 KF Z Z Z Z ?_)
 refine zA (vC Z Z Z ?_)
 refine zX (zN Z (fun h6=>?_) (fun h6=>?_))
 ·refine rO 5 Z (zF 1 (M':=[_,HA.blk _ [_] _,_,_]) Z Z Z Z KG Z Z Z ?_)
  refine oO 5 Z (rH Z Z Z ?_)
  refine zA ?_
  have hok:=Je (mb:=mb) (X:=XR C mb ck b3 b2) (D0:=[]) (K:=yz L mu ε) ht h1 hmu hL (OA mb ck b3 b2 (yz L mu ε) hroot ht h1 hmu aC)
  refine ku Z Z Z (JT (Lx C mb (XR C mb ck b3 b2) [] L mu (yz L mu ε)) 122 #[cW b2,cW b3] hok C.b ((0,ε),σ) G ⟨#[]⟩ .top ⟨hI0,by show 0+yz L mu ε≤_;omega⟩ hG) (cS 0 Z) (fun u9 M9 D9 hv9=>?_)
  obtain⟨rfl,⟨⟨n9,ε9⟩,σ9⟩,G9,⟨hI9,hK9⟩,hG9,rfl,rfl,_,hdn9,_⟩:=hv9
  refine oR 2 Z ?_
  exact kQ (hK (n9,ε9,σ9,G9) (⟨hI9,hG9,(by have:n9+yz L mu ε9≤yz L mu ε:=hK9;omega),fun e d hd tt=>((hdn9.resolve_left (by show ¬ 0<n9;omega)) false d (hI9.all ht hd) Z tt)⟩) (by have:n9+yz L mu ε9≤yz L mu ε:=hK9;have:0<n:=(by exact_mod_cast h6);show yz L mu ε9+n9<yz L mu ε+n;omega)) (hD:=(cl 0 Z (by intro d hd;cases hd)))
 have hn0:n=0:=by have: ¬ (0:Int)<(n:Int):=h6;omega
 refine sA Z ?_
 refine yQ (M':=[.many 124 (Gr.blks G),kz C mb ck]) (by repeat (first|exact zQ _|refine zB 0 Z ?_|refine zB 1 Z ?_|refine zB 2 Z ?_|refine zB 3 Z ?_|refine zB 4 Z ?_|refine zB 5 Z ?_)) ?_
 exact vI Tryz.results82 ⟨rfl,G,σ,hG,hI0.fin ht (hfx hn0) N C.w false C.b .top C.hw ht C.hu,rfl,rfl⟩ (List.Sublist.refl _) (cS 0 Z)
section rules
variable {P:Program} {n:Nat} {F:List Nat} {c:Ctx F} {ops:Array Oper} {d:Nat} {T:TypeId} {l:List Oper} {k:List KI} {Q:Post} {e:dI} {M:List HA} {D:List DA}
theorem l9(i:Nat){A:Option Addr}{m cap E:Nat}{xs:List Value}(ks:List ByteArray)(hA: ∀ a,A=some a→c.w0.heap.size≤a.block)(hi:M[i]? =some (.row A m cap E 1 xs))(hx:xs=ks.map Value.string)(hs: ∀ s∈ks,s.size≤maxLen)(next:Run P n c k Q e (M.eraseIdx i) (.strs (.slice A m cap) ks::D)):Run P n c k Q e M D:=
  l0 i [.strs (.slice A m cap) ks] (fun b hb=>by
    cases A with
    |none=>cases hb
    |some a=>rw [List.mem_singleton.1 hb];exact hA a rfl) hi (fun w ok h hok hD d hd=>by
    rcases List.mem_singleton.1 hd with rfl
    exact lr h hok hx hs) next
end rules
inductive FoldB {α:Type} (Rl:V→α→α→V→Prop) (a0:α):dv→α→dv→Prop where
  |nil:FoldB Rl a0 [] a0 []
  |step {l l':dv} {a a1:α} {p:ByteArray×V} {v:V} (h:FoldB Rl a0 l a l') (hr:dX Rl (cM p.1) p.2 a a1 v):FoldB Rl a0 (l++[p]) a1 (l'++[(p.1,v)])
theorem FoldB.keys{α:Type}{Rl:V→α→α→V→Prop}{a0 a:α}{l l':dv}(h:FoldB Rl a0 l a l'):l'.map (·.1)=l.map (·.1):=by
  induction h with
  |nil=>rfl
  |step h hr ih=>simp [ih]
theorem FoldB.stepI{α:Type}{Rl:V→α→α→V→Prop}{a0 a a1:α}{t v:V}{l:dv}{i:Nat}(h1:i<t.keys.length)(h2:i<t.items.length)(h:FoldB Rl a0 ((t.keys.zip t.items).take i) a l)(hr:dX Rl (cM t.keys[i]) t.items[i] a a1 v):
  FoldB Rl a0 ((t.keys.zip t.items).take (i+1)) a1 (l++[(t.keys[i],v)]):=by
 rw [List.take_add_one,(by rw [List.getElem?_zip_eq_some];exact⟨List.getElem?_eq_getElem h1,List.getElem?_eq_getElem h2⟩:(t.keys.zip t.items)[i]? =some (t.keys[i],t.items[i]))]
 exact .step h hr
def MB{α:Type}(Rl:V→α→α→V→Prop)(t:V)(a a':α)(v':V):Prop:= ∃l,FoldB Rl a (t.keys.zip t.items) a' l∧v'=l4 l
theorem pR(ks:List ByteArray)(ts:List V)(i:Nat)(h:ks.length≤ts.length):((ks.zip ts).take i).map (·.1)=ks.take i:=by
 rw [List.map_take,List.map_fst_zip h]

theorem MC{α:Type}{X:α→List HA}{DX:α→DA}{Rl:V→α→α→V→Prop}(f:FuncId)(fst cap:Array Value)(t:V)(x:Value)(hkl:t.keys.length≤1000000)(hil:t.items.length≤1000000)(hlen:t.keys.length≤t.items.length)(hin: ∀ v∈t.items,v.keys.length≤1000000∧v.items.length≤1000000)
  (hf: ∀ own∈kidsV t,FZ X DX (fun _ _=>True) Rl f fst cap own) (a0:α):Ct Tryz.prog 120 #[x, .func (.func f) fst cap] (X a0) [.val x t,DX a0] (fun u M' D'=> ∃a' v' D1,MB Rl t a0 a' v'∧M'=X a'∧RV v' u D1∧D'=D1++[DX a']):=by
 refine Ct.of_run (args:=[x, .func (.func f) fst cap]) Tryz.func120 aF Z Tryz.ntmps120 Z (fun c=>?_)
 refine yP 0 Z (fun A1 c1 A2 c2 hx hs hk1 hk2 hi1 hi2=>?_)
 subst hx
 unfold maxLen at hi2 hk2
 refine uB 0 Z (fun hksz=>?_)
 refine rO 3 Z (yK Z Z Z (fun b2=>?_))
 refine zA (zS cx Z (fun b4=>?_))
 change cL _ _ _ _ _ _ _ _ (HA.blk _ [_,_,_,_,_] _::_) _
 refine oO 4 Z (yX Z Z (iM ..) ?_)
 refine zA (zS cx Z (fun b5=>?_))
 change cL _ _ _ _ _ _ _ _ (HA.blk _ [_,_,_,_,_] _::_) _
 refine zA (zF 0 (M':=HA.blk _ [_,_,_,_,_] _::_) Z Z Z Z cY Z Z Z ?_)
 refine oO 5 Z (zC xI Z Z ?_)
 refine zA (zG 2 dN Z Z Z Z ?_)
 refine zA (yA cX Z Z ?_)
 refine oK 4 [12,11,10,5,4,2,1] Z Z (xS 25 5 ?_)
 refine xS 9 1 (yM (DX a0) (fun w ok h=>dget h 3 Z) ?_)
 refine tL ?_
 refine yL 1 (fun(⟨i,a,Ak,ck,xk,A,ca,xs,ts,l⟩:Nat×α×Option Addr×Nat×List Value×Option Addr×Nat×List Value×List V×dv)=>i≤t.keys.length∧FoldB Rl a0 ((t.keys.zip t.items).take i) a l∧xk=(t.keys.take i).map Value.string∧ts=l.map (·.2)∧(∀ q,Ak=some q→c.w0.heap.size≤q.block)∧ ∀ q,A=some q→c.w0.heap.size≤q.block) (fun(⟨i,a,Ak,ck,xk,A,ca,xs,ts,l⟩:Nat×α×Option Addr×Nat×List Value×Option Addr×Nat×List Value×List V×dv)=>[(12, .int .i64 ((i:Nat):Int))]) (fun(⟨i,a,Ak,ck,xk,A,ca,xs,ts,l⟩:Nat×α×Option Addr×Nat×List Value×Option Addr×Nat×List Value×List V×dv)=>HA.row Ak i ck 9 1 xk::HA.row A i ca 25 5 xs::HA.blk b5 [.int .i64 5, .int .i64 0, .string ⟨#[]⟩, .slice Ak i ck, .slice A i ca] 25::HA.blk b4 [.int .i64 0, .int .i64 0, .string ⟨#[]⟩, .slice none 0 0, .slice none 0 0] 25::HA.blk b2 [.int .i64 t.kind, .int .i64 t.num, .string t.text, .slice A1 t.keys.length c1, .slice A2 t.items.length c2] 25::X a) (fun(⟨i,a,Ak,ck,xk,A,ca,xs,ts,l⟩:Nat×α×Option Addr×Nat×List Value×Option Addr×Nat×List Value×List V×dv)=> .its xs ts::DX a:: .strs (.slice A1 t.keys.length c1) t.keys:: .vals (.slice A2 t.items.length c2) t.items:: .val (.agg #[.int .i64 t.kind, .int .i64 t.num, .string t.text, .slice A1 t.keys.length c1, .slice A2 t.items.length c2]) t::DX a0::[]) (fun(⟨i,a,Ak,ck,xk,A,ca,xs,ts,l⟩:Nat×α×Option Addr×Nat×List Value×Option Addr×Nat×List Value×List V×dv)=>t.keys.length - i) (0,a0,none,0,[],none,0,[],[],[]) (⟨Nat.zero_le _, .nil,rfl,rfl,(fun q h=>by cases h),(fun q h=>by cases h)⟩) (eC Z (eN _)) Z Z ?_ (eC Z (eC Z (eC Z (eC Z (eC Z (eC Z (eN _)))))))
 intro ⟨i,a,Ak,ck,xk,A,ca,xs,ts,l⟩ hI K hK
 change Run _ _ _ _ _ [(12,_),(11,_),(10,_),(5,_),(4,_),(2,_),(1,_)] (HA.row Ak i ck 9 1 xk::HA.row A i ca 25 5 xs::HA.blk b5 [.int .i64 5, .int .i64 0, .string ⟨#[]⟩, .slice Ak i ck, .slice A i ca] 25::HA.blk b4 [.int .i64 0, .int .i64 0, .string ⟨#[]⟩, .slice none 0 0, .slice none 0 0] 25::HA.blk b2 [.int .i64 t.kind, .int .i64 t.num, .string t.text, .slice A1 t.keys.length c1, .slice A2 t.items.length c2] 25::X a) [_,_,_,_,_,_]
 obtain⟨hi,hF,hxk,hts,hAk,hA⟩:=hI
 refine rO 3 Z (yJ Z Z Z ?_)
 refine oR 2 Z (zN Z (fun h13=>?_) (fun h13=>?_))
 ·refine rO 8 Z (xP 2 cX Z Z Z Z aC ?_)
  refine zA (yH dK Z Z (fun _ h=>xF h (j:=2) Z (List.getElem?_eq_getElem h13)) ?_)
  refine oO 8 Z (zC xI Z Z ?_)
  refine zA (zG 2 dN Z Z Z Z ?_)
  refine oO 3 Z (zM cX Z Z Z Z Z (fun b20=>?_))
  refine zA ?_
  refine tA 1 0 cX Z Z Z Z Z Z Z bf aC hAk (fun A21 c21 hA21=>?_)
  refine zA (zC xI Z Z ?_)
  refine zA (zF 3 (M':=_::_::_::HA.blk _ [_,_,_,_,_] _::_) Z Z Z Z fF Z Z Z ?_)
  refine oK 1 [7,6,12,11,10,5,4,2,1] Z Z (yO yE ?_)
  refine zR (tP 0 Z cK (zY yV Z) ?_)
  refine tP 2 Z cK (zZ Z) (tP 3 Z cK (zY yV Z) ?_)
  refine tP 5 Z cK (zZ Z) (tP 8 Z cK (zZ Z) ?_)
  refine uS (zB 3 Z (zB 4 Z (zQ _))) (wD (zB 3 Z (zB 4 Z (zQ _))) 1 (yN _ _ _ _) Z cK aD aD aD Z (yR 0 dJ Z Z Z) ?_)
  refine wD (zB 3 Z (zB 4 Z (zQ _))) 4 (yN _ _ _ _) Z cK aD aD aD Z (yR 1 dJ Z Z Z) (qW ?_)
  refine rI 6 (yN _ _ _ _) Z cK aD aD aD Z (vH 3 cg Z Z Z aC) ?_
  have hlt:i<t.items.length:=by omega
  refine uF 3 Z (List.getElem?_eq_getElem hlt) (fun vs30 hl30=>?_)
  refine qW (rI 7 (yN _ _ _ _) Z cK aD aD aD Z (uG 0 hl30 cP Z Z) ?_)
  refine zL 9 aD ?_
  refine zO (I2:=[[],[],[1],[0],[]]) Z cK aD (fun Kd hKd=>?_)
  refine pE (pre:=[_,_,_,_,_,_]) Z Z Z (Gj (X:=X) (DX:=DX) (Ok:=fun _ _=>True) (fun _ _ _=>trivial) _ (t.items[i]'hlt) _ f fst cap (hin _ (List.getElem_mem hlt)).1 (hin _ (List.getElem_mem hlt)).2 (fun own ho=>hf own (List.mem_flatMap.2 ⟨(t.keys[i]'h13,t.items[i]'hlt),List.mem_of_getElem? (i:=i) (by rw [List.getElem?_zip_eq_some];exact⟨List.getElem?_eq_getElem h13,List.getElem?_eq_getElem hlt⟩),ho⟩)) a trivial) Z (dC 1 3 Z Z) (fun u32 M32 D32 hv32=>?_)
  obtain⟨a32,v32,D32,hR32,rfl,⟨A32,m32,B32,d32,rfl,rfl⟩,rfl⟩:=hv32
  refine hKd _ _ _ (zD (zD (vV (by repeat (first|exact wO _|exact zQ _|refine zB 0 Z ?_|refine zB 1 Z ?_|refine zB 2 Z ?_|refine zB 3 Z ?_|refine zB 4 Z ?_|refine zB 5 Z ?_|refine zB 6 Z ?_|refine zB 7 Z ?_|refine zB 8 Z ?_|refine tW ?_)) sQ (uL aY sQ (zD (zP)))))) ?_
  refine zL 10 aD ?_
  refine zO (I2:=[[],[],[1],[0],[]]) Z cK aD (fun Kd hKd=>?_)
  refine zM cg Z Z Z Z Z (fun b33=>?_)
  refine hKd _ _ _ (zD (zD (vV (by repeat (first|exact wO _|exact zQ _|refine zB 0 Z ?_|refine zB 1 Z ?_|refine zB 2 Z ?_|refine zB 3 Z ?_|refine zB 4 Z ?_|refine zB 5 Z ?_|refine zB 6 Z ?_|refine zB 7 Z ?_|refine zB 8 Z ?_|refine tW ?_)) sQ (uL aY sQ (zD (zP)))))) ?_
  refine zL 11 aD ?_
  refine zO (I2:=[[],[],[],[],[]]) Z cK aD (fun Kd hKd=>?_)
  refine tA 3 0 cg Z Z Z Z Z Z Z bf aC hA (fun A34 c34 hA34=>?_)
  refine hKd _ _ _ (zD (zD (zD (zD (zD (zP)))))) (zR ?_)
  refine tP 12 Z cK (zY yV Z) (zL 13 aD ?_)
  refine zO (I2:=[[],[],[],[],[],[]]) Z cK aD (fun Kd hKd=>?_)
  refine zF 4 (M':=_::_::_::_::HA.blk _ [_,_,_,_,_] _::_) Z Z Z Z ei Z Z Z (hKd _ _ _ (zD (zD (zD (zD (zD (zD (zP))))))) ?_)
  refine yG aD (rK 0 [12,11,10,5,4,2,1] Z Z ?_)
  refine rO 3 Z (yB Z Z aC ?_)
  refine oR 3 Z (wN 4 0 Z Z Z ?_)
  exact kQ (hK (i+1,a32,A21,c21,xk++[.string t.keys[i]],A34,c34,_,ts++[v32],l++[(t.keys[i],v32)]) (⟨by show i+1≤_;omega,hF.stepI aC hlt hR32,by rw [hxk,List.take_add_one,List.getElem?_eq_getElem (by omega:i<t.keys.length),List.map_append];rfl,by rw [hts];simp,hA21,hA34⟩) ap) (eC Z (eC Z (eC Z (eC Z (eC Z (eC Z (eC Z (eN _)))))))) (hM:=(by repeat (first|exact wO _|exact zQ _|refine zB 0 Z ?_|refine zB 1 Z ?_|refine zB 2 Z ?_|refine zB 3 Z ?_|refine zB 4 Z ?_|refine zB 5 Z ?_|refine zB 6 Z ?_|refine zB 7 Z ?_|refine zB 8 Z ?_|refine tW ?_))) (hD:=(by intro d hd;refine(List.mem_cons.1 hd).elim (fun e=>e▸ac) (fun hd=>?_);refine(List.mem_cons.1 hd).elim (fun e=>e▸ac) (fun hd=>?_);repeat (first|exact hd|apply List.mem_cons_of_mem)))
 refine rO 4 Z (zJ 2 Z cP Z Z ?_)
 refine zA (zF 3 (M':=_::_::_::HA.blk _ [_,_,_,_,_] _::_) Z Z Z Z cY Z Z Z ?_)
 refine zX ?_
 obtain rfl:i=t.keys.length:=by omega
 have hll:l.length=t.keys.length:=by
  have e:=congrArg List.length hF.keys
  rw [pR _ _ _ hlen,List.length_map,List.take_length]at e
  exact e
 have hlk:l.map (·.1)=t.keys:=by rw [hF.keys,pR _ _ _ hlen,List.take_length]
 rw [List.take_of_length_le bT]at hF
 refine l9 0 (l.map (·.1)) hAk Z (by rw [hxk,hlk,List.take_length]) (by rw [hlk];exact hksz) (ib 0 1 ts hA Z Z (by rw [hts,List.length_map,hll]) ?_)
 refine wU (q:=5) (m:=0) (s:=⟨#[]⟩) 1 0 Z Z aE ?_
 subst hts
 exact yZ 1 Tryz.results120 Z Z cP ⟨a,l4 l,_,⟨l,hF,rfl⟩,rfl,⟨_,_,_,_,by simp only [l4,V.kind,V.num,V.text,V.keys,V.items,List.length_map,hll];rfl,rfl⟩,rfl⟩ aY (by intro d hd;refine(List.mem_cons.1 hd).elim (fun e=>e▸ac) (fun hd=>?_);refine(List.mem_cons.1 hd).elim (fun e=>e▸ac) (fun hd=>?_);repeat (first|exact hd|apply List.mem_cons_of_mem))
theorem we{α:Type}[DecidableEq α]: ∀ {l l':List α},l.Nodup→(∀ x∈l,x∈l')→l.length≤l'.length
  |[],_,_,_=>Nat.zero_le _
  |x::t,l',hn,hs=>by
    rw [List.nodup_cons]at hn
    have hx:=hs x List.mem_cons_self
    have h1:=we (l':=l'.erase x) hn.2 (fun y hy=>(List.mem_erase_of_ne (fun e:y=x=>hn.1 (by rw [←e];exact hy))).2 (hs y (List.mem_cons_of_mem _ hy)))
    rw [List.length_erase_of_mem hx]at h1
    have h2:=List.length_pos_of_mem hx
    simp only [List.length_cons]
    omega
def Gx(own:V)(a a':Bool)(v:V):Prop:=v=mergedV own∧(a'=false→a=false∧cn CI own)
theorem Jg{a0 a:Bool}{l l':List V}(h:FoldR Gx a0 l a l'):l'=l.map (cp mergedV)∧(a=false→a0=false∧ ∀ z∈l.filter (fun x=>decide (x.kind=5)),cn CI z):=by
  induction h with
  |nil=>exact⟨rfl,fun h=>⟨h,fun z hz=>by cases hz⟩⟩
  |pos h hk hr ih=>
    refine⟨by rw [List.map_append,ih.1,hr.1];simp [cp,hk],fun ha=>?_⟩
    obtain⟨h1,h2⟩:=hr.2 ha
    obtain⟨h3,h4⟩:=ih.2 h1
    refine⟨h3,fun z hz=>?_⟩
    rw [List.filter_append,List.mem_append]at hz
    rcases hz with hz|hz
    · exact h4 z hz
    · have:z=_:=List.mem_singleton.1 (List.mem_filter.1 hz).1
      rw [this];exact h2
  |neg h hk ih=>
    refine⟨by rw [List.map_append,ih.1];simp [cp,hk],fun ha=>?_⟩
    obtain⟨h3,h4⟩:=ih.2 ha
    refine⟨h3,fun z hz=>?_⟩
    rw [List.filter_append,List.mem_append]at hz
    rcases hz with hz|hz
    · exact h4 z hz
    · have e:=List.mem_singleton.1 (List.mem_filter.1 hz).1
      exact absurd (by rw [←e];simpa using (List.mem_filter.1 hz).2) hk
theorem Jh{sh:Int}{t v:V}{a a':Bool}(h:dX Gx sh t a a' v):v=cQ sh mergedV t∧(a'=false→a=false∧ ∀ z∈kidsOf sh t,cn CI z):=by
 have al:Bq Gx t a a' v→v=ce mergedV t∧(a'=false→a=false∧ ∀ z∈t.items.filter (fun x=>decide (x.kind=5)),cn CI z):=fun⟨ts,h,e⟩=>by
  obtain⟨h1,h2⟩:=Jg h
  exact⟨by rw [e,h1];rfl,h2⟩
 have one:Gx t a a' v→v=mergedV t∧(a'=false→a=false∧ ∀ z∈[t],cn CI z):=fun h=>
  ⟨h.1,fun ha=>⟨(h.2 ha).1,fun z hz=>by rw [List.mem_singleton.1 hz];exact(h.2 ha).2⟩⟩
 have no:(a'=a∧v=t)→v=t∧(a'=false→a=false∧ ∀ z∈([]:List V),cn CI z):=fun h=>⟨h.2,fun ha=>⟨h.1▸ha,fun z hz=>by cases hz⟩⟩
 unfold dX at h
 unfold cQ kidsOf
 split at h
 ·rename_i h5;rw [if_pos h5,if_pos h5];exact one h
 rename_i h5;rw [if_neg h5,if_neg h5]
 split at h
 ·rename_i h6
  rw [if_pos h6,if_pos h6]
  split at h
  ·rename_i hk;rw [if_pos hk,if_pos hk];exact one h
  ·rename_i hk;rw [if_neg hk,if_neg hk];exact no h
 rename_i h6;rw [if_neg h6,if_neg h6]
 split at h
 ·rename_i h7
  rw [if_pos h7,if_pos h7]
  split at h
  ·rename_i hk;rw [if_pos hk,if_pos hk];exact one h
  ·rename_i hk;rw [if_neg hk,if_neg hk];exact al h
 rename_i h7;rw [if_neg h7,if_neg h7]
 split at h
 ·rename_i h9;rw [if_pos h9,if_pos h9];exact al h
 ·rename_i h9;rw [if_neg h9,if_neg h9];exact no h
theorem Gy{a0 a:Bool}{l l':dv}(h:FoldB Gx a0 l a l'):l'=l.map (fun p=>(p.1,cQ (cM p.1) mergedV p.2))∧(a=false→a0=false∧ ∀ z∈l.flatMap (fun p=>kidsOf (cM p.1) p.2),cn CI z):=by
  induction h with
  |nil=>exact⟨rfl,fun h=>⟨h,fun z hz=>by cases hz⟩⟩
  |step h hr ih=>
    obtain⟨e1,e2⟩:=Jh hr
    refine⟨by rw [List.map_append,ih.1,e1];rfl,fun ha=>?_⟩
    obtain⟨h1,h2⟩:=e2 ha
    obtain⟨h3,h4⟩:=ih.2 h1
    refine⟨h3,fun z hz=>?_⟩
    rw [List.flatMap_append,List.mem_append]at hz
    rcases hz with hz|hz
    · exact h4 z hz
    · exact h2 z (by simpa using hz)
theorem MD{own v:V}{a a':Bool}(h:MB Gx own a a' v):v=belowV mergedV own∧(a'=false→a=false∧ ∀ z∈kidsV own,cn CI z):=by
 obtain⟨l,h1,rfl⟩:=h
 obtain⟨h2,h3⟩:=Gy h1
 exact⟨by rw [h2];rfl,h3⟩

theorem clear1_snoc{l:dv}{p:ByteArray×V}{o:V}:Clear1 (l++[p]) o↔Clear1 l o∧ ¬ (0≤dh (setL l o).keys p.1∨p.1=k3∨p.1=k2∨p.1=k1):=by
  induction l generalizing o with
  |nil=>show(_∧True)↔(True∧_);simp [setL]
  |cons q l ih=>
    show(_∧Clear1 (l++[p]) _)↔((_∧Clear1 l _)∧_)
    rw [ih,and_assoc]
    rfl
theorem clearM_snoc{l:List V}{own o:V}:ClearM (l++[own]) o↔ClearM l o∧Clear1 (own.keys.zip own.items) (merL l o):=by
  induction l generalizing o with
  |nil=>show(_∧True)↔(True∧_);simp [merL]
  |cons q l ih=>
    show(_∧ClearM (l++[own]) _)↔((_∧ClearM l _)∧_)
    rw [ih,and_assoc]
    rfl
theorem y6{l:dv}{out:V}{i:Nat}{p:ByteArray×V}(h:l[i]? =some p):dq (setL (l.take i) out) p.1 p.2=setL (l.take (i+1)) out:=by
 unfold setL
 rw [List.take_add_one,h,List.foldl_append]
 rfl

def wo(o:V):Prop:=eT o∧ii o
theorem Ag{key:ByteArray}(h:eD key=true):key∈shKeys:=AD (of_decide_eq_true h)
theorem io{key:ByteArray}(h:eD key=true):key.size≤maxLen:=by
 have h1: ∀ k∈shKeys,k.size≤1000:=by decide+kernel
 have:=h1 key (Ag h)
 unfold maxLen
 omega
theorem FC{o:V}(h:wo o):o.keys.length≤1000:=by
 have h1:=we (je h.1) (fun k hk=>Ag (h.2 k hk))
 have h2:shKeys.length≤1000:=by decide
 omega
theorem y7{l:dv}(h: ∀ p∈l,eD p.1=true):ii (l4 l):=fun k hk=>by
 obtain⟨p,hp,rfl⟩:=List.mem_map.1 (show k∈l.map (·.1)from hk)
 exact h p hp
theorem lA{o:V}(h:ii o): ∀ p∈o.keys.zip o.items,eD p.1=true:=fun p hp=>h _ (List.of_mem_zip hp).1
theorem Gz{o own:V}{key:ByteArray}(h:wo o)(hk:eD key=true):wo (dq o key own):=
 ⟨qh h.1,y7 fun p hp=>by
  rcases ez hp with rfl|hp
  ·exact hk
  ·exact lA h.2 p hp⟩
theorem Ah{l:dv}: ∀ {o:V},wo o→(∀ p∈l,eD p.1=true)→wo (setL l o):=by
  induction l with
  |nil=>intro o h _;exact h
  |cons p l ih=>intro o h hl;exact ih (Gz h (hl p List.mem_cons_self)) (fun q hq=>hl q (List.mem_cons_of_mem _ hq))
theorem G4{l:List V}: ∀ {o:V},wo o→(∀ own∈l,wo own)→wo (merL l o):=by
  induction l with
  |nil=>intro o h _;exact h
  |cons p l ih=>intro o h hl;exact ih (Ah h (lA (hl p List.mem_cons_self).2)) (fun q hq=>hl q (List.mem_cons_of_mem _ hq))
theorem CD{v:V}(hv:d5 v)(hk:cn ii v):wo (mergedV v):=
 ⟨sM (qH hv.1 hv.2.kind),((wG _ _).1 (l8 v hv hk)).1⟩
theorem FD{v:V}(hv:d5 v)(hk:cn ii v):wo (belowV mergedV v):=
 ⟨fE (qH hv.1 hv.2.kind),y7 fun p hp=>by
  obtain⟨q,hq,rfl⟩:=List.mem_map.1 hp
  exact lA ((wG _ _).1 hk).1 q hq⟩
theorem y8{o:V}{key:ByteArray}(h:wo o):wo (withoutV o key):=
 ⟨pQ h.1,y7 fun p hp=>lA h.2 p (List.mem_filter.1 hp).1⟩
theorem Ji{v all:V}(hv:d5 v)(hk:cn ii v)(h:getV (belowV mergedV v) k28=some all):all.items.length≤1000∧ ∀ own∈all.items,wo own:=by
  rw [uV hv.1.wf.le,e28]at h
  cases hx:getV v k28 with
  |none=>rw [hx]at h;cases h
  |some xa=>
    rw [hx]at h
    injection h with h
    have hf13:=(xN hv.2 hx).1
    rw [e28]at hf13
    have hf':xa.kind=4∧ ∀ x'∈xa.items,x'.kind=5:=by simpa [cT]using hf13
    have e:all=ce mergedV xa:=by rw [←h];simp [cQ]
    have hxm:=uU hx
    refine⟨?_,fun own ho=>?_⟩
    · rw [e]
      show(xa.items.map (cp mergedV)).length≤_
      rw [List.length_map]
      have:=(hv.1.item _ hxm).len
      omega
    · rw [e]at ho
      obtain⟨z,hz,rfl⟩:=List.mem_map.1 (show own∈xa.items.map (cp mergedV)from ho)
      rw [xV (hf'.2 z hz)]
      have hzk:z∈kidsV v:=xH hv.1 hv.2.kind hx (by rw [e28,eO hf'.2];exact hz)
      exact CD (sch_good.kid v hv z hzk) (((wG _ _).1 hk).2 z hzk)
end Go.Jw

