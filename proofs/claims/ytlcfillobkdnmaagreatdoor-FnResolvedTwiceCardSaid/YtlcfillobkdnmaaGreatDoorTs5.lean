/- Part 5 of the proof's texts, made small by a program. -/
import Derived.Test.YtlcfillobkdnmaaGreatDoorTs4
set_option linter.unusedVariables false
set_option linter.unusedSimpArgs false
set_option maxHeartbeats 4000000
namespace Go.Jw
open Go Go.RowKit Go.Proofs
set_option maxRecDepth 8000
open Go.Sort (SWO)
section rules
variable {P:Program} {n:Nat} {F:List Nat} {c:Ctx F} {ops:Array Oper} {d:Nat} {T:TypeId} {l:List Oper} {k:List KI} {Q:Post} {e:cp} {M:List HA} {D:List DA}
theorem fB(i:Nat){b:Nat}{cs:List Value}{U:TypeId}(hi:M[i]? =some (.blk b cs U))(hF:F=[])(next:bu P n c ops l k Q e (M.eraseIdx i) (.dblk b cs U::D)):bu P n c ops l k Q e M D:=
  iI (h:= .blk b cs U) [.dblk b cs U] (fun x _ h=>by rw [hF]at h;cases h) (vH hi) (fun w ok h hok hD d hd=>by
    rcases List.mem_singleton.1 hd with rfl
    exact⟨hok _ bf,h⟩) next
theorem nR(i:Nat){x y:Operand}{A:Option Addr}{m cap j:Nat}{kd:IntKind}{S E sz by_ U:Nat}{xs:List Value}(hS:cM P S E sz by_)(hd:Nat.blt d n=true)(hx:ev e x=some (.slice A m cap))(hy:ev e y=some (.int kd (j:Nat)))(hi:M[i]? =some (.row A m cap U 1 xs))(hj:j<m)
  (next:bu P n c ops l k Q ((d, .pointer (some (At A (j*sz))))::e) M D):b0 P n c ops (some d) (.indexAddr S x y) T l k Q e M D:=by
 intro a w hf
 obtain⟨_,_,h3⟩:=uW (hf.toFitsW.mem hi)
 have hl:xs.length=m:=by have:=(hf.toFitsW.mem hi:(HA.row A m cap U 1 xs).holds w).1;omega
 obtain⟨a',ha,_⟩:=h3 j xs[j] (List.getElem?_eq_getElem aC)
 subst ha
 exact wF hS hd hx hy hj next a w hf
end rules
abbrev ud(x:Nat):Value:=encN (2*x)
def vals(ys:List Y):List ByteArray:=ys.map Y.val
theorem rd(i:Nat):(List.range i).map ud++[ud i]=(List.range (i+1)).map ud:=by rw [List.range_succ,List.map_append];rfl
theorem Gk(n:Nat):(List.range n).map ud=((List.range n).map (2* ·)).map encN:=by rw [List.map_map];rfl
theorem oY{ks:List ByteArray}{us:List V}(hl:ks.length=us.length):(ks.zip (us.map dG)).length=us.length:=by rw [List.length_zip,List.length_map];omega
theorem wx{ks:List ByteArray}{us:List V}(hl:ks.length=us.length){i:Nat}(h:i<us.length):((ks.zip (us.map dG)).flatMap du)[2*i]? =some (cK dF (ks.getD i ⟨#[]⟩)):=by
 rw [nE (by rw [oY hl];exact h),List.getElem_zip,tA aC]
theorem EI{ks:List ByteArray}{us:List V}(hl:ks.length=us.length){i:Nat}(h:i<us.length):((ks.zip (us.map dG)).flatMap du)[2*i+1]? =some (dG (us[i])):=by
 rw [nF (by rw [oY hl];exact h),List.getElem_zip,List.getElem_map]
theorem Gl{ks:List ByteArray}{us:List V}(hl:ks.length=us.length){ds:List Nat}(hp:ds.Perm ((List.range us.length).map (2* ·)))(hs:ds.Pairwise (fun x y=>C8 (vals ((ks.zip (us.map dG)).flatMap du)) y x=false)):
  ∃es:List Nat,es.Perm (List.range us.length)∧es.Pairwise (fun x y=>C8 ks y x=false)∧ds.map encN=es.map ud:=by
 have hev: ∀ x∈ds,∃y,y<us.length∧x=2*y:=fun x hx=>by
  obtain⟨y,hy,rfl⟩:=List.mem_map.1 (hp.mem_iff.1 hx)
  exact⟨y,List.mem_range.1 hy,rfl⟩
 have hkey: ∀ y,y<us.length→(vals ((ks.zip (us.map dG)).flatMap du)).getD (2*y) ⟨#[]⟩=ks.getD y ⟨#[]⟩:=fun y hy=>by
  unfold vals
  rw [List.getD_eq_getElem?_getD,List.getElem?_map,wx hl hy]
  rfl
 refine⟨ds.map (· /2),?_,?_,?_⟩
 ·have:=hp.map (· /2)
  rw [List.map_map]at this
  have e:((fun x=>x/2)∘fun x=>2*x)=(id:Nat→Nat):=by funext x;simp only [Function.comp,id];omega
  rwa [e,List.map_id]at this
 ·rw [List.pairwise_map]
  refine hs.imp_of_mem fun {x y} hx hy h=>?_
  obtain⟨a,ha,rfl⟩:=hev x hx
  obtain⟨b,hb,rfl⟩:=hev y hy
  unfold C8 at h⊢
  rw [hkey a ha,hkey b hb]at h
  rw [show 2*a/2=a by omega,show 2*b/2=b by omega]
  exact h
 ·rw [List.map_map]
  refine List.map_congr_left fun x hx=>?_
  obtain⟨y,_,rfl⟩:=hev x hx
  show encN (2*y)=encN (2*(2*y/2))
  congr 1
  omega
set_option maxHeartbeats 2000000 in
theorem EJ(W:World)(keys:List ByteArray)(dk:List Nat)(b1 nb b9 b n c m:Nat)(ka:Addr)(kc:Nat)(hn1:W.cell? ⟨b1,0,none⟩=some (cD nb))(hks:W.cell? ⟨nb,6,none⟩=some (.slice (some ka) m kc))(hm:m=keys.length)(hps:W.cell? ⟨b9,0,none⟩=some (.slice (some ⟨b,0,none⟩) n c))(hn:dk.length=n)
  (hdk: ∀ j x,dk[j]? =some x→W.cell? ⟨b,j,none⟩=some (encN x)) (hkk: ∀ j s,keys[j]? =some s→ ∃q,W.cell? (ka.add j)=some (cD q)∧W.cell? ⟨q,3,none⟩=some (.string s)) (hlt: ∀ x∈dk,x<keys.length) (i j:Nat) (hi:i<dk.length) (hj:j<dk.length):
  Calls Tryz.prog 167 #[.int .i64 i, .int .i64 j,cD b1,cD b9] W fun e w'=>e= .returned (.bool (C8 keys dk[i] dk[j]))∧ ∃q,w'=W.drewN q:=by
 have hxi:=hlt _ (List.getElem_mem hi)
 have hxj:=hlt _ (List.getElem_mem hj)
 have ci:=hdk i _ (List.getElem?_eq_getElem hi)
 have cj:=hdk j _ (List.getElem?_eq_getElem hj)
 obtain⟨qi,ki,vi⟩:=hkk _ _ (List.getElem?_eq_getElem hxi)
 obtain⟨qj,kj,vj⟩:=hkk _ _ (List.getElem?_eq_getElem hxj)
 have hin:i<n:=by omega
 have hjn:j<n:=by omega
 have him:dk[i]<m:=by omega
 have hjm:dk[j]<m:=by omega
 have hlk:C8 keys dk[i] dk[j]=Op.bytesLess keys[dk[i]].toList keys[dk[j]].toList:=by
  unfold C8
  rw [gl,tA hxi,tA hxj,qO,qO]
 go_enter Tryz.func167,Tryz.ntmps167
 go_wp2
 go_quiet (fail)
 go_wp2
 go_ret
 refine⟨?_,nq,rfl⟩
 rw [hlk]
 rfl
theorem Gm:sf Tryz.prog 167:=⟨_,Tryz.func167,by kernel_rfl,rfl⟩
theorem By(ys:List Y)(A:Option Addr)(m ca nb b1 b9 pb n c9:Nat)(t v:ByteArray)(k:Int)(hm:m=ys.length): ∀ (W:World) (dk:List Nat),dk.length=n→(∀ x∈dk,x<ys.length)→(∀ x∈[HA.blk b9 [.slice (some ⟨pb,0,none⟩) n c9] 139],x.holds W)→(∀ j x,dk[j]? =some x→W.cell? ⟨pb,j,none⟩=some (encN x))→
  (∃ok,∀ d∈[DA.dblk b1 [cD nb] 102, .dblk nb (dJ k t v A m ca) 150, .kids (.slice A m ca) ys],d.p W ok)→ ∀ (i j:Nat) (hi:i<dk.length) (hj:j<dk.length),
   Calls Tryz.prog 167 (#[.int .i64 i, .int .i64 j]++ #[cD b1,cD b9]) W fun e w'=>e= .returned (.bool (C8 (vals ys) dk[i] dk[j]))∧ ∃q,w'=W.drewN q:=by
 intro W dk hn hlt hM hdk hD i j hi hj
 obtain⟨ok,hD⟩:=hD
 have h1:BlkP W ok b1 [cD nb] 102:=hD _ List.mem_cons_self
 have h2:BlkP W ok nb (dJ k t v A m ca) 150:=hD _ (List.mem_cons_of_mem _ List.mem_cons_self)
 obtain⟨A',c',hv,_,_,hk⟩:KidsV W ok (.slice A m ca) ys:=hD _ (List.mem_cons_of_mem _ (List.mem_cons_of_mem _ List.mem_cons_self))
 injection hv with e1 e2 e3
 subst e1;subst e3
 have hkid: ∀ (x:Nat) (y:Y),ys[x]? =some y→ ∃a b,A=some a∧ok a.block∧W.cell? (a.add x)=some (cD b)∧NodeP W ok y b:=fun x y hx=>by
  have:=hk.get hx
  simpa using this
 obtain⟨a,_,rfl,_⟩:=hkid _ _ (List.getElem?_eq_getElem (hlt _ (List.getElem_mem hi)))
 refine EJ W (vals ys) dk b1 nb b9 pb n c9 m a ca ?_ ?_ (by unfold vals;rw [List.length_map];exact hm) ?_ hn hdk (fun j s hj=>?_) (fun x hx=>by unfold vals;rw [List.length_map];exact hlt x hx) i j hi hj
 ·rw [uO h1.2];rfl
 ·rw [uO h2.2];rfl
 ·have:=hM _ List.mem_cons_self
  rw [uO this];rfl
 ·unfold vals at hj
  rw [List.getElem?_map]at hj
  obtain⟨y,hy,rfl⟩:=Option.map_eq_some_iff.1 hj
  obtain⟨a',b',ha,_,hc,hnode⟩:=hkid _ _ hy
  cases ha
  refine⟨b',hc,?_⟩
  obtain⟨q,tt,vv,zs⟩:=y
  obtain⟨_,_,_,A2,c2,hb,_⟩:=hnode
  rw [uO hb]
  rfl
def EK(fb:Addr)(u:V):Prop:= ∀ b,CtR Tryz.prog 107 #[cD b] [.node b (dG u),jT fb] (ww (cX u))

theorem I9(fb:Addr)(b:Nat)(y:Y)(v:V)(hk:y.kind=8)(H:CtR Tryz.prog 166 #[cD b] [.node b y,jT fb] (ww v)):CtR Tryz.prog 107 #[cD b] [.node b y,jT fb] (ww v):=by
 refine Ct.of_run (args:=[cD b]) Tryz.func107 aF Z Tryz.ntmps107 Z (fun c=>?_)
 refine jD 0 Z (fun A0 cap0 ht0 hv0 hl0 hc0=>?_)
 refine rO 3 Z (yN Z Z Z (fun b1=>?_))
 refine fB 0 Z Z (zA ?_)
 refine zT cl Z (fun b2=>?_)
 change bu _ _ _ _ _ _ _ _ (HA.blk _ [_,_,_,_,_] _::_) _
 refine oO 7 Z (zH 0 dE Z Z Z Z ?_)
 refine zA (tT qa Z Z ?_)
 refine oO 7 Z (zH 0 dE Z Z Z Z ?_)
 refine oO 3 Z (zC wG Z Z ?_)
 refine zA (zH 1 dI Z Z Z Z ?_)
 refine oR 9 Z (wY Z (decide_eq_true (by exact_mod_cast hk)) ?_)
 refine rO 3 Z (zH 0 dE Z Z Z Z ?_)
 refine zA (zW Z Z Z H (cn 3 4 Z Z) (fun u27 D27 hv27=>?_))
 obtain⟨_,rfl,A27,c27,B27,d27,rfl,rfl⟩:=hv27
 refine oO 5 Z (zF 0 (M':=[HA.blk _ [_,_,_,_,_] _]) Z Z Z Z cN Z Z Z ?_)
 refine oK 3 [3,2] Z Z ?_
 refine yW (M':=[HA.blk b2 [_,_,_,_,_] 25]) (by repeat (first|exact zO _|refine zB 0 Z ?_|refine zB 1 Z ?_|refine zB 2 Z ?_|refine zB 3 Z ?_|refine zB 4 Z ?_)) ?_
 exact wK 0 Tryz.results107 Z Z Z cB ⟨rfl,_,rfl,_,_,_,_,rfl,rfl⟩ nS (cC 0 Z)
theorem JA(fb:Addr)(b:Nat)(us:List V)(h60:us.length≤60)(H: ∀ x∈us,EK fb x):CtR Tryz.prog 107 #[cD b] [.node b (cg 2 (us.map dG)),jT fb] (ww (.mk 4 0 ⟨#[]⟩ [] (us.map cX))):=by
 refine Ct.of_run (args:=[cD b]) Tryz.func107 aF Z Tryz.ntmps107 Z (fun c=>?_)
 refine xV 0 Z (fun A0 cap0 ht0 hv0 hl0 hc0=>?_)
 rw [List.length_map]
 rw [List.length_map]at hl0
 unfold maxLen at hc0
 refine rO 3 Z (yN Z Z Z (fun b1=>?_))
 refine fB 0 Z Z (zA ?_)
 refine zT cl Z (fun b2=>?_)
 change bu _ _ _ _ _ _ _ _ (HA.blk _ [_,_,_,_,_] _::_) _
 refine oO 7 Z (zH 0 dE Z Z Z Z ?_)
 refine zA (tT qa Z Z ?_)
 refine oO 7 Z (zH 0 dE Z Z Z Z ?_)
 refine oO 3 Z (zC wG Z Z ?_)
 refine zA (zH 1 dI Z Z Z Z ?_)
 refine oK 17 [30,23,2,1] Z Z (rO 4 Z ?_)
 refine yY Z Z (nv ..) (zA ?_)
 refine zT cl Z (fun b4=>?_)
 change bu _ _ _ _ _ _ _ _ (HA.blk _ [_,_,_,_,_] _::_) _
 refine zA (zF 0 (M':=[HA.blk _ [_,_,_,_,_] _,_]) Z Z Z Z cN Z Z Z ?_)
 refine oO 5 Z (zH 0 dE Z Z Z Z ?_)
 refine oO 3 Z (zC wH Z Z ?_)
 refine zA (zH 1 dR Z Z Z Z ?_)
 refine zA (zX cW Z Z ?_)
 refine oK 4 [38,37,36,4,2] Z Z (wZ 25 5 ?_)
 refine qD ?_
 refine yR 1 (fun(⟨i,A,ca,xs⟩:Nat×Option Addr×Nat×List Value)=>i≤us.length) (fun(⟨i,A,ca,xs⟩:Nat×Option Addr×Nat×List Value)=>[(38, .int .i64 ((i:Nat):Int))]) (fun(⟨i,A,ca,xs⟩:Nat×Option Addr×Nat×List Value)=>HA.row A i ca 25 5 xs::HA.blk b4 [.int .i64 4, .int .i64 0, .string ⟨#[]⟩, .slice none 0 0, .slice A i ca] 25::HA.blk b2 [.int .i64 0, .int .i64 0, .string ⟨#[]⟩, .slice none 0 0, .slice none 0 0] 25::[]) (fun(⟨i,A,ca,xs⟩:Nat×Option Addr×Nat×List Value)=> .its xs ((us.take i).map cX):: .dblk b1 [cD b] 102:: .dblk b (dJ 2 ⟨#[]⟩ ⟨#[]⟩ A0 us.length cap0) 150:: .kids (.slice A0 us.length cap0) (us.map dG):: .node b (cg 2 (us.map dG))::jT fb::[]) (fun(⟨i,A,ca,xs⟩:Nat×Option Addr×Nat×List Value)=>us.length - i) (0,none,0,[]) bX (eC Z (eN _)) Z Z ?_ (eC Z (eC Z (eC Z (eC Z (eN _)))))
 intro ⟨i,A,ca,xs⟩ hI K hK
 change Run _ _ _ _ _ [(38,_),(37,_),(36,_),(4,_),(2,_)] [_,_,_] [_,_,_,_,_,_]
 have hi:i≤us.length:=hI
 refine rO 3 Z (yK Z Z Z ?_)
 refine oR 2 Z (zK Z (fun h39=>?_) (fun h39=>?_))
 ·refine rO 6 Z (wN 3 cW Z Z Z Z h39 ?_)
  refine uM 3 i Z (fO h39) (fun bk=>?_)
  refine zA (yE dE Z Z (fun _ h=>uN h (j:=0) Z) ?_)
  refine oO 8 Z (zW Z Z Z (H _ (List.getElem_mem h39) bk) (cn 1 7 Z Z) (fun u44 D44 hv44=>?_))
  obtain⟨_,rfl,A44,c44,B44,d44,rfl,rfl⟩:=hv44
  refine oO 7 Z (zT cl Z (fun b7=>?_))
  change bu _ _ _ _ _ _ _ _ (HA.blk _ [_,_,_,_,_] _::_) _
  refine zA (zF 0 (M':=[HA.blk _ [_,_,_,_,_] _,_,_,_]) Z Z Z Z cN Z Z Z ?_)
  refine oK 3 [8,7,38,37,36,4,2] Z Z (rO 12 Z ?_)
  refine zC xG Z Z (zA ?_)
  refine zG 2 dK Z Z Z Z (zA ?_)
  refine zL 0 Z cB Z Z (zA ?_)
  refine zM cV Z Z Z Z Z (fun b53=>?_)
  refine zA ?_
  refine cO 2 0 cV (fun A54 c54=>?_)
  refine zA (zC xG Z Z ?_)
  refine zA (zF 3 (M':=[_,_,_,HA.blk _ [_,_,_,_,_] _,_]) Z Z Z Z fu Z Z Z ?_)
  refine oK 1 [38,37,36,4,2] Z Z (rO 3 Z ?_)
  refine yD Z Z aC (oR 3 Z ?_)
  refine vA 3 0 Z Z Z ?_
  rw [sA (f:=cX) h39]
  exact kQ (hK (i+1,_,_,_) bQ (by show us.length - (i+1)<us.length - i;omega)) (eC Z (eC Z (eC Z (eC Z (eC Z (eN _)))))) (hD:=(cR 0 Z sQ))
 obtain rfl:i=us.length:=by omega
 rw [List.take_length]
 refine rO 4 Z (zL 1 Z cB Z Z ?_)
 refine zA (zF 2 (M':=[_,_,HA.blk _ [_,_,_,_,_] _]) Z Z Z Z cN Z Z Z ?_)
 refine oR 3 Z (rN ?_)
 refine rM 0 1 (us.map cX) Z Z bP (by rw [List.length_map]) (vQ 1 0 Z Z (s:=⟨#[]⟩) (q:=4) (m:=0) aE ?_)
 refine yW (M':=[HA.blk b2 [_,_,_,_,_] 25]) (by repeat (first|exact zO _|refine zB 0 Z ?_|refine zB 1 Z ?_|refine zB 2 Z ?_|refine zB 3 Z ?_|refine zB 4 Z ?_)) ?_
 exact wK 0 Tryz.results107 Z Z Z cB ⟨rfl,_,rfl,none,0,_,_,by simp only [V.kind,V.num,V.text,V.keys,V.items,List.length_map,List.length_nil];rfl,rfl⟩ nS (cC 0 Z)
theorem sK{M M2:List HA}(h:f8 M2 M:=by repeat (first|exact wQ _|exact zO _|refine zB 0 rfl ?_|refine zB 1 rfl ?_|refine zB 2 rfl ?_|refine zB 3 rfl ?_|refine zB 4 rfl ?_|refine zB 5 rfl ?_|refine zB 6 rfl ?_|refine zB 7 rfl ?_|refine zB 8 rfl ?_)):f8 M2 M:=h
set_option maxHeartbeats 4000000 in
theorem JB(fb:Addr)(b:Nat)(ks:List ByteArray)(us:List V)(hl:ks.length=us.length)(h60:us.length≤60)(hnd:ks.Nodup)(hszs: ∀ s∈ks,s.size≤maxLen)(H: ∀ x∈us,EK fb x)(ys:List Y)(hys:ys=(ks.zip (us.map dG)).flatMap du):CtR Tryz.prog 107 #[cD b] [.node b (cg 4 ys),jT fb] (ww (cX (.mk 5 0 ⟨#[]⟩ ks us))):=by
 refine Ct.of_run (args:=[cD b]) Tryz.func107 aF Z Tryz.ntmps107 Z (fun c=>?_)
 have hfl:ys.length=2*us.length:=by rw [hys,pm,oY hl]
 have hk0: ∀ x,x<us.length→ys[2*x]? =some (cK dF (ks.getD x ⟨#[]⟩)):=fun x hx=>by rw [hys];exact wx hl hx
 have hk1: ∀ x (h:x<us.length),ys[2*x+1]? =some (dG us[x]):=fun x hx=>by rw [hys];exact EI hl hx
 have h2t:((2*us.length:Nat):Int).tmod 2=0:=by rw [show((2*us.length:Nat):Int)=2*(us.length:Int)by omega];exact Int.mul_tmod_right _ _
 refine xV 0 Z (fun A0 cap0 ht0 hv0 hl0 hc0=>?_)
 rw [hfl]
 rw [hfl]at hl0
 unfold maxLen at hc0
 refine rO 3 Z (yN Z Z Z (fun b1=>?_))
 refine fB 0 Z Z (zA ?_)
 refine zT cl Z (fun b2=>?_)
 change bu _ _ _ _ _ _ _ _ (HA.blk _ [_,_,_,_,_] _::_) _
 refine oO 7 Z (zH 0 dE Z Z Z Z ?_)
 refine zA (tT qa Z Z ?_)
 refine oO 7 Z (zH 0 dE Z Z Z Z ?_)
 refine oO 3 Z (zC wG Z Z ?_)
 refine zA (zH 1 dI Z Z Z Z ?_)
 refine oK 17 [30,23,2,1] Z Z (rO 13 Z ?_)
 refine zH 0 dE Z Z Z Z (oO 3 Z ?_)
 refine zC wH Z Z (zA ?_)
 refine zH 1 dR Z Z Z Z (zA ?_)
 refine zX cW Z Z (zA ?_)
 refine AA Z Z Z aE ?_
 rw [h2t]
 refine zA (tX Z Z Z ?_)
 refine oK 1 [66,2,1] Z Z (rO 5 Z ?_)
 refine uF qe Z (fun b68=>?_)
 refine zA (zT IW Z (fun b9=>?_))
 change bu _ _ _ _ _ _ _ _ (HA.blk _ [_] _::_) _
 refine zA (zF 0 (M':=[HA.blk _ [_] _,_,_]) Z Z Z Z FI Z Z Z ?_)
 refine oK 8 [10,9,2,1] Z Z ?_
 refine yR 1 (fun(⟨i,pb,c9⟩:Nat×Nat×Nat)=>i≤us.length) (fun(⟨i,pb,c9⟩:Nat×Nat×Nat)=>[(10, .int .i64 ((2*i:Nat):Int))]) (fun(⟨i,pb,c9⟩:Nat×Nat×Nat)=>HA.blk b9 [.slice (some ⟨pb,0,none⟩) i c9] 139::HA.row (some ⟨pb,0,none⟩) i c9 3 1 ((List.range i).map ud)::HA.blk b2 [.int .i64 0, .int .i64 0, .string ⟨#[]⟩, .slice none 0 0, .slice none 0 0] 25::[]) (fun(⟨i,pb,c9⟩:Nat×Nat×Nat)=> .dblk b1 [cD b] 102:: .dblk b (dJ 4 ⟨#[]⟩ ⟨#[]⟩ A0 (2*us.length) cap0) 150:: .kids (.slice A0 (2*us.length) cap0) ys:: .node b (cg 4 ys)::jT fb::[]) (fun(⟨i,pb,c9⟩:Nat×Nat×Nat)=>us.length - i) (0,_,_) bX (eC Z (eN _)) Z Z ?_ (eC Z (eC Z (eC Z (eN _))))
 intro ⟨i,pb,c9⟩ hI K hK
 change Run _ _ _ _ _ [(10,_),(9,_),(2,_),(1,_)] [_,_,_] [_,_,_,_,_]
 have hi:i≤us.length:=hI
 refine rO 6 Z (zH 0 dE Z Z Z Z ?_)
 refine oO 3 Z (zC wH Z Z ?_)
 refine zA (zH 1 dR Z Z Z Z ?_)
 refine zA (zX cW Z Z ?_)
 refine zA (yK Z Z Z ?_)
 refine zY (zK Z (fun h75=>?_) (fun h75=>?_))
 ·refine rO 5 Z (zG 0 BV Z Z Z Z ?_)
  refine oO 3 Z (zM qe Z Z Z Z Z (fun b80=>?_))
  refine zA ?_
  refine cO 2 0 qe (fun A81 c81=>?_)
  refine zA (zF 1 (M':=[_,HA.blk _ [_] _,_,_]) Z Z Z Z FI Z Z Z ?_)
  refine oK 1 [10,9,2,1] Z Z (rO 5 Z ?_)
  refine xL (s:=((2*(i+1):Nat):Int)) Z Z Z aC aC aC (oR 3 Z ?_)
  refine Bf 2 Z aC (fun pb1 hpb=>?_)
  subst hpb
  rw [rd]
  exact kQ (hK (i+1,pb1,_) bQ (by show us.length - (i+1)<us.length - i;omega)) (eC Z (eC Z (eC Z (eC Z (eN _)))))
 obtain rfl:i=us.length:=by omega
 rw [Gk]
 refine rO 4 Z (zG 0 BV Z Z Z Z ?_)
 refine zA (jS aF Z Z ?_)
 refine zA (rZ Z Z Z ?_)
 refine zA ?_
 refine rE 1 0 Z Z Z (Kj 167 #[cD b1,cD b9] pb us.length c9 ys.length ((List.range us.length).map (2* ·)) (fun x hx=>by obtain⟨z,hz,rfl⟩:=List.mem_map.1 hx;have:=List.mem_range.1 hz;omega) (C8 (vals ys)) (Du _) [HA.blk b9 [.slice (some ⟨pb,0,none⟩) us.length c9] 139] [.dblk b1 [cD b] 102, .dblk b (dJ 4 ⟨#[]⟩ ⟨#[]⟩ A0 (2*us.length) cap0) 150, .kids (.slice A0 (2*us.length) cap0) ys] aC (fun args w=>fJ Gm args w) (fun W dk h1 h2=>By ys A0 (2*us.length) cap0 b b1 b9 pb us.length c9 _ _ _ hfl.symm W dk h1 h2)) Z Z (cR 0 Z (cn 1 2 Z Z)) (fun u85 M85 D85 hv85=>?_)
 obtain⟨rfl,⟨ds,hdp,hds,rfl⟩,rfl⟩:=hv85
 rw [hys]at hds
 obtain⟨es,hep,hes,hee⟩:=Gl hl hdp hds
 rw [hee]
 have hel:es.length=us.length:=by rw [hep.length_eq,List.length_range]
 have hep2:es.Perm (List.range ks.length):=by rw [hl];exact hep
 refine oK 1 [9,2,1] Z Z (rO 3 Z ?_)
 refine yY Z Z (nv ..) (zA ?_)
 refine zT cl Z (fun b11=>?_)
 change bu _ _ _ _ _ _ _ _ (HA.blk _ [_,_,_,_,_] _::_) _
 refine zA (zF 0 (M':=[HA.blk _ [_,_,_,_,_] _,_,_,_]) Z Z Z Z cN Z Z Z ?_)
 refine oO 5 Z (zG 2 BV Z Z Z Z ?_)
 refine zA (zX qe Z Z ?_)
 refine oK 4 [89,88,87,11,2,1] Z Z (wZ 25 5 ?_)
 refine wZ 9 1 (qD ?_)
 refine yR 1 (fun(⟨i3,KA,kc,KI,ic,xv⟩:Nat×Option Addr×Nat×Option Addr×Nat×List Value)=>i3≤us.length) (fun(⟨i3,KA,kc,KI,ic,xv⟩:Nat×Option Addr×Nat×Option Addr×Nat×List Value)=>[(89, .int .i64 ((i3:Nat):Int))]) (fun(⟨i3,KA,kc,KI,ic,xv⟩:Nat×Option Addr×Nat×Option Addr×Nat×List Value)=>HA.row KA i3 kc 9 1 ((es.take i3).map (fun x=>Value.string (ks.getD x ⟨#[]⟩)))::HA.row KI i3 ic 25 5 xv::HA.blk b11 [.int .i64 5, .int .i64 0, .string ⟨#[]⟩, .slice KA i3 kc, .slice KI i3 ic] 25::HA.row (some ⟨pb,0,none⟩) us.length c9 3 1 (es.map ud)::HA.blk b9 [.slice (some ⟨pb,0,none⟩) us.length c9] 139::HA.blk b2 [.int .i64 0, .int .i64 0, .string ⟨#[]⟩, .slice none 0 0, .slice none 0 0] 25::[]) (fun(⟨i3,KA,kc,KI,ic,xv⟩:Nat×Option Addr×Nat×Option Addr×Nat×List Value)=> .its xv ((es.take i3).map (fun x=>(us.map cX).getD x Bd)):: .dblk b1 [cD b] 102:: .dblk b (dJ 4 ⟨#[]⟩ ⟨#[]⟩ A0 (2*us.length) cap0) 150:: .kids (.slice A0 (2*us.length) cap0) ys:: .node b (cg 4 ys)::jT fb::[]) (fun(⟨i3,KA,kc,KI,ic,xv⟩:Nat×Option Addr×Nat×Option Addr×Nat×List Value)=>us.length - i3) (0,none,0,none,0,[]) bX (eC Z (eN _)) Z Z ?_ (eC Z (eC Z (eC Z (eC Z (eC Z (eN _))))))
 intro ⟨i3,KA,kc,KI,ic,xv⟩ hI K hK1
 change Run _ _ _ _ _ [(89,_),(88,_),(87,_),(11,_),(2,_),(1,_)] [_,_,_,_,_,_] [_,_,_,_,_,_]
 have hi3:i3≤us.length:=hI
 refine rO 3 Z (yK Z Z Z ?_)
 refine oR 2 Z (zK Z (fun h90=>?_) (fun h90=>?_))
 ·have hld:i3<es.length:=by omega
  have hde:es[i3]<us.length:=gq hep _ (List.getElem_mem hld)
  have hdk:es[i3]<ks.length:=by omega
  have hdv:es[i3]<(us.map cX).length:=by rw [List.length_map];exact hde
  refine rO 8 Z (wF qe Z Z Z h90 ?_)
  refine zA ?_
  refine yE Hl Z Z (fun _ h=>GM h (i:=3) Z (by rw [List.getElem?_map,List.getElem?_eq_getElem hld];rfl)) ?_
  refine oO 8 Z (zH 1 dE Z Z Z Z ?_)
  refine oO 3 Z (zC wH Z Z ?_)
  refine zA (zH 2 dR Z Z Z Z ?_)
  refine oO 3 Z (wN (i:=2*es[i3]) 3 cW Z Z Z Z aC ?_)
  refine uM 3 (2*es[i3]) Z (hk0 _ hde) (fun bk=>?_)
  refine sR 1 Z (fun A1 cap1 ht1 hv1 hl1 hc1=>?_)
  refine zA (yE dE Z Z (fun _ h=>uN h (j:=2) Z) ?_)
  refine oO 3 Z (zC wT Z Z ?_)
  refine zA (zH 0 cv Z Z Z Z ?_)
  refine oK 3 [14,13,12,89,88,87,11,2,1] Z Z (rO 3 Z ?_)
  refine zH 5 dE Z Z Z Z (oO 3 Z ?_)
  refine zC wH Z Z (zA ?_)
  refine zH 6 dR Z Z Z Z (oO 3 Z ?_)
  refine yD Z Z aC (zA ?_)
  refine wN (i:=2*es[i3]+1) 7 cW Z Z Z Z aC (uM 7 (2*es[i3]+1) Z (hk1 _ hde) (fun bv=>?_))
  refine zA (yE dE Z Z (fun _ h=>uN h (j:=0) Z) ?_)
  refine zA (zW Z Z Z (H _ (List.getElem_mem hde) bv) (cn 1 11 Z Z) (fun u113 D113 hv113=>?_))
  obtain⟨_,rfl,A113,c113,B113,d113,rfl,rfl⟩:=hv113
  refine oO 7 Z (zT cl Z (fun b15=>?_))
  change bu _ _ _ _ _ _ _ _ (HA.blk _ [_,_,_,_,_] _::_) _
  refine zA (zF 0 (M':=[HA.blk _ [_,_,_,_,_] _,_,_,_,_,_,_]) Z Z Z Z cN Z Z Z ?_)
  refine oK 3 [16,15,14,12,89,88,87,11,2,1] Z Z (rS 9 Z ?_)
  refine vG (s:=118) Z (rfl) (oO 3 Z ?_)
  refine wU Z Z Z (oS 2 Z ?_)
  refine yC (s:=121) Z (fun h121=>?_) (fun h121=>?_)
  ·refine zI Z Z (zC xT Z Z ?_)
   refine zI Z Z (zG 3 dH Z Z Z Z ?_)
   refine oO 3 Z (xP (s:=((i3 - 1:Nat):Int)) Z Z Z aC aC aC ?_)
   refine zI Z Z (nR 1 cG Z Z Z Z aC ?_)
   refine zI Z Z (yE (v:= .string (ks.getD (es[i3 - 1]'aC) ⟨#[]⟩)) cv Z Z (fun _ h=>wg h (i:=1) Z (Bg aC aC)) ?_)
   refine oK 9 [131,15,14,89,88,87,11,2,1] Z Z (xH Z (decide_eq_false (fun he=>yq hnd hep2 (i:=i3 - 1) (j:=i3) aC aC he)) ?_)
   refine wB (yX yI ?_)
   refine zS (tP 0 Z br (yA xT Z) ?_)
   refine tP 2 Z br (zZ Z) (tP 5 Z br (yA xG Z) ?_)
   refine tE (zB 0 Z (zB 2 Z (zO _))) (wE (zB 0 Z (zB 2 Z (zO _))) 1 (yS _ _ _ _) Z br aD aD aD Z (xD 1 dH Z Z Z) ?_)
   refine wE (zB 0 Z (zB 2 Z (zO _))) 6 (yS _ _ _ _) Z br aD aD aD Z (xD 1 dK Z Z Z) (wE (zB 0 Z (zB 2 Z (zO _))) 7 (yS _ _ _ _) Z br aD aD aD Z (uR 0 Z cB Z) ?_)
   refine tR (rs:=[3,8]) aD aJ ?_
   intro j hj
   simp only [List.mem_cons,List.not_mem_nil,or_false]at hj
   rcases hj with rfl|rfl
   ·refine zP (I2:=[[7,6,1],[5,0],[]]) Z br aD (fun Kd hKd=>?_)
    refine zM cG Z Z Z Z Z (fun b136=>?_)
    refine hKd _ _ _ (uA sK sQ (hC (zE (zQ)))) ?_
    refine tR (rs:=[4,8]) aD aJ ?_
    intro j hj
    simp only [List.mem_cons,List.not_mem_nil,or_false]at hj
    rcases hj with rfl|rfl
    ·refine zP (I2:=[[7,6],[5],[]]) Z br aD (fun Kd hKd=>?_)
     refine cO 2 0 cG (fun A137 c137=>?_)
     refine hKd _ _ _ (uA sK sQ (hC (zE (zQ)))) ?_
     refine zS (tP 10 Z br (yA xT Z) ?_)
     refine zN 8 aD ?_
     refine zP (I2:=[[10],[6],[5],[]]) Z br aD (fun Kd hKd=>?_)
     refine zM cV Z Z Z Z Z (fun b141=>?_)
     refine hKd _ _ _ (hC (uA sK sQ (hC (zE (zQ))))) ?_
     refine zN 9 aD ?_
     refine zP (I2:=[[10],[],[],[]]) Z br aD (fun Kd hKd=>?_)
     refine cO 4 0 cV (fun A142 c142=>?_)
     refine hKd _ _ _ (hC (zE (zE (zE (zQ))))) (zN 11 aD ?_)
     refine zP (I2:=[[],[],[],[]]) Z br aD (fun Kd hKd=>?_)
     refine zF 5 (M':=[_,_,_,_,_,HA.blk _ [_,_,_,_,_] _,_,_,_]) Z Z Z Z fp Z Z Z (hKd _ _ _ (zE (zE (zE (zE (zQ))))) ?_)
     refine tP 12 Z br (yA xG Z) (zN 13 aD ?_)
     refine zP (I2:=[[],[],[],[]]) Z br aD (fun Kd hKd=>?_)
     refine zF 5 (M':=[_,_,_,_,_,HA.blk _ [_,_,_,_,_] _,_,_,_]) Z Z Z Z fu Z Z Z (hKd _ _ _ (zE (zE (zE (zE (zQ))))) ?_)
     refine yG aD (rK 0 [89,88,87,11,2,1] Z Z ?_)
     refine rO 3 Z (yD Z Z aC ?_)
     refine oR 3 Z (vA 7 0 Z Z Z ?_)
     rw [vV (f:=fun x=>(us.map cX).getD x Bd) hld bD,vV (f:=fun x=>Value.string (ks.getD x ⟨#[]⟩)) hld rfl]
     exact kQ (hK1 (i3+1,_,_,_,_,_) bO au) (eC Z (eC Z (eC Z (eC Z (eC Z (eC Z (eN _))))))) (hD:=(cR 0 Z sQ))
    refine zP (I2:=[[6,1],[5,0],[]]) Z br aD (fun Kd hKd=>?_)
    refine zM cV Z Z Z Z Z (fun b141=>?_)
    refine hKd _ _ _ (uA sK sQ (hC (zE (zQ)))) ?_
    refine zN 4 aD ?_
    refine zP (I2:=[[6],[5],[]]) Z br aD (fun Kd hKd=>?_)
    refine cO 3 1 cG (fun A137 c137=>?_)
    refine hKd _ _ _ (uA sK sQ (hC (zE (zQ)))) ?_
    refine zS (tP 10 Z br (yA xT Z) ?_)
    refine zN 9 aD ?_
    refine zP (I2:=[[10],[],[],[]]) Z br aD (fun Kd hKd=>?_)
    refine cO 4 0 cV (fun A142 c142=>?_)
    refine hKd _ _ _ (hC (zE (zE (zE (zQ))))) (zN 11 aD ?_)
    refine zP (I2:=[[],[],[],[]]) Z br aD (fun Kd hKd=>?_)
    refine zF 5 (M':=[_,_,_,_,_,HA.blk _ [_,_,_,_,_] _,_,_,_]) Z Z Z Z fp Z Z Z (hKd _ _ _ (zE (zE (zE (zE (zQ))))) ?_)
    refine tP 12 Z br (yA xG Z) (zN 13 aD ?_)
    refine zP (I2:=[[],[],[],[]]) Z br aD (fun Kd hKd=>?_)
    refine zF 5 (M':=[_,_,_,_,_,HA.blk _ [_,_,_,_,_] _,_,_,_]) Z Z Z Z fu Z Z Z (hKd _ _ _ (zE (zE (zE (zE (zQ))))) ?_)
    refine yG aD (rK 0 [89,88,87,11,2,1] Z Z ?_)
    refine rO 3 Z (yD Z Z aC ?_)
    refine oR 3 Z (vA 7 0 Z Z Z ?_)
    rw [vV (f:=fun x=>(us.map cX).getD x Bd) hld bD,vV (f:=fun x=>Value.string (ks.getD x ⟨#[]⟩)) hld rfl]
    exact kQ (hK1 (i3+1,_,_,_,_,_) bO au) (eC Z (eC Z (eC Z (eC Z (eC Z (eC Z (eN _))))))) (hD:=(cR 0 Z sQ))
   refine zP (I2:=[[6,1],[5,2,0],[]]) Z br aD (fun Kd hKd=>?_)
   refine zM cV Z Z Z Z Z (fun b141=>?_)
   refine hKd _ _ _ (uA sK sQ (hC (zE (zQ)))) ?_
   refine zN 3 aD ?_
   refine zP (I2:=[[6,1],[5,0],[]]) Z br aD (fun Kd hKd=>?_)
   refine zM cG Z Z Z Z Z (fun b136=>?_)
   refine hKd _ _ _ (uA sK sQ (hC (zE (zQ)))) ?_
   refine zN 4 aD ?_
   refine zP (I2:=[[6],[5],[]]) Z br aD (fun Kd hKd=>?_)
   refine cO 3 0 cG (fun A137 c137=>?_)
   refine hKd _ _ _ (uA sK sQ (hC (zE (zQ)))) ?_
   refine zS (tP 10 Z br (yA xT Z) ?_)
   refine zN 9 aD ?_
   refine zP (I2:=[[10],[],[],[]]) Z br aD (fun Kd hKd=>?_)
   refine cO 4 1 cV (fun A142 c142=>?_)
   refine hKd _ _ _ (hC (zE (zE (zE (zQ))))) (zN 11 aD ?_)
   refine zP (I2:=[[],[],[],[]]) Z br aD (fun Kd hKd=>?_)
   refine zF 5 (M':=[_,_,_,_,_,HA.blk _ [_,_,_,_,_] _,_,_,_]) Z Z Z Z fp Z Z Z (hKd _ _ _ (zE (zE (zE (zE (zQ))))) ?_)
   refine tP 12 Z br (yA xG Z) (zN 13 aD ?_)
   refine zP (I2:=[[],[],[],[]]) Z br aD (fun Kd hKd=>?_)
   refine zF 5 (M':=[_,_,_,_,_,HA.blk _ [_,_,_,_,_] _,_,_,_]) Z Z Z Z fu Z Z Z (hKd _ _ _ (zE (zE (zE (zE (zQ))))) ?_)
   refine yG aD (rK 0 [89,88,87,11,2,1] Z Z ?_)
   refine rO 3 Z (yD Z Z aC ?_)
   refine oR 3 Z (vA 7 0 Z Z Z ?_)
   rw [vV (f:=fun x=>(us.map cX).getD x Bd) hld bD,vV (f:=fun x=>Value.string (ks.getD x ⟨#[]⟩)) hld rfl]
   exact kQ (hK1 (i3+1,_,_,_,_,_) bO au) (eC Z (eC Z (eC Z (eC Z (eC Z (eC Z (eN _))))))) (hD:=(cR 0 Z sQ))
  refine oK 13 [131,15,14,89,88,87,11,2,1] Z Z (rR 2 Z ?_)
  refine yX yI (zS ?_)
  refine tP 0 Z br (yA xT Z) (tP 2 Z br (zZ Z) ?_)
  refine tP 5 Z br (yA xG Z) (tE (zB 0 Z (zB 2 Z (zO _))) ?_)
  refine wE (zB 0 Z (zB 2 Z (zO _))) 1 (yS _ _ _ _) Z br aD aD aD Z (xD 1 dH Z Z Z) (wE (zB 0 Z (zB 2 Z (zO _))) 6 (yS _ _ _ _) Z br aD aD aD Z (xD 1 dK Z Z Z) ?_)
  refine wE (zB 0 Z (zB 2 Z (zO _))) 7 (yS _ _ _ _) Z br aD aD aD Z (uR 0 Z cB Z) (tR (rs:=[3,8]) aD aJ ?_)
  intro j hj
  simp only [List.mem_cons,List.not_mem_nil,or_false]at hj
  rcases hj with rfl|rfl
  ·refine zP (I2:=[[7,6,1],[5,0],[]]) Z br aD (fun Kd hKd=>?_)
   refine zM cG Z Z Z Z Z (fun b136=>?_)
   refine hKd _ _ _ (uA sK sQ (hC (zE (zQ)))) ?_
   refine tR (rs:=[4,8]) aD aJ ?_
   intro j hj
   simp only [List.mem_cons,List.not_mem_nil,or_false]at hj
   rcases hj with rfl|rfl
   ·refine zP (I2:=[[7,6],[5],[]]) Z br aD (fun Kd hKd=>?_)
    refine cO 2 0 cG (fun A137 c137=>?_)
    refine hKd _ _ _ (uA sK sQ (hC (zE (zQ)))) ?_
    refine zS (tP 10 Z br (yA xT Z) ?_)
    refine zN 8 aD ?_
    refine zP (I2:=[[10],[6],[5],[]]) Z br aD (fun Kd hKd=>?_)
    refine zM cV Z Z Z Z Z (fun b141=>?_)
    refine hKd _ _ _ (hC (uA sK sQ (hC (zE (zQ))))) ?_
    refine zN 9 aD ?_
    refine zP (I2:=[[10],[],[],[]]) Z br aD (fun Kd hKd=>?_)
    refine cO 4 0 cV (fun A142 c142=>?_)
    refine hKd _ _ _ (hC (zE (zE (zE (zQ))))) (zN 11 aD ?_)
    refine zP (I2:=[[],[],[],[]]) Z br aD (fun Kd hKd=>?_)
    refine zF 5 (M':=[_,_,_,_,_,HA.blk _ [_,_,_,_,_] _,_,_,_]) Z Z Z Z fp Z Z Z (hKd _ _ _ (zE (zE (zE (zE (zQ))))) ?_)
    refine tP 12 Z br (yA xG Z) (zN 13 aD ?_)
    refine zP (I2:=[[],[],[],[]]) Z br aD (fun Kd hKd=>?_)
    refine zF 5 (M':=[_,_,_,_,_,HA.blk _ [_,_,_,_,_] _,_,_,_]) Z Z Z Z fu Z Z Z (hKd _ _ _ (zE (zE (zE (zE (zQ))))) ?_)
    refine yG aD (rK 0 [89,88,87,11,2,1] Z Z ?_)
    refine rO 3 Z (yD Z Z aC ?_)
    refine oR 3 Z (vA 7 0 Z Z Z ?_)
    rw [vV (f:=fun x=>(us.map cX).getD x Bd) hld bD,vV (f:=fun x=>Value.string (ks.getD x ⟨#[]⟩)) hld rfl]
    exact kQ (hK1 (i3+1,_,_,_,_,_) bO au) (eC Z (eC Z (eC Z (eC Z (eC Z (eC Z (eN _))))))) (hD:=(cR 0 Z sQ))
   refine zP (I2:=[[6,1],[5,0],[]]) Z br aD (fun Kd hKd=>?_)
   refine zM cV Z Z Z Z Z (fun b141=>?_)
   refine hKd _ _ _ (uA sK sQ (hC (zE (zQ)))) ?_
   refine zN 4 aD ?_
   refine zP (I2:=[[6],[5],[]]) Z br aD (fun Kd hKd=>?_)
   refine cO 3 1 cG (fun A137 c137=>?_)
   refine hKd _ _ _ (uA sK sQ (hC (zE (zQ)))) ?_
   refine zS (tP 10 Z br (yA xT Z) ?_)
   refine zN 9 aD ?_
   refine zP (I2:=[[10],[],[],[]]) Z br aD (fun Kd hKd=>?_)
   refine cO 4 0 cV (fun A142 c142=>?_)
   refine hKd _ _ _ (hC (zE (zE (zE (zQ))))) (zN 11 aD ?_)
   refine zP (I2:=[[],[],[],[]]) Z br aD (fun Kd hKd=>?_)
   refine zF 5 (M':=[_,_,_,_,_,HA.blk _ [_,_,_,_,_] _,_,_,_]) Z Z Z Z fp Z Z Z (hKd _ _ _ (zE (zE (zE (zE (zQ))))) ?_)
   refine tP 12 Z br (yA xG Z) (zN 13 aD ?_)
   refine zP (I2:=[[],[],[],[]]) Z br aD (fun Kd hKd=>?_)
   refine zF 5 (M':=[_,_,_,_,_,HA.blk _ [_,_,_,_,_] _,_,_,_]) Z Z Z Z fu Z Z Z (hKd _ _ _ (zE (zE (zE (zE (zQ))))) ?_)
   refine yG aD (rK 0 [89,88,87,11,2,1] Z Z ?_)
   refine rO 3 Z (yD Z Z aC ?_)
   refine oR 3 Z (vA 7 0 Z Z Z ?_)
   rw [vV (f:=fun x=>(us.map cX).getD x Bd) hld bD,vV (f:=fun x=>Value.string (ks.getD x ⟨#[]⟩)) hld rfl]
   exact kQ (hK1 (i3+1,_,_,_,_,_) bO au) (eC Z (eC Z (eC Z (eC Z (eC Z (eC Z (eN _))))))) (hD:=(cR 0 Z sQ))
  refine zP (I2:=[[6,1],[5,2,0],[]]) Z br aD (fun Kd hKd=>?_)
  refine zM cV Z Z Z Z Z (fun b141=>?_)
  refine hKd _ _ _ (uA sK sQ (hC (zE (zQ)))) ?_
  refine zN 3 aD ?_
  refine zP (I2:=[[6,1],[5,0],[]]) Z br aD (fun Kd hKd=>?_)
  refine zM cG Z Z Z Z Z (fun b136=>?_)
  refine hKd _ _ _ (uA sK sQ (hC (zE (zQ)))) ?_
  refine zN 4 aD ?_
  refine zP (I2:=[[6],[5],[]]) Z br aD (fun Kd hKd=>?_)
  refine cO 3 0 cG (fun A137 c137=>?_)
  refine hKd _ _ _ (uA sK sQ (hC (zE (zQ)))) ?_
  refine zS (tP 10 Z br (yA xT Z) ?_)
  refine zN 9 aD ?_
  refine zP (I2:=[[10],[],[],[]]) Z br aD (fun Kd hKd=>?_)
  refine cO 4 1 cV (fun A142 c142=>?_)
  refine hKd _ _ _ (hC (zE (zE (zE (zQ))))) (zN 11 aD ?_)
  refine zP (I2:=[[],[],[],[]]) Z br aD (fun Kd hKd=>?_)
  refine zF 5 (M':=[_,_,_,_,_,HA.blk _ [_,_,_,_,_] _,_,_,_]) Z Z Z Z fp Z Z Z (hKd _ _ _ (zE (zE (zE (zE (zQ))))) ?_)
  refine tP 12 Z br (yA xG Z) (zN 13 aD ?_)
  refine zP (I2:=[[],[],[],[]]) Z br aD (fun Kd hKd=>?_)
  refine zF 5 (M':=[_,_,_,_,_,HA.blk _ [_,_,_,_,_] _,_,_,_]) Z Z Z Z fu Z Z Z (hKd _ _ _ (zE (zE (zE (zE (zQ))))) ?_)
  refine yG aD (rK 0 [89,88,87,11,2,1] Z Z ?_)
  refine rO 3 Z (yD Z Z aC ?_)
  refine oR 3 Z (vA 7 0 Z Z Z ?_)
  rw [vV (f:=fun x=>(us.map cX).getD x Bd) hld bD,vV (f:=fun x=>Value.string (ks.getD x ⟨#[]⟩)) hld rfl]
  exact kQ (hK1 (i3+1,_,_,_,_,_) bO au) (eC Z (eC Z (eC Z (eC Z (eC Z (eC Z (eN _))))))) (hD:=(cR 0 Z sQ))
 obtain rfl:i3=us.length:=by omega
 have het:es.take us.length=es:=by rw [←hel];exact List.take_length
 rw [het]
 refine vI 0 (es.map fun x=>ks.getD x ⟨#[]⟩) Z bP (by rw [List.map_map];rfl) (by intro s hs;obtain⟨x,hx,rfl⟩:=List.mem_map.1 hs;rw [tA (gq hep2 _ hx)];exact hszs _ (List.getElem_mem _)) (rM 0 1 (es.map fun x=>(us.map cX).getD x Bd) Z Z bP (by rw [List.length_map,hel]) ?_)
 refine vQ 1 0 Z Z (s:=⟨#[]⟩) (q:=5) (m:=0) aE (rO 4 Z ?_)
 refine zL 0 Z cB Z Z (zA ?_)
 refine zF 3 (M':=[_,_,_,HA.blk _ [_,_,_,_,_] _]) Z Z Z Z cN Z Z Z (oR 3 Z ?_)
 have hsv:cX (.mk 5 0 ⟨#[]⟩ ks us)= .mk 5 0 ⟨#[]⟩ (es.map fun x=>ks.getD x ⟨#[]⟩) (es.map fun x=>(us.map cX).getD x Bd):=by
  rw [jQ (tv Bd ks (us.map cX) es (by rw [List.length_map];exact hl) hnd hep2 hes),List.map_map,List.map_map]
  rfl
 rw [hsv]
 refine yW (M':=[HA.blk b2 [_,_,_,_,_] 25]) (by repeat (first|exact zO _|refine zB 0 Z ?_|refine zB 1 Z ?_|refine zB 2 Z ?_|refine zB 3 Z ?_|refine zB 4 Z ?_)) ?_
 exact wK 0 Tryz.results107 Z Z Z cB ⟨rfl,_,rfl,KA,kc,KI,ic,by simp only [V.kind,V.num,V.text,V.keys,V.items,List.length_map,hel],rfl⟩ nS (cC 0 Z)
theorem LA(fb:Addr)(u:V):Pl (cX u)→Eql u→EK fb u:=by
  refine V.indS (p:=fun u=>Pl (cX u)→Eql u→EK fb u) (fun u IH hp he=>?_) u
  have hk:=Dt hp
  have hD: ∀ {b:Nat} {y:Y} {v:V},CtR Tryz.prog 166 #[cD b] [.node b y] (ww v)→CtR Tryz.prog 166 #[cD b] [.node b y,jT fb] (ww v):=fun h=>Ct.data h (fun d hd=>by rw [List.mem_singleton.1 hd];exact List.mem_cons_self)
  intro b
  by_cases h4:u.kind=4
  · obtain⟨hu,h60,hit⟩:=Kg hp he h4
    have h1:=JA fb b u.items h60 (fun x hx=>IH x (yU hx) (hit x hx).1 (hit x hx).2)
    rw [←tu,←ku (q:=4) (n:=0) (s:=⟨#[]⟩) (ks:=[]) aE,←hu]at h1
    exact h1
  by_cases h5:u.kind=5
  · obtain⟨hu,hl,h60,hnd,hkw,hit⟩:=Kh hp he h5
    have h1:=JB fb b u.keys u.items hl h60 hnd (fun k hk=>by have:=(hkw k hk).1.2;unfold maxLen;omega) (fun x hx=>IH x (yU hx) (hit x hx).1 (hit x hx).2) _ rfl
    rw [←oG,←hu]at h1
    exact h1
  obtain⟨hpu,hu⟩:=Ds hp h4 h5
  rw [hu]
  have hk8:(dG u).kind=8:=by rw [yo hk.1 hk.2,if_neg h4,if_neg h5]
  refine I9 fb b _ u hk8 ?_
  have hnum:=hpu.num
  rcases(by omega:u.kind=0∨u.kind=1∨u.kind=2∨u.kind=3∨u.kind=6)with h|h|h|h|h
  · have hs:=fT hpu aC aC
    obtain⟨q,m,s,ks,ts⟩:=u
    simp only [V.kind]at h
    subst h
    simp only [V.kind,V.num,V.text,V.keys,V.items]at hs
    have e:V.mk 0 m s ks ts= .mk 0 0 ⟨#[]⟩ [] []:=by
      unfold dA at hs
      simp at hs
      simp [hs]
    rw [e,qK]
    exact hD (I6 b)
  · obtain⟨hl,hn⟩:=gn hpu h
    rw [hl,gp]
    rcases hn with hn|hn
    · rw [hn];exact hD (I5 b)
    · rw [hn];exact hD (I4 b)
  · have hl:=ly hpu h
    obtain⟨a1,a2⟩:=hnum.num aC
    rw [hl,l0]
    exact hD (I7 b _ a1 a2)
  · have hl:=ey hpu h
    rw [hl,ez]
    exact hD (I3 b _)
  · have hl:=Bb hpu h
    obtain⟨a1,a2⟩:=hnum.num aC
    have h0:=hpu.frac h
    rw [hl,Bc]
    exact I8 fb b _ h0 a1 a2
end Go.Jw

namespace Go.Jw
open Go Go.RowKit Go.Proofs
set_option maxRecDepth 8000
section rules
variable {P:Program} {n:Nat} {F:List Nat} {c:Ctx F} {ops:Array Oper} {d:Nat} {T:TypeId} {l:List Oper} {k:List KI} {Q:Post} {e:cp} {M:List HA} {D:List DA}
theorem ue(i j:Nat){mb:Nat}{G:Gr}(hi:M[i]? =some (.many 124 (Gr.blks G)))(hj:D[j]? =some (.graph mb G))(hF:F=[])(next:bu P n c ops l k Q e (M.eraseIdx i) (.gr mb G::D)):bu P n c ops l k Q e M D:=
  iI (h:= .many 124 (Gr.blks G)) [.gr mb G] (fun x _ h=>by rw [hF]at h;cases h) (vH hi) (fun w ok h hok hD d hd=>by
    rcases List.mem_singleton.1 hd with rfl
    intro g hg
    have hm:(g.1,g.2.1)∈Gr.blks G:=List.mem_map.2 ⟨g,hg,rfl⟩
    refine⟨⟨hok _ ?_,h _ hm⟩,mb,(dget hD j hj:(DA.graph mb G).p w ok) g hg⟩
    simp only [HA.foot,List.mem_map]
    exact⟨_,hm,rfl⟩) next
end rules
def Ls(t:V)(u:Value)(D':List DA):Prop:= ∃A1 c1 A2 c2,u= .agg #[.int .i64 0, .int .i64 t.kind, .int .i64 t.num, .string t.text, .slice A1 t.keys.length c1, .slice A2 t.items.length c2]∧D'=[.val (.agg #[.int .i64 t.kind, .int .i64 t.num, .string t.text, .slice A1 t.keys.length c1, .slice A2 t.items.length c2]) t]
theorem JC(fb:Addr){u:V}(hp:Pl (cX u))(he:Eql u)(b:Nat):CtR Tryz.prog 107 #[cD b] [.node b (dG u),uc fb] (ww (cX u)):=Ct.wide (LA fb u hp he b) (fun w ok h d hd=>by
 have h4:=h (uc fb) aJ
 simp only [List.mem_cons,List.not_mem_nil,or_false]at hd
 rcases hd with rfl|rfl
 ·exact h _ List.mem_cons_self
 ·exact h4.2)

theorem LB(ft:DA)(mb:Nat)(G:Gr)(v:V)(b:Nat)(hU:Unf G v b)(hC:mf ft mb G v):CtR Tryz.prog 108 #[cD b] [.gr mb G, .tab,ft] (fun u D'=> ∃y,dl v y∧RN y u D'):=by
 refine Ct.of_run (args:=[cD b]) Tryz.func108 aF Z Tryz.ntmps108 Z (fun c=>?_)
 refine rO 10 Z (zW Z Z Z (hC b hU) (cR 0 Z (cn 1 2 Z Z)) (fun u4 D4 hv4=>?_))
 obtain⟨y4,hy4,b4,rfl,rfl⟩:=hv4
 exact oR 3 Z (zD Tryz.results108 Z ⟨rfl,y4,hy4,b4,rfl,rfl⟩ nS (cC 0 Z))
theorem M3(fb:Addr)(mb:Nat)(G:Gr)(v:V)(b:Nat)(hU:Unf G v b)(hp:Pl v)(hs:IsShape v):CtR Tryz.prog 60 #[cD b] [.gr mb G, .tab,uc fb] (Ls (wr v)):=by
 refine Ct.of_run (args:=[cD b]) Tryz.func60 aF Z Tryz.ntmps60 Z (fun c=>?_)
 refine rO 3 Z (zT Fo Z (fun b2=>?_))
 change bu _ _ _ _ _ _ _ _ (HA.blk _ [_,_,_,_,_,_] _::_) _
 refine oO 7 Z (tT fy Z Z ?_)
 refine oO 8 Z (zW Z Z Z (LB (uc fb) mb G v b hU (Kf (uc fb) mb G v (.inl (K8 fb)) hp hs)) (cR 0 Z (cn 1 2 Z Z)) (fun u10 D10 hv10=>?_))
 obtain⟨y10,hy10,b10,rfl,rfl⟩:=hv10
 obtain⟨u,rfl,hu,he⟩:=GK v hp hs y10 hy10
 have hpu:Pl (cX u):=hu▸qm hs hp
 refine zA (zW Z Z Z (JC fb hpu he b10) (cn 0 3 Z Z) (fun u11 D11 hv11=>?_))
 obtain⟨_,rfl,A11,m11,B11,d11,rfl,rfl⟩:=hv11
 rw [hu]
 refine oO 7 Z (zT cl Z (fun b3=>?_))
 change bu _ _ _ _ _ _ _ _ (HA.blk _ [_,_,_,_,_] _::_) _
 refine zA (zF 0 (M':=[HA.blk _ [_,_,_,_,_] _,_]) Z Z Z Z cN Z Z Z ?_)
 refine oK 3 [4,3,2] Z Z (rO 13 Z ?_)
 refine zL 0 Z cB Z Z (zA ?_)
 refine yY Z Z (Fv ..) (zA ?_)
 refine zF 1 (M':=[_,HA.blk _ [_,_,_,_,_,_] _]) Z Z Z Z Fm Z Z Z (zY ?_)
 refine yW (M':=[HA.blk b2 [_,_,_,_,_,_] 34]) (by repeat (first|exact zO _|refine zB 0 Z ?_|refine zB 1 Z ?_|refine zB 2 Z ?_|refine zB 3 Z ?_|refine zB 4 Z ?_)) ?_
 exact xC 0 Tryz.results60 Z Z Fl ⟨rfl,A11,m11,B11,d11,rfl,rfl⟩ nS (cC 0 Z)
theorem c27(a b:V)(ha:Wf a)(hb:Wf b)(y:Value)(A1 A2:Option Addr)(c1 c2:Nat):dP Tryz.prog 27 #[.agg #[.int .i64 0, .int .i64 a.kind, .int .i64 a.num, .string a.text, .slice A1 a.keys.length c1, .slice A2 a.items.length c2],y] [.val (.agg #[.int .i64 a.kind, .int .i64 a.num, .string a.text, .slice A1 a.keys.length c1, .slice A2 a.items.length c2]) a, .val y b] (.bool (tb (dj a=dj b))):=by
 refine Ct.of_run (args:=[.agg #[.int .i64 0, .int .i64 a.kind, .int .i64 a.num, .string a.text, .slice A1 a.keys.length c1, .slice A2 a.items.length c2],y]) Tryz.func27 aF Z Tryz.ntmps27 Z (fun c=>?_)
 refine xB 1 Z (fun B1 m1 B2 m2 hy hsz hk1 hk2 hi1 hi2=>?_)
 subst hy
 refine rO 3 Z (yN Z Z Z (fun b2=>?_))
 refine zA (yN Z Z Z (fun b3=>?_))
 refine oR 4 Z (yX yI ?_)
 refine zS (tP 0 Z br (yA Fp Z) ?_)
 refine yH (tM 1 Z br (xD 1 eJ Z Z Z) ?_)
 refine tM 2 Z br (lR Z Z) (zS ?_)
 refine tP 3 Z br (zZ Z) (gd (s:=8) Z (rfl) ?_)
 refine tP 4 Z (cT Z Z) (yA AO Z) (yH ?_)
 refine tM 5 Z (cT Z Z) (o2 1 Z cB Z Z Z) (tM 7 Z (cT Z Z) (uR 0 Z cB Z) ?_)
 refine zN 6 aD ?_
 refine zP (I2:=[[7],[],[],[],[]]) Z (cT Z Z) aD (fun Kd hKd=>?_)
 refine zW Z Z Z (Lr a ha _) aA (fun u11 D11 hv11=>?_)
 obtain⟨A11,m11,B11,d11,rfl,rfl⟩:=hv11
 refine hKd _ _ _ (hC (zE (zE (zE (zE (zQ)))))) (zN 8 aD ?_)
 refine zP (I2:=[[],[],[],[],[]]) Z (cT Z Z) aD (fun Kd hKd=>?_)
 refine zW Z Z Z (Lr b hb _) aA (fun u13 D13 hv13=>?_)
 obtain⟨A13,m13,B13,d13,rfl,rfl⟩:=hv13
 refine hKd _ _ _ (zE (zE (zE (zE (zE (zQ)))))) (zN 9 aD ?_)
 refine zP (I2:=[[],[],[],[],[]]) Z (cT Z Z) aD (fun Kd hKd=>?_)
 refine zJ Z Z Z (c25 (dj a) (dj b) _ _) aB (hKd _ _ _ (zE (zE (zE (zE (zE (zQ)))))) ?_)
 refine zS (tP 10 Z br (rB Z Z) ?_)
 refine tP 11 Z br (yZ Z) (yG aD ?_)
 refine rK 0 [4] Z Z ?_
 exact zD Tryz.results27 Z ⟨rfl,rfl,rfl⟩ nS (fun _ h=>by cases h)
theorem JD(v:V):wr (wr v)=wr v:=by
 refine V.indS (p:=fun v=>wr (wr v)=wr v) (fun v IH=>?_) v
 rw [iE v,iE (cY _ _ _ _ _ v),qZ]
 have h2:(fun x=>dv x && dv x)=dv:=by funext x;cases dv x<;>rfl
 rw [h2]
 refine sB fun k x hx=>?_
 rw [eu rX]
 refine qE fun y hy=>?_
 have hlt:=Nat.lt_of_le_of_lt hy (yU hx)
 rw [IH y hlt]
 split
 ·rfl
 ·split<;>rfl
theorem gO(v:V):(wr v).keys.zip (wr v).items=((v.keys.zip v.items).filter (fun p=>dv p.1)).map (fun p=>(p.1,cA (bw p.1) wr p.2)):=by
  rw [iE]
  unfold cY
  simp only [V.keys,V.items]
  rw [List.zip_map]
  generalize (List.filter _ _)=l
  induction l with
  |nil=>rfl
  |cons a l ih=>simp [ih]
theorem oZ{x:V}(h: ∀ y∈x.items,y.kind=5)(hs: ∀ y∈x.items,IsShape (wr y)): ∀ z∈(cL wr x).items,IsShape z:=by
 intro z hz
 unfold cL at hz
 simp only [V.items]at hz
 obtain⟨y,hy,rfl⟩:=List.mem_map.1 hz
 rw [xY (h y hy)]
 exact hs y hy
theorem uf{sh:Int}{x:V}(hf:FitLoc sh x)(h: ∀ y∈kidsOf sh x,IsShape (wr y)):FitLoc sh (cA sh wr x)∧ ∀ y∈kidsOf sh (cA sh wr x),IsShape y:=by
 unfold cA
 split
 ·rename_i h5
  subst h5
  exact fits5.2 (h x bn)
 split
 ·rename_i h6
  subst h6
  split
  ·rename_i hk
   exact fits6.2 (.inr (h x bV))
  ·rename_i hk
   have hf':x.kind=1∨x.kind=5:=by simpa [FitLoc]using hf
   exact fits6.2 (.inl (hf'.resolve_right hk))
 split
 ·rename_i h7
  subst h7
  split
  ·rename_i hk
   exact fits7.2 (.inl (h x bW))
  ·rename_i hk
   have hf':x.kind=5∨(x.kind=4∧ ∀ x'∈x.items,x'.kind=5):=by simpa [FitLoc]using hf
   have h4:=hf'.resolve_left hk
   exact fits7.2 (.inr ⟨h4.1,oZ h4.2 fun y hy=>h y bB⟩)
 split
 ·rename_i h9
  rcases h9 with h9|h9
  ·subst h9
   have hf':x.kind=5∧ ∀ x'∈x.items,x'.kind=5:=by simpa [FitLoc]using hf
   exact fits9.2 ⟨hf'.1,oZ hf'.2 fun y hy=>h y bK⟩
  ·subst h9
   have hf':x.kind=4∧ ∀ x'∈x.items,x'.kind=5:=by simpa [FitLoc]using hf
   exact fits13.2 ⟨hf'.1,oZ hf'.2 fun y hy=>h y bJ⟩
 ·rename_i h5 h6 h7 h9
  refine⟨hf,fun y hy=>?_⟩
  unfold kidsOf at hy
  rw [if_neg h5,if_neg h6,if_neg h7,if_neg h9]at hy
  cases hy
theorem Gn{sh:Int}{x y:V}(h:y∈kidsOf sh x):y=x∨y∈x.items:=by
 unfold kidsOf at h
 (repeat' split at h)<;>first|(exact .inl (List.mem_singleton.1 h))|(exact .inr (List.mem_filter.1 h).1)|cases h
theorem ug{v x y:V}{sh:Int}(hp:Pl v)(hx:x∈v.items)(h:y∈kidsOf sh x):Pl y:=(Gn h).elim (fun e=>e▸hp.item x hx) (fun e=>(hp.item x hx).item y e)
theorem re:dv cz=true:=by decide+kernel
theorem fW:bw cz=1:=by decide+kernel
theorem rg(v:V):IsShape v→Pl v→IsShape (wr v):=by
 refine V.indS (p:=fun v=>IsShape v→Pl v→IsShape (wr v)) (fun v IH hs hp=>?_) v
 have hk5:=hs.kind
 have hpw:Pl (wr v):=qm hs hp
 have hfit:=((xX v).1 hs).2
 have hget: ∀ k y,(k,y)∈(wr v).keys.zip (wr v).items↔ ∃x,(k,x)∈v.keys.zip v.items∧dv k=true∧y=cA (bw k) wr x:=by
  intro k y
  rw [gO,List.mem_map]
  constructor
  ·rintro ⟨⟨k',x⟩,hm,he⟩
   injection he with e1 e2
   subst e1;subst e2
   obtain⟨h1,h2⟩:=List.mem_filter.1 hm
   exact⟨x,h1,h2,rfl⟩
  ·rintro ⟨x,h1,h2,rfl⟩
   exact⟨(k,x),List.mem_filter.2 ⟨h1,h2⟩,rfl⟩
 refine(xX _).2 ⟨rX v,fun j k y hj hy=>?_⟩
 have hm:(k,y)∈(wr v).keys.zip (wr v).items:=by
  have h1:=List.getElem?_eq_some_iff.1 hj
  have h2:=List.getElem?_eq_some_iff.1 hy
  refine List.mem_of_getElem? (i:=j) ?_
  rw [List.getElem?_zip_eq_some]
  exact⟨hj,hy⟩
 obtain⟨x,hx,hw,rfl⟩:=(hget k y).1 hm
 obtain⟨j',hj1,hj2⟩:=qG ((yJ hp hk5).1 hx)
 obtain⟨hf,hkid,hid⟩:=hfit j' _ _ hj1 hj2
 have hxm:=List.mem_of_getElem? hj2
 obtain⟨hf2,hkid2⟩:=uf hf (fun z hz=>IH z (Nat.lt_of_le_of_lt (uY hz) (yU hxm)) (hkid z hz) (ug hp hxm hz))
 refine⟨hf2,hkid2,fun he=>?_⟩
 obtain⟨u,hu,h4⟩:=hid he
 have hz:=(yJ hp hk5).2 hu
 have:=(hget cz (cA (bw cz) wr u)).2 ⟨u,hz,re,rfl⟩
 refine⟨_,(yJ hpw (rX v)).1 this,?_⟩
 rw [fW]
 exact h4
theorem Bz{U:Nat→V→Prop}{x:V}{fv:FVal}(h:FvRel U 9 x fv): ∃l ps,fv= .named l∧ps.Perm (x.keys.zip x.items)∧All2 (fun(q:ByteArray×Nat) (p:ByteArray×V)=>q.1=p.1∧U q.2 p.2) l ps:=by
 cases fv<;>try exact absurd h.1 aE
 case any=>exact absurd (show(9:Int)=14 from h) aE
 case named l=>
  obtain⟨_,ps,hp,hU⟩:=h
  exact⟨l,ps,rfl,hp,hU⟩
theorem mI{v x:V}{key:ByteArray}(hs:IsShape v)(hp:Pl v)(h9:bw key=9)(hx:getV v key=some x):Pl x∧x.kind=5∧ ∀ z∈x.items,z.kind=5∧IsShape z∧Pl z:=by
 obtain⟨j,hj1,hj2⟩:=qG hx
 obtain⟨hf,hkid,_⟩:=((xX v).1 hs).2 j _ _ hj1 hj2
 have hm:=List.mem_of_getElem? hj2
 rw [h9]at hf hkid
 obtain⟨h5,hi⟩:=fits9.1 ⟨hf,hkid⟩
 exact⟨hp.item x hm,h5,fun z hz=>⟨(hi z hz).kind,hi z hz,(hp.item x hm).item z hz⟩⟩
theorem B0(v:V):(bx v).keys.zip (bx v).items=((v.keys.zip v.items).filter (fun p=>eI p.1)).map (fun p=>(p.1,cA (bw p.1) bx p.2)):=by
  rw [sI]
  unfold cY
  simp only [V.keys,V.items]
  rw [List.zip_map]
  generalize (List.filter _ _)=l
  induction l with
  |nil=>rfl
  |cons a l ih=>simp [ih]
theorem gw{v:V}(hs:IsShape v)(hp:Pl v):Pl (bx v):=hp.elim fun d h=>⟨d,tw v hs d h⟩
theorem rI{v:V}(hs:IsShape v)(hp:Pl v)(key:ByteArray):getV (bx v) key=if eI key=true then(getV v key).map (cA (bw key) bx)else none:=by
  have hget: ∀ y,getV (bx v) key=some y↔ ∃x,getV v key=some x∧eI key=true∧y=cA (bw key) bx x:=by
    intro y
    rw [←yJ (gw hs hp) (sU v),B0,List.mem_map]
    constructor
    · rintro ⟨⟨k',x⟩,hm,he⟩
      injection he with e1 e2
      subst e1;subst e2
      obtain⟨h1,h2⟩:=List.mem_filter.1 hm
      exact⟨x,(yJ hp hs.kind).1 h1,h2,rfl⟩
    · rintro ⟨x,h1,h2,rfl⟩
      exact⟨(key,x),List.mem_filter.2 ⟨(yJ hp hs.kind).2 h1,h2⟩,rfl⟩
  cases h:getV (bx v) key with
  |some y=>
    obtain⟨x,h1,h2,rfl⟩:=(hget y).1 h
    rw [if_pos h2,h1]
    rfl
  |none=>
    split
    · rename_i hk
      cases hv:getV v key with
      |none=>rfl
      |some x=>
        have:=(hget _).2 ⟨x,hv,hk,rfl⟩
        rw [h]at this
        cases this
    · rfl
theorem wy(q m:Int)(s:ByteArray)(ks:List ByteArray)(ts:List V)(key:ByteArray):getV (.mk q m s ks ts) key=if dL ks key= -1 then none else ts[(dL ks key).toNat]? :=rfl
theorem uh{w:World}{ok:Nat→Prop}{t:V}{y:Value}(h:ValP w ok t y): ∃A1 c1 A2 c2,y= .agg #[.int .i64 t.kind, .int .i64 t.num, .string t.text, .slice A1 t.keys.length c1, .slice A2 t.items.length c2]:=by
 obtain⟨q,r,s,ks,its⟩:=t
 simp only [ValP]at h
 obtain⟨kv,iv,rfl,_,⟨A1,c1,rfl,_⟩,A2,c2,rfl,_⟩:=h
 exact⟨A1,c1,A2,c2,rfl⟩
theorem y9(x:Value)(t:V)(key:ByteArray)(hkl:t.keys.length≤t.items.length):CtR Tryz.prog 62 #[x, .string key] [.val x t] (fun u D'=> ∃y,u= .tuple #[y, .bool (getV t key).isSome]∧RV ((getV t key).getD zV) y D'):=by
 refine⟨(Lp x t key hkl).1,fun w ok hok hM hn hD=>Calls.mono ((Lp x t key hkl).2 w ok hok hM hn hD) ?_⟩
 rintro e w' ⟨u,M',D',rfl,⟨hM',y,rfl,rfl⟩,hchg,hm,hn',hft,hd⟩
 obtain⟨A1,c1,A2,c2,hy⟩:=uh (hd _ List.mem_cons_self)
 exact⟨_,M',_,rfl,⟨hM',y,rfl,A1,c1,A2,c2,hy,rfl⟩,hchg,hm,hn',hft,hd⟩
end Go.Jw

namespace Go.Jw
open Go Go.RowKit
theorem rh(pre zs vs post:List Value)(h:zs.length=vs.length):dZ (pre++(zs++post)) pre.length vs=pre++(vs++post):=by
  induction vs generalizing pre zs with
  |nil=>
    have:zs=[]:=List.eq_nil_of_length_eq_zero h
    subst this
    rfl
  |cons v vs ih=>
    cases zs with
    |nil=>cases h
    |cons z zs=>
      have e:(pre++(z::zs++post)).set pre.length v=(pre++[v])++(zs++post):=by simp
      have:=ih (pre++[v]) zs bm
      rw [dZ,e]
      simp only [List.length_append,List.length_singleton]at this
      rw [this]
      simp
section rules
variable {P:Program} {n:Nat} {F:List Nat} {c:Ctx F} {ops:Array Oper} {d:Nat} {T:TypeId} {l:List Oper} {k:List KI} {Q:Post} {e:cp} {M:List HA} {D:List DA}
theorem ui(i:Nat){x y:Operand}{A:Option Addr}{m cap j:Nat}{kd:IntKind}{S E sz by_ U:Nat}{xs:List Value}(hS:cM P S E sz by_)(hx:ev e x=some (.slice A m cap))(hy:ev e y=some (.int kd (j:Nat)))(hi:M[i]? =some (.row A m cap U sz xs))(hj:j<m):
  St P n c (.indexAddr S x y) T e M D (.pointer (some (At A (j*sz)))):=by
 intro d a w hf
 have hrow:=hf.toFitsW.mem hi
 rcases hrow.2 with ⟨_,h⟩|⟨g,cap',cur,hv,_⟩
 ·omega
 ·injection hv with h4
  subst h4
  exact uK (T:=T) hS hx hy hj d a w hf
theorem kL(i:Nat){x y:Operand}{A:Option Addr}{m cap E sz S:Nat}{pre zs vs:List Value}{v:Value}(hx:ev e x=some (.pointer (some (At A (m*sz)))))(hy:ev e y=some v)(hi:M[i]? =some (.row A (m+1) cap E sz (pre++zs)))(hz:zs.length=sz)(hvs:vs.length=sz)(hv:v.cells=vs.toArray)
  (hs: ∃i,P.info? S=some i∧i.size=sz) (h1:vs.all (·.oneCell')=true) (next:bu P n c ops l k Q e (M.set i (.row A (m+1) cap E sz (pre++vs))) D):b0 P n c ops none (.store S x y) T l k Q e M D:=by
 intro a w hf
 have hrow:=hf.toFitsW.mem hi
 have hpl:pre.length=m*sz:=by
  have:=hrow.1
  rw [List.length_append,hz,Nat.succ_mul]at this
  omega
 rcases hrow.2 with ⟨_,h⟩|⟨g,cap',cur,hv',hg,hc,hnc,hm,hsz,ht⟩
 ·omega
 ·injection hv' with hA _ hcap
  subst hA;subst hcap
  have hcur:cur.toList=pre++(zs++cur.toList.drop ((m+1)*sz)):=by
   rw [←List.append_assoc,←ht,List.take_append_drop]
  have hcs:w.heap[g]? =some (.cells cur.toList.toArray E (0,0)):=by rw [Array.toArray_toList];exact hc
  obtain⟨w',hr,hh,hcg⟩:=fj (P:=P) (T':=S) (v:=v) (o:=pre.length) hcs hv (by rw [hvs];exact hs) (by rw [hcur];simp;omega) (fun u hu=>(List.all_eq_true.1 h1) u hu)
  have hadr:At (some ⟨g,0,none⟩) (m*sz)=⟨g,pre.length,none⟩:=by
   show(⟨g,0,none⟩:Addr).add (m*sz)=_
   rw [wV,Nat.zero_add,hpl]
  unfold Oper.wp
  have:(execOp a.eval (cx none (.store S x y) T)).run P w= .ok .skip w':=by simp [execOp,cx,hf.ev hx,hf.ev hy,hadr,hr]
  rw [this]
  refine next _ _ (hf.world (hf.toFitsW.swapAt hi (x':= .row (some ⟨g,0,none⟩) (m+1) cap E sz (pre++vs)) ?_ (by simpa [HA.foot]using hcg) bf (fun q hq=> .inl hq)))
  refine⟨by rw [List.length_append,hpl,hvs,Nat.succ_mul], .inr ⟨g,cap,_,rfl,Nat.zero_le _,hh,hnc,hm,?_,?_⟩⟩
  ·rw [List.size_toArray,lK];simpa using hsz
  ·have e:dZ cur.toList pre.length vs=pre++(vs++cur.toList.drop ((m+1)*sz)):=by
    conv=>lhs;rw [hcur]
    exact rh _ _ _ _ aC
   rw [e]
   show List.take ((m+1)*sz) (pre++(vs++_))=_
   rw [←List.append_assoc]
   exact List.take_left' (by rw [List.length_append,hpl,hvs,Nat.succ_mul])
theorem sX(i j:Nat){x y:Operand}{A:Option Addr}{m cap:Nat}{S E sz by_:Nat}{xs vs:List Value}{b:Nat}{U:TypeId}(hS:cM P S E sz by_)(hd:Nat.blt d n=true)(hx:ev e x=some (.slice A m cap))(hy:ev e y=some (.slice (some ⟨b,0,none⟩) 1 1))(hi:M[i]? =some (.row A m cap E sz xs))
  (hj:M[j]? =some (.blk b vs U)) (hl:vs.length=sz) (h1:vs.all (·.oneCell')=true) (hsz:m+1≤maxLen) (hby:(m+1)*by_≤140737488355328) (hA: ∀ a,A=some a→c.w0.heap.size≤a.block)
  (next: ∀ A' cap',(∀ a,A'=some a→c.w0.heap.size≤a.block)→bu P n c ops l k Q ((d, .slice A' (m+1) cap')::e) (M.set i (.row A' (m+1) cap' E sz (xs++vs))) D):
  b0 P n c ops (some d) (.call {callee:= .builtin .append,args:= #[x,y],argTypes:= #[S,S]}) T l k Q e M D:=
 lQ i hS hd hx hy hi aC (fun w h=> .inr ⟨_,rfl,fun q u hq=>by rw [wV];exact dQ h hj (by rw [Nat.zero_add];exact hq)⟩) (fun u hu=>List.all_eq_true.1 h1 u hu) hsz hby (fun A' cap' h=>next A' cap' (h hA))
theorem kM(i:Nat){h:HA}(D':List DA)(hfr: ∀ b∈h.foot,c.w0.heap.size≤b)(hi:M[i]? =some h)(hd: ∀ (w:World) (ok:Nat→Prop),h.holds w→(∀ b∈h.foot,ok b)→(∀ d∈D,d.p w ok)→ ∀ d∈D',d.p w ok)
  (next:Run P n c k Q e (M.eraseIdx i) (D'++D)):Run P n c k Q e M D:=
 sk D' (fun b hb hbF=>absurd (c.hF b hbF) (by have:=hfr b hb;omega)) (vH hi) hd next
theorem kN(i j:Nat){A:Option Addr}{m cap E:Nat}{xs:List Value}(ts:List V)(hA: ∀ a,A=some a→c.w0.heap.size≤a.block)(hi:M[i]? =some (.row A m cap E 5 xs))(hj:D[j]? =some (.its xs ts))(hm:m=ts.length)(next:Run P n c k Q e (M.eraseIdx i) (.vals (.slice A m cap) ts::D)):Run P n c k Q e M D:=
  kM i [.vals (.slice A m cap) ts] (fun b hb=>by
    cases A with
    |none=>cases hb
    |some a=>rw [List.mem_singleton.1 hb];exact hA a rfl) hi (fun w ok h hok hD d hd=>by
    rcases List.mem_singleton.1 hd with rfl
    exact kC h hok (hD _ (List.mem_of_getElem? hj)) hm) next
theorem fC{fo:Operand}{ags:Array Operand}{ts:Array TypeId}{f:FuncId}{cap:Array Value}{vs:List Value}{pre M1:List HA}{D1:List DA}{R:Value→List HA→List DA→Prop}(hd:Nat.blt d n=true)(hfo:ev e fo=some (.func (.func f) #[] cap))(has:ags.toList.mapM (ev e)=some vs)
  (hct:Ct P f (vs.toArray++cap) M1 D1 R) (hM:M=pre++M1) (hD: ∀ d∈D1,d∈D)
  (next: ∀ v M' D',R v M' D'→bu P n c ops l k Q ((d,v)::e) (pre++M') (D'++D)):b0 P n c ops (some d) (.call {callee:= .value fo,args:=ags,argTypes:=ts}) T l k Q e M D:=by
 subst hM
 refine fun a w hf=>rA (M1:=M1) (M2:=pre) hd hfo has hct Z hD (fun v M' D' hR a' w' hf'=>next v M' D' hR a' w' (hf'.world (hf'.toFitsW.perm List.perm_append_comm))) a w (hf.world (hf.toFitsW.perm List.perm_append_comm))
end rules
end Go.Jw

namespace Go.Jw
open Go Go.RowKit Go.Proofs
def HE(M N:List HA):Prop:=(∀ w:World,(∀ h∈M,h.holds w)↔ ∀ h∈N,h.holds w)∧(foots M).Perm (foots N)
theorem HE.refl(M:List HA):HE M M:=⟨fun _=>Iff.rfl, .refl _⟩
theorem HE.symm{M N:List HA}(h:HE M N):HE N M:=⟨fun w=>(h.1 w).symm,h.2.symm⟩
theorem HE.trans{M N L:List HA}(h:HE M N)(k:HE N L):HE M L:=⟨fun w=>(h.1 w).trans (k.1 w),h.2.trans k.2⟩
theorem HE.perm{M N:List HA}(h:M.Perm N):HE M N:=⟨fun w=>⟨fun a x hx=>a x (h.mem_iff.2 hx),fun a x hx=>a x (h.mem_iff.1 hx)⟩,lI h⟩
theorem HE.append{M N M' N':List HA}(h:HE M N)(k:HE M' N'):HE (M++M') (N++N'):=by
 refine⟨fun w=>?_,by rw [yL,yL];exact h.2.append k.2⟩
 have e: ∀ A B:List HA,(∀ x∈A++B,x.holds w)↔(∀ x∈A,x.holds w)∧ ∀ x∈B,x.holds w:=fun A B=>
  ⟨fun a=>⟨fun x hx=>a x (List.mem_append_left _ hx),fun x hx=>a x (List.mem_append_right _ hx)⟩,fun a x hx=>(List.mem_append.1 hx).elim (a.1 x) (a.2 x)⟩
 rw [e,e,h.1 w,k.1 w]
theorem FitsW.he{F:List Nat}{c:Ctx F}{M N:List HA}{D:List DA}{w:World}(h:FitsW c M D w)(he:HE M N):FitsW c N D w:=
 ⟨h.chg,(he.1 w).1 h.own,he.2.nodup_iff.1 h.nodup,fun b hb=>h.foot b (he.2.mem_iff.2 hb),fun d hd=>
  d.mono (fun k hk=>⟨hk.1,hk.2.1,fun h'=>hk.2.2 (he.2.mem_iff.2 h')⟩) (fun _ _=>rfl) (h.dat d hd)⟩
theorem Ct.know{P:Program}{f:FuncId}{args:Array Value}{M:List HA}{D:List DA}{R:Value→List HA→List DA→Prop}{p:Prop}(hp:(foots M).Nodup→ ∀ (w:World) (ok:Nat→Prop),(∀ d∈D,d.p w ok)→p)(hF:sf P f)(h:p→Ct P f args M D R):Ct P f args M D R:=
 ⟨hF,fun w ok hok hM hn hD=>(h (hp hn w ok hD)).2 w ok hok hM hn hD⟩

abbrev ce:=Nat→Option Flds
def wz(σ:ce)(b:Nat)(o:Option Flds):ce:=fun d=>if d=b then o else σ d
theorem fD(σ:ce)(b:Nat)(o:Option Flds):wz σ b o b=o:=if_pos rfl
theorem gP{σ:ce}{b d:Nat}(h:d≠b)(o:Option Flds):wz σ b o d=σ d:=if_neg h
theorem B9{σ:ce}{b:Nat}{o:Option Flds}(h:σ b=o):wz σ b o=σ:=by
 funext x
 by_cases h1:x=b
 ·rw [h1,fD,h]
 ·rw [gP h1]
def GOk(G:Gr)(σ:ce):Prop:=(G.map (·.1)).Nodup∧ ∀ b f,G.at b f↔σ b=some f
theorem GOk.ex{G:Gr}(h:(G.map (·.1)).Nodup): ∃σ,GOk G σ:=by
  induction G with
  |nil=>exact⟨fun _=>none,h,fun b f=>⟨(fun⟨cs,hm⟩=>absurd hm aJ),(fun h=>by cases h)⟩⟩
  |cons g G ih=>
    rw [List.map_cons,List.nodup_cons]at h
    obtain⟨σ,h1,h2⟩:=ih h.2
    refine⟨wz σ g.1 (some g.2.2),by rw [List.map_cons,List.nodup_cons];exact h,fun b f=>?_⟩
    by_cases hb:b=g.1
    · subst hb
      rw [fD]
      constructor
      · rintro ⟨cs,hm⟩
        rcases List.mem_cons.1 hm with e|e
        · rw [←e]
        · exact absurd (List.mem_map.2 ⟨_,e,rfl⟩) h.1
      · intro e
        injection e with e
        exact⟨g.2.1,by rw [←e];exact List.mem_cons_self⟩
    · rw [gP hb,←h2]
      constructor
      · rintro ⟨cs,hm⟩
        rcases List.mem_cons.1 hm with e|e
        · exact absurd (congrArg Prod.fst e) hb
        · exact⟨cs,e⟩
      · rintro ⟨cs,hm⟩
        exact⟨cs,List.mem_cons_of_mem _ hm⟩
theorem GOk.perm{G G':Gr}{σ:ce}(h:GOk G σ)(hp:G.Perm G'):GOk G' σ:=
 ⟨(hp.map _).nodup_iff.1 h.1,fun b f=>by rw [←h.2];exact⟨fun⟨cs,hm⟩=>⟨cs,hp.mem_iff.2 hm⟩,fun⟨cs,hm⟩=>⟨cs,hp.mem_iff.1 hm⟩⟩⟩
theorem GOk.tail{g:Nat×List Value×Flds}{R:Gr}{σ:ce}(h:GOk (g::R) σ):GOk R (wz σ g.1 none):=by
 have hn:=h.1
 rw [List.map_cons,List.nodup_cons]at hn
 refine⟨hn.2,fun b f=>?_⟩
 by_cases hb:b=g.1
 ·subst hb
  rw [fD]
  exact⟨fun⟨cs,hm⟩=>absurd (List.mem_map.2 ⟨_,hm,rfl⟩) hn.1,fun e=>by cases e⟩
 ·rw [gP hb,←h.2]
  constructor
  ·rintro ⟨cs,hm⟩;exact⟨cs,List.mem_cons_of_mem _ hm⟩
  ·rintro ⟨cs,hm⟩
   rcases List.mem_cons.1 hm with e|e
   ·exact absurd (congrArg Prod.fst e) hb
   ·exact⟨cs,e⟩
theorem GOk.join{R:Gr}{σ:ce}{b:Nat}(h:GOk R (wz σ b none))(cs:List Value)(f:Flds):GOk ((b,cs,f)::R) (wz σ b (some f)):=by
 have hno: ∀ cs f,(b,cs,f)∉R:=fun cs f hm=>by
  have:=(h.2 b f).1 ⟨cs,hm⟩
  rw [fD]at this
  cases this
 refine⟨?_,fun d f'=>?_⟩
 ·rw [List.map_cons,List.nodup_cons]
  refine⟨fun hm=>?_,h.1⟩
  obtain⟨⟨b',cs',f'⟩,h1,h2⟩:=List.mem_map.1 hm
  exact hno cs' f' (by rw [show b=b' from h2.symm];exact h1)
 ·by_cases hb:d=b
  ·subst hb
   rw [fD]
   constructor
   ·rintro ⟨cs',hm⟩
    rcases List.mem_cons.1 hm with e|e
    ·injection e with _ e;injection e with _ e;rw [e]
    ·exact absurd e (hno _ _)
   ·intro e;injection e with e;exact⟨cs,by rw [e];exact List.mem_cons_self⟩
  ·rw [gP hb]
   have:=h.2 d f'
   rw [gP hb]at this
   rw [←this]
   constructor
   ·rintro ⟨cs',hm⟩
    rcases List.mem_cons.1 hm with e|e
    ·exact absurd (congrArg Prod.fst e) hb
    ·exact⟨cs',e⟩
   ·rintro ⟨cs',hm⟩;exact⟨cs',List.mem_cons_of_mem _ hm⟩
theorem GOk.split{G:Gr}{σ:ce}{b:Nat}{f:Flds}(h:GOk G σ)(hb:σ b=some f): ∃cs R,G.Perm ((b,cs,f)::R)∧GOk R (wz σ b none):=by
 obtain⟨cs,hm⟩:=(h.2 b f).2 hb
 obtain⟨s,t,rfl⟩:=List.append_of_mem hm
 have hp:(s++(b,cs,f)::t).Perm ((b,cs,f)::(s++t)):=List.perm_middle
 exact⟨cs,s++t,hp,(h.perm hp).tail⟩
theorem za{G G':Gr}(h:G.Perm G'):(Gr.blks G).Perm (Gr.blks G'):=h.map _
theorem CA{U:TypeId}{gs gs':List (Nat×List Value)}(h:gs.Perm gs'):HE [.many U gs] [.many U gs']:=
 ⟨fun w=>by
  constructor<;>intro a x hx<;>rcases List.mem_singleton.1 hx with rfl<;>intro g hg
  ·exact(a _ List.mem_cons_self:(HA.many U gs).holds w) g (h.mem_iff.2 hg)
  ·exact(a _ List.mem_cons_self:(HA.many U gs').holds w) g (h.mem_iff.1 hg),by simpa [foots,HA.foot]using h.map _⟩
theorem CB(U:TypeId)(b:Nat)(cs:List Value)(gs:List (Nat×List Value)):HE [.many U ((b,cs)::gs)] [.blk b cs U, .many U gs]:=
 ⟨fun w=>by
  constructor
  ·intro a x hx
   have h1:(HA.many U ((b,cs)::gs)).holds w:=a _ List.mem_cons_self
   simp only [List.mem_cons,List.not_mem_nil,or_false]at hx
   rcases hx with rfl|rfl
   ·exact h1 (b,cs) List.mem_cons_self
   ·exact fun g hg=>h1 g (List.mem_cons_of_mem _ hg)
  ·intro a x hx
   rcases List.mem_singleton.1 hx with rfl
   intro g hg
   rcases List.mem_cons.1 hg with rfl|hg
   ·exact(a _ List.mem_cons_self:(HA.blk b cs U).holds w)
   ·exact(a _ (List.mem_cons_of_mem _ List.mem_cons_self):(HA.many U gs).holds w) g hg,by simp [foots,HA.foot]⟩
theorem ri{G R:Gr}{b:Nat}{cs:List Value}{f:Flds}(h:G.Perm ((b,cs,f)::R)):HE [.many 124 (Gr.blks G)] [.blk b cs 124, .many 124 (Gr.blks R)]:=
 (CA (za h)).trans (CB 124 b cs (Gr.blks R))
theorem uj{U:TypeId}{gs:List (Nat×List Value)}{M:List HA}(h:(foots (.many U gs::M)).Nodup):(gs.map (·.1)).Nodup:=(List.nodup_append.1 h).1
theorem rj{G:Gr}{M:List HA}(h:(foots (.many 124 (Gr.blks G)::M)).Nodup):(G.map (·.1)).Nodup:=by
 have:=uj h
 rw [Gr.blks,List.map_map]at this
 exact this
def Flds.put(f:Flds)(i:Nat)(o:Option FVal):Flds:=fun j=>if j=i then o else f j
section rules
variable {P:Program} {n:Nat} {F:List Nat} {c:Ctx F} {ops:Array Oper} {d:Nat} {T:TypeId} {l:List Oper} {k:List KI} {Q:Post} {e:cp} {M:List HA} {D:List DA}
theorem Gp{N:List HA}(he:HE M N)(next:Run P n c k Q e N D):Run P n c k Q e M D:=fun a w hf=>next a w (hf.world (hf.toFitsW.he he))
theorem oa{N:List HA}(he:HE M N)(next:bu P n c ops l k Q e N D):bu P n c ops l k Q e M D:=fun a w hf=>next a w (hf.world (hf.toFitsW.he he))
theorem fX{w:World}{ok:Nat→Prop}{mb:Nat}{cs:List Value}{f:Flds}(h:CellsP w ok mb cs f){i:Nat}(h1:1≤i)(h2:i≤36): ∃p:Option Addr,cs[i]? =some (.pointer p)∧p.isSome=(f i).isSome∧ ∀ fv,f i=some fv→FvP w ok fv (.pointer p):=by
  obtain⟨u,hu,hm⟩:=h.2.2 i h1 h2
  cases hf:f i with
  |none=>
    rw [hf]at hm
    exact⟨none,by rw [hu];exact congrArg some hm,rfl,fun fv h=>by cases h⟩
  |some fv=>
    rw [hf]at hm
    have: ∃p:Addr,u= .pointer (some p):=by
      cases fv with
      |text s=>obtain⟨p,a,b⟩:=hm;exact⟨_,a⟩
      |bool x=>obtain⟨p,a,b⟩:=hm;exact⟨_,a⟩
      |int n=>obtain⟨p,a,b⟩:=hm;exact⟨_,a⟩
      |numI n=>obtain⟨b,p,a,c⟩:=hm;exact⟨_,a⟩
      |numF n=>obtain⟨b,p,a,c⟩:=hm;exact⟨_,a⟩
      |sbS c=>obtain⟨b,a,d⟩:=hm;exact⟨_,a⟩
      |sbB x=>obtain⟨b,p,a,c⟩:=hm;exact⟨_,a⟩
      |itS c=>obtain⟨b,a,d⟩:=hm;exact⟨_,a⟩
      |itL bs=>obtain⟨b,p,sl,a,c⟩:=hm;exact⟨_,a⟩
      |texts l=>obtain⟨p,sl,a,d⟩:=hm;exact⟨_,a⟩
      |named l=>obtain⟨p,sl,nbs,a,d⟩:=hm;exact⟨_,a⟩
      |deps l=>obtain⟨p,sl,nbs,a,d⟩:=hm;exact⟨_,a⟩
      |enums l=>obtain⟨p,A,c,a,d⟩:=hm;exact⟨_,a⟩
      |tyS s=>obtain⟨b,p,a,c⟩:=hm;exact⟨_,a⟩
      |tyL l=>obtain⟨b,p,sl,a,c⟩:=hm;exact⟨_,a⟩
      |list bs=>obtain⟨p,sl,a,d⟩:=hm;exact⟨_,a⟩
      |one c=>exact⟨_,hm⟩
      |any=>obtain⟨p,a⟩:=hm;exact⟨_,a⟩
    obtain⟨p,rfl⟩:=this
    exact⟨some p,hu,rfl,fun fv' h=>by injection h with h;subst h;exact hm⟩
theorem mJ{w:World}{ok:Nat→Prop}{mb:Nat}{cs:List Value}{f:Flds}(h:CellsP w ok mb cs f){i:Nat}(h1:1≤i){p:Option Addr}{o:Option FVal}(hp:p.isSome=o.isSome)(ho: ∀ fv,o=some fv→FvP w ok fv (.pointer p)):CellsP w ok mb (cs.set i (.pointer p)) (f.put i o):=by
  refine⟨by simp [h.1],by rw [List.getElem?_set_ne aC];exact h.2.1,fun q hq hq2=>?_⟩
  by_cases hoq:q=i
  · subst hoq
    refine⟨.pointer p,by rw [List.getElem?_set_self bc],?_⟩
    simp only [Flds.put,if_true]
    cases o with
    |none=>cases p with
      |none=>rfl
      |some a=>cases hp
    |some fv=>exact ho fv rfl
  · obtain⟨u',hu',hm⟩:=h.2.2 q hq hq2
    exact⟨u',by rw [List.getElem?_set_ne aC];exact hu',by simp only [Flds.put,if_neg hoq];exact hm⟩
end rules
end Go.Jw

namespace Go.Jw
open Go Go.RowKit
def gQ(q:Nat)(f s:Flds):Flds:=fun i=>if i=q then(s i).or (f i)else f i
theorem CC(l:List Nat)(hn:l.Nodup)(f s:Flds):l.foldl (fun g q=>gQ q g s) f=fun i=>if i∈l then(s i).or (f i)else f i:=by
  induction l generalizing f with
  |nil=>funext i;simp
  |cons q l ih=>
    rw [List.nodup_cons]at hn
    rw [List.foldl_cons,ih hn.2]
    funext i
    by_cases hi:i∈l
    · have hq:i≠q:=fun e=>hn.1 (e▸hi)
      simp [hi,gQ,hq]
    · by_cases hq:i=q
      · subst hq;simp [hi,gQ]
      · simp [hi,gQ,hq]
section rules
variable {P:Program} {n:Nat} {F:List Nat} {c:Ctx F} {ops:Array Oper} {d:Nat} {T:TypeId} {l:List Oper} {k:List KI} {Q:Post} {e:cp} {M:List HA} {D:List DA}
theorem nT(t:Nat)(v:Value)(e:cp):cf ((t,v)::e) t=some v:=by rw [vO,if_pos rfl]
theorem w1{t s:Nat}(v:Value)(e:cp)(h:s≠t):cf ((s,v)::e) t=cf e t:=by rw [vO,if_neg h]
theorem Gq{a n:Nat}(h:a<n):Nat.blt a n=true:=by simpa using h
theorem xI{b s mb mb2:Nat}{cs cs2:List Value}{f f2:Flds}(a q T:Nat)(ha:2≤a)(hn:a+11<n)(h1:1≤q)(h2:q≤36)(hT:cJ P T)(hfo:bz P 124 q q)(hpn:P.underlying T=some (.pointer (P.pointee T)))(hsi: ∃i,P.info? T=some i∧i.size=1)
    {i1 i2:Nat} {A1 A2 A3 A4 A5 B1 B2 B3 B4 B5 B6 B7 B8 C1:TypeId} {p1 p2 p3 p4 p5 q1 q2 q3 q4 q5 q6 q7 q8:String} {e1 e2 e3 e4 e5 g1 g2 g3 g4 g5 g6 g7 g8:Array Edge}
    (next: ∀ cs',Run P n c k Q [(0,cD b),(1,cD s)] [.blk b cs' 124, .blk s cs2 124] [.flds mb cs' (gQ q f f2), .flds mb2 cs2 f2]):
    Run P n c (.code (.seq (.region i1 #[⟨some a, .move (.tmp 1),A1,p1,e1,none⟩,⟨some (a+1), .nilCheck (.tmp a),A2,p2,e2,none⟩,⟨some (a+2), .fieldAddr 124 (.tmp (a+1)) q,A3,p3,e3,none⟩,⟨some (a+3), .load T (.tmp (a+2)),A4,p4,e4,none⟩,⟨some (a+4), .binOp .neq T (.tmp (a+3)) (.const (.pointer none)) C1,A5,p5,e5,none⟩] false)
      (.cond (.tmp (a+4)) (.region i2 #[⟨some (a+5), .move (.tmp 0),B1,q1,g1,none⟩,⟨some (a+6), .move (.tmp 1),B2,q2,g2,none⟩,⟨some (a+7), .nilCheck (.tmp (a+6)),B3,q3,g3,none⟩,⟨some (a+8), .fieldAddr 124 (.tmp (a+7)) q,B4,q4,g4,none⟩,⟨some (a+9), .load T (.tmp (a+8)),B5,q5,g5,none⟩,⟨some (a+10), .nilCheck (.tmp (a+5)),B6,q6,g6,none⟩,⟨some (a+11), .fieldAddr 124 (.tmp (a+10)) q,B7,q7,g7,none⟩,⟨none, .store T (.tmp (a+11)) (.tmp (a+9)),B8,q8,g8,none⟩] false) .skip))::k)
      Q [(0,cD b),(1,cD s)] [.blk b cs 124, .blk s cs2 124] [.flds mb cs f, .flds mb2 cs2 f2]:=by
  have ev1: ∀ (t:Nat) (v:Value) (e:cp),ev ((t,v)::e) (.tmp t)=some v:=fun t v e=>nT t v e
  have evn: ∀ (t s:Nat) (v:Value) (e:cp),s≠t→ev ((s,v)::e) (.tmp t)=ev e (.tmp t):=fun t s v e h=>w1 v e h
  have hbl: ∀ j,j≤11→Nat.blt (a+j) n=true:=fun j hj=>Gq aC
  refine uQ (p:=cs.length=37) (fun w ok h=>(h (.flds mb cs f) aJ).1) (fun hcl=>?_)
  refine uQ (p:= ∃p:Option Addr,cs2[q]? =some (.pointer p)∧p.isSome=(f2 q).isSome) (fun w ok h=>?_) (fun⟨p,hcp,hps⟩=>?_)
  · obtain⟨p,a1,a2,_⟩:=fX (h (.flds mb2 cs2 f2) aJ) h1 h2
    exact⟨p,a1,a2⟩
  refine xJ (iF (zA ?_))
  refine kW (hbl 0 aC) (v:=cD s) (by rw [evn 1 0 _ _ aE];exact ev1 1 _ _) (zA ?_)
  refine pD (hbl 1 aC) (ev1 _ _ _) (zA ?_)
  refine zC hfo (hbl 2 aC) (ev1 _ _ _) (zA ?_)
  refine sC 1 hT (hbl 3 aC) (ev1 _ _ _) Z (by rw [Nat.zero_add];exact hcp) (zA ?_)
  refine yF hpn (hbl 4 aC) (ev1 _ _ _) (zY ?_)
  refine zU (ev1 _ _ _) (fun hb=>?_) (fun hb=>?_)
  · refine iF (zA ?_)
    refine kW (hbl 5 aC) (v:=cD b) (by(repeat rw [evn 0 _ _ _ aC]);exact ev1 0 _ _) (zA ?_)
    refine kW (hbl 6 aC) (v:=cD s) (by(repeat rw [evn 1 _ _ _ aC]);exact ev1 1 _ _) (zA ?_)
    refine pD (hbl 7 aC) (ev1 _ _ _) (zA ?_)
    refine zC hfo (hbl 8 aC) (ev1 _ _ _) (zA ?_)
    refine sC 1 hT (hbl 9 aC) (ev1 _ _ _) Z (by rw [Nat.zero_add];exact hcp) (zA ?_)
    refine pD (p:=⟨b,0,none⟩) (hbl 10 aC) (by(repeat rw [evn (a+5) _ _ _ aC]);exact ev1 _ _ _) (zA ?_)
    refine zC hfo (hbl 11 aC) (ev1 _ _ _) (zA ?_)
    rw [Nat.zero_add]
    refine eh 0 (v:= .pointer p) (ev1 _ _ _) (by(repeat rw [evn (a+9) _ _ _ aC]);exact ev1 _ _ _) Z Z Z hsi aC (zY ?_)
    refine gY (e':=[(0,cD b),(1,cD s)]) (eC aq (eC aq (eN _))) ?_
    refine tC (fun w ok h x hx=>?_) (next (cs.set q (.pointer p)))
    have hf1:CellsP w ok mb cs f:=h (.flds mb cs f) aJ
    have hf2:CellsP w ok mb2 cs2 f2:=h (.flds mb2 cs2 f2) aJ
    simp only [List.mem_cons,List.not_mem_nil,or_false]at hx
    rcases hx with rfl|rfl
    · obtain⟨p',a1,a2,a3⟩:=fX hf2 h1 h2
      rw [hcp]at a1
      injection a1 with a1
      injection a1 with a1
      subst a1
      have e:gQ q f f2=f.put q (f2 q):=by
        funext i
        unfold gQ Flds.put
        by_cases hi:i=q
        · subst hi
          rw [if_pos rfl,if_pos rfl]
          cases hfi:f2 i with
          |none=>rw [hfi]at a2;rw [hb]at a2;cases a2
          |some fv=>rfl
        · rw [if_neg hi,if_neg hi]
      show CellsP w ok mb (cs.set q (.pointer p)) (gQ q f f2)
      rw [e]
      exact mJ hf1 h1 a2 a3
    · exact hf2
  · refine wB ?_
    refine gY (e':=[(0,cD b),(1,cD s)]) (eC aq (eC aq (eN _))) ?_
    have e:gQ q f f2=f:=by
      funext i
      unfold gQ
      by_cases hi:i=q
      · subst hi
        rw [if_pos rfl]
        cases hfi:f2 i with
        |none=>rfl
        |some fv=>rw [hfi,hb]at hps;cases hps
      · rw [if_neg hi]
    have:=next cs
    rw [e]at this
    exact this
end rules
end Go.Jw

namespace Go.Jw
open Go Go.RowKit Go.Proofs
set_option maxRecDepth 8000
abbrev kT:=List (ByteArray×V)
def lk(l:kT)(k:ByteArray):Option V:=(l.find? (fun p=>decide (p.1=k))).map (·.2)
theorem Gs(k:ByteArray):lk [] k=none:=rfl
theorem gx(p:ByteArray×V)(l:kT)(k:ByteArray):lk (p::l) k=if p.1=k then some p.2 else lk l k:=by
 unfold lk
 rw [List.find?_cons]
 by_cases h:p.1=k
 ·simp [h]
 ·simp [h]
theorem CD(l:kT)(f:ByteArray→V→V)(k:ByteArray):lk (l.map fun p=>(p.1,f p.1 p.2)) k=(lk l k).map (f k):=by
  induction l with
  |nil=>rfl
  |cons p l ih=>
    rw [List.map_cons,gx,gx,ih]
    split
    · rename_i h;simp only at h;rw [h];rfl
    · rfl
theorem zb(l:kT)(q:ByteArray→Bool)(k:ByteArray):lk (l.filter fun p=>q p.1) k=if q k=true then lk l k else none:=by
  induction l with
  |nil=>simp [Gs]
  |cons p l ih=>
    rw [List.filter_cons]
    by_cases hq:q p.1=true
    · rw [if_pos hq,gx,gx,ih]
      by_cases h:p.1=k
      · rw [if_pos h,if_pos h,←h,if_pos hq]
      · rw [if_neg h,if_neg h]
    · rw [if_neg hq,ih,gx]
      by_cases h:p.1=k
      · rw [←h,if_neg hq,if_neg hq]
      · rw [if_neg h]
theorem uk(ks:List ByteArray)(ts:List V)(key:ByteArray)(h:ks.length≤ts.length):(if ks.findIdx (fun x=>decide (x=key))<ks.length then ts[ks.findIdx (fun x=>decide (x=key))]? else none)=lk (ks.zip ts) key:=by
  induction ks generalizing ts with
  |nil=>rfl
  |cons k ks ih=>
    cases ts with
    |nil=>simp at h
    |cons t ts=>
      rw [List.zip_cons_cons,gx,List.findIdx_cons]
      by_cases hk:k=key
      · simp [hk]
      · have:=ih ts bm
        simp only [hk,decide_false,cond_false,if_false,List.length_cons,Nat.add_lt_add_iff_right,List.getElem?_cons_succ]
        exact this
theorem lF{v:V}(h:v.keys.length≤v.items.length)(key:ByteArray):getV v key=lk (v.keys.zip v.items) key:=by
 rw [←uk _ _ _ h]
 unfold getV dL
 split
 ·rename_i hlt
  rw [if_neg aC]
  simp
 ·rw [if_pos rfl]
def ox(l:kT):V:= .mk 5 0 ⟨#[]⟩ (l.map (·.1)) (l.map (·.2))
theorem ob(l:kT):(ox l).keys.zip (ox l).items=l:=by
  show(l.map (·.1)).zip (l.map (·.2))=l
  induction l with
  |nil=>rfl
  |cons p l ih=>simp [ih]
theorem CE(l:kT)(key:ByteArray):getV (ox l) key=lk l key:=by
 rw [lF (by simp [ox,V.keys,V.items]),ob]

def Hp(l:kT):Prop:=l.Pairwise (fun a b=>rl a.1<rl b.1)
theorem ul{ks:List ByteArray}(h:dW ks)(ts:List V):Hp (ks.zip ts):=gM (nJ h)
theorem zc{v:V}(hp:Pl v)(hk:v.kind=5)(h: ∀ key x,getV v key=some x→FitLoc (bw key) x∧(∀ z∈kidsOf (bw key) x,IsShape z)∧(key=kId→ ∃u,getV v cz=some u∧dB u.text)):IsShape v:=by
 refine(xX v).2 ⟨hk,fun j k x hj hx=>h k x ((yJ hp hk).1 ?_)⟩
 refine List.mem_of_getElem? (i:=j) ?_
 rw [List.getElem?_zip_eq_some]
 exact⟨hj,hx⟩
theorem vC{v:V}(hs:IsShape v){key:ByteArray}{x:V}(h:getV v key=some x):FitLoc (bw key) x∧(∀ z∈kidsOf (bw key) x,IsShape z)∧(key=kId→ ∃u,getV v cz=some u∧dB u.text):=by
 obtain⟨j,hj1,hj2⟩:=qG h
 exact((xX v).1 hs).2 j _ _ hj1 hj2
theorem All2.map{α β γ:Type}{R:α→β→Prop}{S:α→γ→Prop}{g:β→γ}{l:List α}{l':List β}(h: ∀ a b,a∈l→b∈l'→R a b→S a (g b))(h2:All2 R l l'):All2 S l (l'.map g):=by
  refine⟨by rw [List.length_map];exact h2.1,fun i a b ha hb=>?_⟩
  rw [List.getElem?_map]at hb
  cases hl:l'[i]? with
  |none=>rw [hl]at hb;cases hb
  |some b'=>
    rw [hl]at hb
    injection hb with hb
    rw [←hb]
    exact h a b' (List.mem_of_getElem? ha) (List.mem_of_getElem? hl) (h2.2 i a b' ha hl)
theorem CF(ks:List ByteArray)(ts:List V)(g:V→V):ks.zip (ts.map g)=(ks.zip ts).map (fun p=>(p.1,g p.2)):=by
  induction ks generalizing ts with
  |nil=>rfl
  |cons k ks ih=>cases ts with
    |nil=>rfl
    |cons t ts=>simp [ih]
theorem FvRel.turn{U U':Nat→V→Prop}{g:V→V}(hg: ∀ z,(g z).kind=5){sh:Int}{x:V}{fv:FVal}(hfit:FitLoc sh x)(h: ∀ c z,c∈dT fv→z∈kidsOf sh x→U c z→U' c (g z))(hf:FvRel U sh x fv):FvRel U' sh (cA sh g x) fv:=by
  have all5: ∀ (hi: ∀ y∈x.items,y.kind=5),∀ y∈x.items,cZ g y=g y:=fun hi y hy=>xY (hi y hy)
  cases fv with
  |text s=>obtain⟨rfl,h2⟩:=hf;exact⟨rfl,h2⟩
  |bool s=>obtain⟨rfl,h2⟩:=hf;exact⟨rfl,h2⟩
  |int s=>obtain⟨rfl,h2⟩:=hf;exact⟨rfl,h2⟩
  |numI s=>obtain⟨rfl,h2⟩:=hf;exact⟨rfl,h2⟩
  |numF s=>obtain⟨rfl,h2⟩:=hf;exact⟨rfl,h2⟩
  |sbS b=>
    obtain⟨rfl,h5,hu⟩:=hf
    have e:cA 6 g x=g x:=by simp [cA,h5]
    rw [e]
    exact⟨rfl,hg x,h b x bo bY hu⟩
  |sbB s=>
    obtain⟨rfl,h1,h2⟩:=hf
    have e:cA 6 g x=x:=by simp [cA,h1]
    rw [e]
    exact⟨rfl,h1,h2⟩
  |itS b=>
    obtain⟨rfl,h5,hu⟩:=hf
    have e:cA 7 g x=g x:=by simp [cA,h5]
    rw [e]
    exact⟨rfl,hg x,h b x bo bY hu⟩
  |itL bs=>
    obtain⟨rfl,h4,hu⟩:=hf
    have hi: ∀ y∈x.items,y.kind=5:=by simpa [FitLoc,h4]using hfit
    have e:cA 7 g x=cL g x:=by simp [cA,h4]
    rw [e]
    refine⟨rfl,h4,?_⟩
    show All2 U' bs (x.items.map (cZ g))
    exact hu.map fun a b ha hb hab=>by rw [all5 hi b hb];exact h a b ha (by rw [fS h4 hi];exact hb) hab
  |texts l=>obtain⟨rfl,h2⟩:=hf;exact⟨rfl,h2⟩
  |named l=>
    obtain⟨rfl,ps,hp,hu⟩:=hf
    have hi: ∀ y∈x.items,y.kind=5:=by
      have:x.kind=5∧ ∀ x'∈x.items,x'.kind=5:=by simpa [FitLoc]using hfit
      exact this.2
    have e:cA 9 g x=cL g x:=by simp [cA]
    rw [e]
    refine⟨rfl,ps.map (fun p=>(p.1,cZ g p.2)),?_,?_⟩
    · show(ps.map _).Perm (x.keys.zip (x.items.map (cZ g)))
      rw [CF]
      exact hp.map _
    · exact hu.map fun a b ha hb hab=>by
        have hm:=(List.of_mem_zip (hp.mem_iff.1 hb)).2
        refine⟨hab.1,?_⟩
        show U' a.2 (cZ g b.2)
        rw [all5 hi _ hm]
        exact h a.2 b.2 (List.mem_map.2 ⟨a,ha,rfl⟩) (by rw [iC hi];exact hm) hab.2
  |deps l=>obtain⟨rfl,h2⟩:=hf;exact⟨rfl,h2⟩
  |enums l=>obtain⟨rfl,h2⟩:=hf;exact⟨rfl,h2⟩
  |tyS s=>obtain⟨rfl,h2⟩:=hf;exact⟨rfl,h2⟩
  |tyL l=>obtain⟨rfl,h2⟩:=hf;exact⟨rfl,h2⟩
  |list bs=>
    obtain⟨rfl,hu⟩:=hf
    have hi: ∀ y∈x.items,y.kind=5:=by
      have:x.kind=4∧ ∀ x'∈x.items,x'.kind=5:=by simpa [FitLoc]using hfit
      exact this.2
    have e:cA 13 g x=cL g x:=by simp [cA]
    rw [e]
    refine⟨rfl,?_⟩
    show All2 U' bs (x.items.map (cZ g))
    exact hu.map fun a b ha hb hab=>by rw [all5 hi b hb];exact h a b ha (by rw [gL hi];exact hb) hab
  |one b=>
    obtain⟨rfl,hu⟩:=hf
    exact⟨rfl,h b x bo bn hu⟩
  |any=>exact hf
def kidsV(v:V):List V:=(v.keys.zip v.items).flatMap (fun p=>kidsOf (bw p.1) p.2)
theorem wP{v z:V}(h:z∈kidsV v):SizeOf.sizeOf z<SizeOf.sizeOf v:=by
 obtain⟨p,hp,hz⟩:=List.mem_flatMap.1 h
 exact Nat.lt_of_le_of_lt (uY hz) (yU (List.of_mem_zip hp).2)
noncomputable def cu(p:V→Prop):V→Prop:=V.fix (α:=Prop) (fun v f=>p v∧ ∀ z∈kidsV v,f z)
theorem vN(p:V→Prop)(v:V):cu p v↔p v∧ ∀ z∈kidsV v,cu p z:=by
 have:=V.fix_eq (α:=Prop) (G:=fun v f=>p v∧ ∀ z∈kidsV v,f z) (fun t g g' h=>by
  have:(∀ z∈kidsV t,g z)↔ ∀ z∈kidsV t,g' z:=⟨fun a z hz=>by rw [←h z (wP hz)];exact a z hz,fun a z hz=>by rw [h z (wP hz)];exact a z hz⟩
  simp only [this]) v
 show V.fix _ v↔_
 rw [this]
 rfl
theorem wI{v x z:V}{key:ByteArray}(hp:Pl v)(hk:v.kind=5)(h:getV v key=some x)(hz:z∈kidsOf (bw key) x):z∈kidsV v:=
 List.mem_flatMap.2 ⟨(key,x),(yJ hp hk).2 h,hz⟩
theorem vD{v z:V}(hp:Pl v)(h:z∈kidsV v):Pl z:=by
 obtain⟨p,hpm,hz⟩:=List.mem_flatMap.1 h
 exact ug hp (List.of_mem_zip hpm).2 hz
theorem xO{v z:V}(hp:Pl v)(hs:IsShape v)(h:z∈kidsV v):IsShape z:=by
 obtain⟨p,hpm,hz⟩:=List.mem_flatMap.1 h
 exact(vC hs ((yJ hp hs.kind).1 (show(p.1,p.2)∈_ from hpm))).2.1 z hz

def c7:List Nat:=[14,15,22,23,24,28,29,30,31,32]
inductive Rch (σ:ce):Nat→Nat→Prop where
  |refl (b:Nat):Rch σ b b
  |step {b c d i:Nat} {f:Flds} (h:σ b=some f) (hi:i∈c7) (hc:c∈cH f i) (r:Rch σ c d):Rch σ b d
theorem w2{U:Nat→V→Prop}{i:Nat}{x:V}{fv:FVal}{c:Nat}(h1:1≤i)(h2:i≤36)(h:FvRel U (cU i) x fv)(hc:c∈dT fv):i∈c7:=by
  have key:cU i=5∨cU i=6∨cU i=7∨cU i=9∨cU i=13→i∈c7:=by
    have: ∀ i:Fin 37,cU i.1=5∨cU i.1=6∨cU i.1=7∨cU i.1=9∨cU i.1=13→i.1∈c7:=by decide
    exact this ⟨i,aC⟩
  cases fv with
  |sbS b=>exact key (.inr (.inl h.1))
  |itS b=>exact key (.inr (.inr (.inl h.1)))
  |itL bs=>exact key (.inr (.inr (.inl h.1)))
  |named l=>exact key (.inr (.inr (.inr (.inl h.1))))
  |list bs=>exact key (.inr (.inr (.inr (.inr h.1))))
  |one b=>exact key (.inl h.1)
  |_=>simp [dT]at hc
theorem Gt{key:ByteArray}{i:Nat}(h:cE key=i)(k:ByteArray)(hk:cE k=i)(h0:i≠0):key=k:=tg (h.trans hk.symm) (by rw [h];exact h0)
theorem mK{g:V→V}{x:V}(h: ∀ y∈x.items,y.kind=5){p:V→Prop}(hs: ∀ y∈x.items,p (g y)): ∀ z∈(cL g x).items,p z:=by
 intro z hz
 unfold cL at hz
 simp only [V.items]at hz
 obtain⟨y,hy,rfl⟩:=List.mem_map.1 hz
 rw [xY (h y hy)]
 exact hs y hy
theorem gR{g:V→V}{sh:Int}{x:V}(hf:FitLoc sh x)(h: ∀ y∈kidsOf sh x,IsShape (g y)):FitLoc sh (cA sh g x)∧ ∀ y∈kidsOf sh (cA sh g x),IsShape y:=by
 unfold cA
 split
 ·rename_i h5
  subst h5
  exact fits5.2 (h x bn)
 split
 ·rename_i h6
  subst h6
  split
  ·rename_i hk
   exact fits6.2 (.inr (h x bV))
  ·rename_i hk
   have hf':x.kind=1∨x.kind=5:=by simpa [FitLoc]using hf
   exact fits6.2 (.inl (hf'.resolve_right hk))
 split
 ·rename_i h7
  subst h7
  split
  ·rename_i hk
   exact fits7.2 (.inl (h x bW))
  ·rename_i hk
   have hf':x.kind=5∨(x.kind=4∧ ∀ x'∈x.items,x'.kind=5):=by simpa [FitLoc]using hf
   have h4:=hf'.resolve_left hk
   exact fits7.2 (.inr ⟨h4.1,mK h4.2 fun y hy=>h y bB⟩)
 split
 ·rename_i h9
  rcases h9 with h9|h9
  ·subst h9
   have hf':x.kind=5∧ ∀ x'∈x.items,x'.kind=5:=by simpa [FitLoc]using hf
   exact fits9.2 ⟨hf'.1,mK hf'.2 fun y hy=>h y bK⟩
  ·subst h9
   have hf':x.kind=4∧ ∀ x'∈x.items,x'.kind=5:=by simpa [FitLoc]using hf
   exact fits13.2 ⟨hf'.1,mK hf'.2 fun y hy=>h y bJ⟩
 ·rename_i h5 h6 h7 h9
  refine⟨hf,fun y hy=>?_⟩
  unfold kidsOf at hy
  rw [if_neg h5,if_neg h6,if_neg h7,if_neg h9]at hy
  cases hy
theorem qQ{g:V→V}(hg: ∀ z,(g z).kind=5){sh:Int}{x z:V}(hf:FitLoc sh x)(h:z∈kidsOf sh (cA sh g x)): ∃y∈kidsOf sh x,z=g y:=by
 have all: ∀ (hi: ∀ y∈x.items,y.kind=5),z∈(cL g x).items→ ∃y∈x.items,z=g y:=fun hi hz=>by
  unfold cL at hz
  simp only [V.items]at hz
  obtain⟨y,hy,rfl⟩:=List.mem_map.1 hz
  exact⟨y,hy,by rw [xY (hi y hy)]⟩
 unfold cA at h
 split at h
 ·rename_i h5
  subst h5
  simp [kidsOf]at h
  exact⟨x,by simp [kidsOf],h⟩
 split at h
 ·rename_i h6
  subst h6
  split at h
  ·rename_i hk
   rw [nG (hg x)]at h
   exact⟨x,by rw [nG hk];simp,List.mem_singleton.1 h⟩
  ·rename_i hk
   exact⟨z,h,by simp [kidsOf,hk]at h⟩
 split at h
 ·rename_i h7
  subst h7
  split at h
  ·rename_i hk
   rw [px (hg x)]at h
   exact⟨x,by rw [px hk];simp,List.mem_singleton.1 h⟩
  ·rename_i hk
   have hf':x.kind=5∨(x.kind=4∧ ∀ x'∈x.items,x'.kind=5):=by simpa [FitLoc]using hf
   have h4:=hf'.resolve_left hk
   rw [fS h4.1 h4.2]
   refine all h4.2 ?_
   have hk': ¬ (cL g x).kind=5:=hk
   simp only [kidsOf,hk']at h
   simp at h
   exact h.1
 split at h
 ·rename_i h9
  have hf': ∀ x'∈x.items,x'.kind=5:=by
   rcases h9 with h9|h9
   ·subst h9
    have:x.kind=5∧ ∀ x'∈x.items,x'.kind=5:=by simpa [FitLoc]using hf
    exact this.2
   ·subst h9
    have:x.kind=4∧ ∀ x'∈x.items,x'.kind=5:=by simpa [FitLoc]using hf
    exact this.2
  have e:kidsOf sh x=x.items:=by
   rcases h9 with h9|h9
   ·subst h9;exact iC hf'
   ·subst h9;exact gL hf'
  rw [e]
  refine all hf' ?_
  rcases h9 with h9|h9<;>subst h9<;>simp [kidsOf]at h<;>exact h.1
 ·rename_i h5 h6 h7 h9
  unfold kidsOf at h
  rw [if_neg h5,if_neg h6,if_neg h7,if_neg h9]at h
  cases h
theorem fE{key:ByteArray}{i:Nat}(h:cE key=i)(h0:i≠0):bw key=cU i:=by rw [kF (by rw [h];exact h0),h]
theorem EL{key:ByteArray}(h:cE key≠0):eI key=true:=by
  have hs:bw key=cU (cE key):=kF h
  unfold eI
  rw [hs]
  refine decide_eq_true ?_
  rcases kw_case (key:=key)with ⟨_,hm⟩|h0
  · have: ∀ q∈[35,36,32,31,30,29,28,26,20,19,18,17,16,14,13,12,11,10,9,8,7,6,3,25,23,24,22,21,34,15,27,1,2,33],cU q≠0:=by decide
    exact this _ hm
  · exact absurd h0 h
theorem iP(v:V):IsShape v→Pl v→IsShape (bx v):=by
  refine V.indS (p:=fun v=>IsShape v→Pl v→IsShape (bx v)) (fun v IH hs hp=>?_) v
  refine zc (gw hs hp) (sU v) fun key y hy=>?_
  rw [rI hs hp]at hy
  split at hy
  · cases hx:getV v key with
    |none=>rw [hx]at hy;cases hy
    |some x=>
      rw [hx]at hy
      injection hy with hy
      subst hy
      obtain⟨h1,h2,h3⟩:=vC hs hx
      obtain⟨h4,h5⟩:=gR (g:=bx) h1 (fun z hz=>IH z (wP (wI hp hs.kind hx hz)) (h2 z hz) (vD hp (wI hp hs.kind hx hz)))
      refine⟨h4,h5,fun he=>?_⟩
      obtain⟨u,hu,hf⟩:=h3 he
      refine⟨cA (bw cz) bx u,?_,?_⟩
      · rw [rI hs hp,if_pos aD,hu];rfl
      · rw [fW];exact hf
  · cases hy
theorem um{G:Gr}(v:V): ∀ b,Pl v→IsShape v→Unf G v b→Unf G (bx v) b:=by
  refine V.indS (p:=fun v=> ∀ b,Pl v→IsShape v→Unf G v b→Unf G (bx v) b) (fun v IH b hp hs hu=>?_) v
  obtain⟨f,hat,hU⟩:=(pL G v b).1 hu
  refine(pL G _ b).2 ⟨f,hat,fun i hi hj=>?_⟩
  have:=hU i hi hj
  cases hfi:f i with
  |none=>
    rw [hfi]at this
    intro key hkw
    rw [rI hs hp,this key hkw]
    split<;>rfl
  |some fv=>
    rw [hfi]at this
    obtain⟨key,x,hkw,hx,hrel⟩:=this
    have hsh:=fE hkw aC
    refine⟨key,cA (bw key) bx x,hkw,by rw [rI hs hp,if_pos (EL (by rw [hkw];omega)),hx];rfl,?_⟩
    have hfit:=vC hs hx
    rw [hsh]at hfit⊢
    refine FvRel.turn sU hfit.1 (fun c z hc hz huc=>?_) hrel
    have hzk:z∈kidsV v:=wI hp hs.kind hx (by rw [hsh];exact hz)
    exact IH z (wP hzk) c (vD hp hzk) (xO hp hs hzk) huc
theorem mL{v z:V}(hp:Pl v)(hs:IsShape v)(h:z∈kidsV (bx v)): ∃y∈kidsV v,z=bx y:=by
  obtain⟨p,hpm,hz⟩:=List.mem_flatMap.1 h
  have hg:=(yJ (gw hs hp) (sU v)).1 (show(p.1,p.2)∈_ from hpm)
  rw [rI hs hp]at hg
  split at hg
  · cases hx:getV v p.1 with
    |none=>rw [hx]at hg;cases hg
    |some x=>
      rw [hx]at hg
      injection hg with hg
      rw [←hg]at hz
      obtain⟨y,hy,rfl⟩:=qQ sU (vC hs hx).1 hz
      exact⟨y,wI hp hs.kind hx hy,rfl⟩
  · cases hg
theorem nU{p q:V→Prop}(hpq: ∀ v,Pl v→IsShape v→p v→q (bx v))(v:V):Pl v→IsShape v→cu p v→cu q (bx v):=by
 refine V.indS (p:=fun v=>Pl v→IsShape v→cu p v→cu q (bx v)) (fun v IH hp hs hd=>?_) v
 obtain⟨h1,h2⟩:=(vN _ _).1 hd
 refine(vN _ _).2 ⟨hpq v hp hs h1,fun z hz=>?_⟩
 obtain⟨y,hy,rfl⟩:=mL hp hs hz
 exact IH y (wP hy) (vD hp hy) (xO hp hs hy) (h2 y hy)
theorem zd{p:V→Prop}(h: ∀ v,p v)(v:V):cu p v:=
 V.indS (p:=fun v=>cu p v) (fun v IH=>(vN _ _).2 ⟨h v,fun z hz=>IH z (wP hz)⟩) v
def zx(v:V):Prop:= ∀ k∈v.keys,eI k=true
theorem CG(v:V):zx (bx v):=by
 intro k hk
 rw [sI]at hk
 obtain⟨p,hp,rfl⟩:=List.mem_map.1 hk
 exact(List.mem_filter.1 hp).2
theorem rk{g:V→V}{sh:Int}{x:V}(hp:Pl x)(hf:FitLoc sh x)(h: ∀ y∈kidsOf sh x,g y=y):cA sh g x=x:=by
  have all:(x.kind=4∨x.kind=5)→(∀ y∈x.items,y.kind=5)→(∀ y∈x.items,g y=y)→cL g x=x:=by
    intro hk hi hfix
    have e:x.items.map (cZ g)=x.items:=by
      conv=>rhs;rw [←List.map_id x.items]
      exact List.map_congr_left fun y hy=>by rw [xY (hi y hy),hfix y hy];rfl
    unfold cL
    rw [e]
    obtain⟨d,hd⟩:=hp
    obtain⟨q,m,s,ks,ts⟩:=x
    simp only [V.kind,V.keys,V.items]at hk⊢
    cases d with
    |zero=>exact absurd hd (tI hk)
    |succ d=>
      obtain⟨⟨h1,h2,_⟩,_⟩:=(vB hk).1 hd
      rw [h1,h2]
  unfold cA
  split
  · rename_i h5;subst h5;exact h x bn
  split
  · rename_i h6;subst h6
    split
    · rename_i hk;exact h x bV
    · rfl
  split
  · rename_i h7;subst h7
    split
    · rename_i hk;exact h x bW
    · rename_i hk
      have hf':x.kind=5∨(x.kind=4∧ ∀ x'∈x.items,x'.kind=5):=by simpa [FitLoc]using hf
      have h4:=hf'.resolve_left hk
      exact all (.inl h4.1) h4.2 (fun y hy=>h y bB)
  split
  · rename_i h9
    rcases h9 with h9|h9
    · subst h9
      have hf':x.kind=5∧ ∀ x'∈x.items,x'.kind=5:=by simpa [FitLoc]using hf
      exact all (.inr hf'.1) hf'.2 (fun y hy=>h y bK)
    · subst h9
      have hf':x.kind=4∧ ∀ x'∈x.items,x'.kind=5:=by simpa [FitLoc]using hf
      exact all (.inl hf'.1) hf'.2 (fun y hy=>h y bJ)
  · rfl
theorem mM(w:V):Pl w→IsShape w→cu zx w→bx w=w:=by
 refine V.indS (p:=fun w=>Pl w→IsShape w→cu zx w→bx w=w) (fun w IH hp hs hd=>?_) w
 obtain⟨h1,h2⟩:=(vN _ _).1 hd
 have hm:=rY hp hs.kind
 rw [sI]
 unfold cY
 have e:(w.keys.zip w.items).filter (fun p=>eI p.1)=w.keys.zip w.items:=List.filter_eq_self.2 fun p hpm=>h1 _ (List.of_mem_zip hpm).1
 have e2:(w.keys.zip w.items).map (fun p=>cA (bw p.1) bx p.2)=(w.keys.zip w.items).map (fun p=>p.2):=List.map_congr_left fun p hpm=>by
  have hg:=(yJ hp hs.kind).1 (show(p.1,p.2)∈_ from hpm)
  refine rk (hp.item _ (List.of_mem_zip hpm).2) (vC hs hg).1 fun y hy=>?_
  have hyk:=wI hp hs.kind hg hy
  exact IH y (wP hyk) (vD hp hyk) (xO hp hs hyk) (h2 y hyk)
 rw [e,e2]
 have e3:(w.keys.zip w.items).map (·.1)=w.keys:=List.map_fst_zip (by rw [hm.2.1];exact Nat.le_refl _)
 have e4:(w.keys.zip w.items).map (fun p=>p.2)=w.items:=List.map_snd_zip (by rw [hm.2.1];exact Nat.le_refl _)
 rw [e3,e4]
 exact hm.1.symm
theorem EM{l:kT}(f:ByteArray→V→V)(h:Hp l):Hp (l.map fun p=>(p.1,f p.1 p.2)):=by
 unfold Hp
 rw [List.pairwise_map]
 exact h
noncomputable def fF(σ:ce):V→Nat→Prop:=V.fix (α:=Nat→Prop) (fun v r b=> ∃f,σ b=some f∧ ∀ i,1≤i→i≤36→FldRel (fun b x=>r x b) v i (f i))
theorem wC(σ:ce)(v:V)(b:Nat):fF σ v b↔ ∃f,σ b=some f∧ ∀ i,1≤i→i≤36→FldRel (fun b x=>fF σ x b) v i (f i):=by
 have:=V.fix_eq (α:=Nat→Prop) (G:=fun v r b=> ∃f,σ b=some f∧ ∀ i,1≤i→i≤36→FldRel (fun b x=>r x b) v i (f i)) (fun t g g' h=>by
  funext b
  apply propext
  constructor
  ·rintro ⟨f,h1,h2⟩
   exact⟨f,h1,fun i hi hj=>(h2 i hi hj).mono fun b x hx hu=>by rw [←h x hx];exact hu⟩
  ·rintro ⟨f,h1,h2⟩
   exact⟨f,h1,fun i hi hj=>(h2 i hi hj).mono fun b x hx hu=>by rw [h x hx];exact hu⟩) v
 show V.fix (α:=Nat→Prop) _ v b↔_
 rw [this]
 rfl
theorem rm{G:Gr}{σ:ce}(h:GOk G σ)(v:V): ∀ b,Unf G v b↔fF σ v b:=by
 refine V.indS (p:=fun v=> ∀ b,Unf G v b↔fF σ v b) (fun v IH b=>?_) v
 rw [pL,wC]
 constructor
 ·rintro ⟨f,h1,h2⟩
  exact⟨f,(h.2 b f).1 h1,fun i hi hj=>(h2 i hi hj).mono fun c x hx hu=>(IH x hx c).1 hu⟩
 ·rintro ⟨f,h1,h2⟩
  exact⟨f,(h.2 b f).2 h1,fun i hi hj=>(h2 i hi hj).mono fun c x hx hu=>(IH x hx c).2 hu⟩
theorem FvRel.kid{U:Nat→V→Prop}{sh:Int}{x:V}{fv:FVal}{c:Nat}(hfit:FitLoc sh x)(h:FvRel U sh x fv)(hc:c∈dT fv): ∃z∈kidsOf sh x,U c z:=by
  have get: ∀ (bs:List Nat) (l:List V),All2 U bs l→c∈bs→ ∃z∈l,U c z:=fun bs l h2 hm=>by
    obtain⟨i,hi,rfl⟩:=List.getElem_of_mem hm
    have hi':i<l.length:=by rw [←h2.1];exact hi
    exact⟨l[i],List.getElem_mem hi',h2.2 i _ _ (List.getElem?_eq_getElem hi) (List.getElem?_eq_getElem hi')⟩
  cases fv with
  |sbS b=>obtain⟨rfl,h5,hu⟩:=h;exact⟨x,by simp [kidsOf,h5],by rw [List.mem_singleton.1 hc];exact hu⟩
  |itS b=>obtain⟨rfl,h5,hu⟩:=h;exact⟨x,by simp [kidsOf,h5],by rw [List.mem_singleton.1 hc];exact hu⟩
  |itL bs=>
    obtain⟨rfl,h4,hu⟩:=h
    have hi: ∀ y∈x.items,y.kind=5:=by simpa [FitLoc,h4]using hfit
    rw [fS h4 hi]
    exact get bs _ hu hc
  |named l=>
    obtain⟨rfl,ps,hp,hu⟩:=h
    have hi: ∀ y∈x.items,y.kind=5:=by
      have:x.kind=5∧ ∀ x'∈x.items,x'.kind=5:=by simpa [FitLoc]using hfit
      exact this.2
    rw [iC hi]
    obtain⟨q,hq,rfl⟩:=List.mem_map.1 hc
    obtain⟨i,hi,rfl⟩:=List.getElem_of_mem hq
    have hi':i<ps.length:=by rw [←hu.1];exact hi
    exact⟨ps[i].2,(List.of_mem_zip (hp.mem_iff.1 (List.getElem_mem hi'))).2,(hu.2 i _ _ (List.getElem?_eq_getElem hi) (List.getElem?_eq_getElem hi')).2⟩
  |list bs=>
    obtain⟨rfl,hu⟩:=h
    have hi: ∀ y∈x.items,y.kind=5:=by
      have:x.kind=4∧ ∀ x'∈x.items,x'.kind=5:=by simpa [FitLoc]using hfit
      exact this.2
    rw [gL hi]
    exact get bs _ hu hc
  |one b=>obtain⟨rfl,hu⟩:=h;exact⟨x,by simp [kidsOf],by rw [List.mem_singleton.1 hc];exact hu⟩
  |_=>simp [dT]at hc
def kU(sh:Int):FVal→Prop
  | .text _=>sh=1
  | .bool _=>sh=2
  | .int _=>sh=4
  | .numI _=>sh=3
  | .numF _=>sh=3
  | .sbS _=>sh=6
  | .sbB _=>sh=6
  | .itS _=>sh=7
  | .itL _=>sh=7
  | .texts _=>sh=8
  | .named _=>sh=9
  | .deps _=>sh=10
  | .enums _=>sh=11
  | .tyS _=>sh=12
  | .tyL _=>sh=12
  | .list _=>sh=13
  | .one _=>sh=5
  | .any=>sh=14
theorem FvRel.ok{U:Nat→V→Prop}{sh:Int}{x:V}{fv:FVal}(h:FvRel U sh x fv):kU sh fv:=by
 cases fv<;>first|exact h.1|exact h
def FT(f:Flds):Prop:= ∀ i fv,1≤i→i≤36→f i=some fv→kU (cU i) fv
theorem EN{σ:ce}{v:V}{b:Nat}(h:fF σ v b): ∃f,σ b=some f∧FT f:=by
 obtain⟨f,h1,h2⟩:=(wC σ v b).1 h
 refine⟨f,h1,fun i fv hi hj hf=>?_⟩
 have:=h2 i hi hj
 rw [hf]at this
 obtain⟨key,x,_,_,hr⟩:=this
 exact hr.ok
theorem tW: ∀ i∈c7,1≤i∧i≤36:=by decide
theorem ze{p:Nat→Prop}(n:Nat):p n→ ∃m,p m∧ ∀ k,p k→m≤k:=by
  induction n using Nat.strongRecOn with
  |_ n ih=>
    intro hn
    by_cases h: ∃k,k<n∧p k
    · obtain⟨k,hk,hp⟩:=h
      exact ih k hk hp
    · exact⟨n,hn,fun k hk=>Nat.le_of_not_lt fun hlt=>h ⟨k,hlt,hk⟩⟩
structure Lt(good:V→Prop):Prop where
 pl: ∀ v,good v→Pl v
 shape: ∀ v,good v→IsShape v
 kid: ∀ v,good v→ ∀ z∈kidsV v,good z
theorem All2.mono2{α β:Type}{R R':α→β→Prop}{l:List α}{l':List β}(h: ∀ a b,a∈l→b∈l'→R a b→R' a b)(h2:All2 R l l'):All2 R' l l':=
 ⟨h2.1,fun i a b ha hb=>h a b (List.mem_of_getElem? ha) (List.mem_of_getElem? hb) (h2.2 i a b ha hb)⟩
theorem FvRel.monoK{U U':Nat→V→Prop}{sh:Int}{v:V}{fv:FVal}(h: ∀ c x,c∈dT fv→SizeOf.sizeOf x≤SizeOf.sizeOf v→U c x→U' c x)(hf:FvRel U sh v fv):FvRel U' sh v fv:=by
  have hi: ∀ c x,c∈dT fv→x∈v.items→U c x→U' c x:=fun c x hc hx=>h c x hc (Nat.le_of_lt (yU hx))
  cases fv with
  |sbS b=>exact⟨hf.1,hf.2.1,h b v bo (Nat.le_refl _) hf.2.2⟩
  |itS b=>exact⟨hf.1,hf.2.1,h b v bo (Nat.le_refl _) hf.2.2⟩
  |itL bs=>exact⟨hf.1,hf.2.1,hf.2.2.mono2 hi⟩
  |named l=>
    obtain⟨h1,ps,h2,h3⟩:=hf
    exact⟨h1,ps,h2,h3.mono2 fun q p hq hp hr=>⟨hr.1,hi _ _ (List.mem_map.2 ⟨q,hq,rfl⟩) (List.of_mem_zip (h2.mem_iff.1 hp)).2 hr.2⟩⟩
  |list bs=>exact⟨hf.1,hf.2.mono2 hi⟩
  |one b=>exact⟨hf.1,h b v bo (Nat.le_refl _) hf.2⟩
  |text s=>exact hf
  |bool x=>exact hf
  |int n=>exact hf
  |numI n=>exact hf
  |numF n=>exact hf
  |sbB x=>exact hf
  |texts l=>exact hf
  |deps l=>exact hf
  |enums l=>exact hf
  |tyS s=>exact hf
  |tyL l=>exact hf
  |any=>exact hf
theorem oc{U U':Nat→V→Prop}{v:V}{i:Nat}{f:Flds}(h1:1≤i)(h2:i≤36)(h: ∀ c x,i∈c7→c∈cH f i→SizeOf.sizeOf x<SizeOf.sizeOf v→U c x→U' c x)(hf:FldRel U v i (f i)):FldRel U' v i (f i):=by
  cases hfi:f i with
  |none=>rw [hfi]at hf;exact hf
  |some fv=>
    rw [hfi]at hf
    obtain⟨key,x,a,b,hr⟩:=hf
    exact⟨key,x,a,b,hr.monoK fun c y hc hy hu=>h c y (w2 h1 h2 hr hc) (by unfold cH;rw [hfi];exact hc) (Nat.lt_of_le_of_lt hy (yU (uG b))) hu⟩
theorem Rch.trans{σ:ce}{a b d:Nat}(h:Rch σ a b)(k:Rch σ b d):Rch σ a d:=by
  induction h with
  |refl b=>exact k
  |step h hi hc r ih=>exact .step h hi hc (ih k)

theorem rn(ks:List ByteArray)(ts:List V):List.Sublist ((ks.zip ts).map (·.1)) ks:=by
  induction ks generalizing ts with
  |nil=>exact List.Sublist.refl _
  |cons k ks ih=>cases ts with
    |nil=>exact List.nil_sublist _
    |cons t ts=>exact(ih ts).cons_cons k
theorem map_fst_zip'{ks:List ByteArray}{ts:List V}(h:ks.Nodup):((ks.zip ts).map (·.1)).Nodup:=h.sublist (rn ks ts)
theorem CH{v:V}(hp:Pl v)(hk:v.kind=5):v.keys.Nodup:=qh (rY hp hk).2.2

def cpyL:List Nat:=[1,2,6,7,8,9,10,11,12,13,14,15,16,17,18,19,20,21,22,23,24,25,26,27,28,29,30,31,32,33,34,35,36,3]
def zy(f s:Flds):Flds:=fun i=>if i∈cpyL then(s i).or (f i)else f i
theorem CI: ∀ i:Fin 37,i.1∈cpyL∨i.1=0∨i.1=4∨i.1=5:=by decide
theorem LC(key:ByteArray):cE key≠4∧cE key≠5:=by
 rcases kw_case (key:=key)with ⟨_,hm⟩|h0
 ·constructor<;>intro h<;>rw [h]at hm<;>revert hm<;>decide
 ·rw [h0];decide
theorem JE{U:Nat→V→Prop}{v:V}{i:Nat}{o:Option FVal}(h:FldRel U v i o)(hi:i=4∨i=5):o=none:=by
  cases o with
  |none=>rfl
  |some fv=>
    obtain⟨key,x,hk,_⟩:=h
    have:=LC key
    rcases hi with rfl|rfl
    · exact absurd hk this.1
    · exact absurd hk this.2
theorem M4(b s mb mb2:Nat)(cs cs2:List Value)(f f2:Flds):Ct Tryz.prog 74 #[cD b,cD s] [.blk b cs 124, .blk s cs2 124] [.flds mb cs f, .flds mb2 cs2 f2] (fun u M' D'=>u= .tuple #[]∧ ∃cs',M'=[.blk b cs' 124, .blk s cs2 124]∧D'=[.flds mb cs' (zy f f2)]):=by
 refine Ct.of_run (args:=[cD b,cD s]) Tryz.func74 aF Z Tryz.ntmps74 Z (fun c=>?_)
 refine xJ (xI 4 1 111 aE aE aE aE cy ii dN dz (fun cs41=>?_))
 refine xJ (xI 16 2 111 aE aE aE aE cy pI dN dz (fun cs42=>?_))
 refine xJ (xI 28 6 113 aE aE aE aE ie kZ nH mv (fun cs46=>?_))
 refine xJ (xI 40 7 113 aE aE aE aE ie ke nH mv (fun cs47=>?_))
 refine xJ (xI 52 8 112 aE aE aE aE eM kf iD lS (fun cs48=>?_))
 refine xJ (xI 64 9 113 aE aE aE aE ie kg nH mv (fun cs49=>?_))
 refine xJ (xI 76 10 112 aE aE aE aE eM ij iD lS (fun cs50=>?_))
 refine xJ (xI 88 11 114 aE aE aE aE d2 ik eH eO (fun cs51=>?_))
 refine xJ (xI 100 12 114 aE aE aE aE d2 im eH eO (fun cs52=>?_))
 refine xJ (xI 112 13 111 aE aE aE aE cy io dN dz (fun cs53=>?_))
 refine xJ (xI 124 14 115 aE aE aE aE gB eP lw ve (fun cs54=>?_))
 refine xJ (xI 136 15 116 aE aE aE aE j7 rC BN E4 (fun cs55=>?_))
 refine xJ (xI 148 16 114 aE aE aE aE d2 ip eH eO (fun cs56=>?_))
 refine xJ (xI 160 17 114 aE aE aE aE d2 iq eH eO (fun cs57=>?_))
 refine xJ (xI 172 18 112 aE aE aE aE eM ir iD lS (fun cs58=>?_))
 refine xJ (xI 184 19 114 aE aE aE aE d2 iu eH eO (fun cs59=>?_))
 refine xJ (xI 196 20 114 aE aE aE aE d2 iw eH eO (fun cs60=>?_))
 refine xJ (xI 208 21 117 aE aE aE aE ig ix p7 vf (fun cs61=>?_))
 refine xJ (xI 220 22 115 aE aE aE aE gB qV lw ve (fun cs62=>?_))
 refine xJ (xI 232 23 118 aE aE aE aE di qA jM mw (fun cs63=>?_))
 refine xJ (xI 244 24 118 aE aE aE aE di eQ jM mw (fun cs64=>?_))
 refine xJ (xI 256 25 119 aE aE aE aE o6 eR BO E5 (fun cs65=>?_))
 refine xJ (xI 268 26 120 aE aE aE aE Ab iy FH E6 (fun cs66=>?_))
 refine xJ (xI 280 27 121 aE aE aE aE gC uS p8 E7 (fun cs67=>?_))
 refine xJ (xI 292 28 122 aE aE aE aE dm eS fm mx (fun cs68=>?_))
 refine xJ (xI 304 29 122 aE aE aE aE dm eT fm mx (fun cs69=>?_))
 refine xJ (xI 316 30 122 aE aE aE aE dm qW fm mx (fun cs70=>?_))
 refine xJ (xI 328 31 63 aE aE aE aE da eU fy DJ (fun cs71=>?_))
 refine xJ (xI 340 32 118 aE aE aE aE di qB jM mw (fun cs72=>?_))
 refine xJ (xI 352 33 111 aE aE aE aE cy iz dN dz (fun cs73=>?_))
 refine xJ (xI 364 34 111 aE aE aE aE cy i0 dN dz (fun cs74=>?_))
 refine xJ (xI 376 35 102 aE aE aE aE dE lT qa E2 (fun cs75=>?_))
 refine xJ (xI 388 36 111 aE aE aE aE cy i4 dN dz (fun cs76=>?_))
 refine xI 400 3 111 aE aE aE aE cy pJ dN dz (fun cs43=>?_)
 refine tN Tryz.results74 ⟨rfl,_,rfl,?_⟩ (List.Sublist.refl _) (D':=[.flds mb _ (cpyL.foldl (fun g q=>gQ q g f2) f)]) (fun d hd=>by rw [List.mem_singleton.1 hd];exact List.mem_cons_self)
 rw [CC cpyL aE f f2]
 rfl
def dc(v:V):Prop:=Pl v∧IsShape v
theorem CJ{v:V}(hp:Pl v)(hs:IsShape v):cu zx (bx v):=
 nU (p:=fun _=>True) (q:=zx) (fun v _ _ _=>CG v) v hp hs (zd (fun _=>trivial) v)
section
variable {key k:ByteArray} {own x:V} {l:kT} {i nk:Nat} {xk:List Value} {ts:List V}
end

abbrev dX:ByteArray:=⟨#[79,110,101,79,102]⟩
structure Trv(β:Type) where
 mb:Nat
 X:β→List HA
 D0:List DA
 I:β×ce→Prop
 S:Bool→Nat→Prop
 mu:Nat→Nat
 dn:β×ce→Bool→Nat→Prop
def Trv.Post{β:Type}(t:Trv β)(x:β×ce)(one:Bool)(b:Nat)(same:Nat→Prop):Value→List HA→List DA→Prop:=fun u M' D'=>
 u= .tuple #[]∧ ∃(y:β×ce) (G':Gr),t.I y∧GOk G' y.2∧M'= .many 124 (Gr.blks G')::t.X y.1∧D'=[.graph t.mb G']∧(∀ o d,t.dn x o d→t.dn y o d)∧t.dn y one b∧ ∀ d,same d→y.2 d=x.2 d
structure Trv.Ok{β:Type}(t:Trv β)(P:Program)(fo:FuncId)(cap:Array Value):Prop where
 kid: ∀ x one b,t.I x→t.S one b→ ∃f,x.2 b=some f∧FT f∧ ∀ i∈c7,∀ c∈cH f i,t.S (decide (i=30)) c∧t.mu c<t.mu b
 op: ∀ x b f ctx G,t.I x→t.S (decide (ctx=dX)) b→x.2 b=some f→(∀ i∈c7,∀ c∈cH f i,t.dn x (decide (i=30)) c)→GOk G x.2→
  Ct P fo (#[cD b, .string ctx]++cap) (.many 124 (Gr.blks G)::t.X x.1) (.graph t.mb G::t.D0) (t.Post x (decide (ctx=dX)) b (· ≠b))
theorem iQ{fv:FVal}(h:kU 13 fv): ∃bs,fv= .list bs:=by
 cases fv<;>first|exact⟨_,rfl⟩|exact absurd h bq
section
variable {β:Type} {t:Trv β} {x0 y:β×ce} {b:Nat} {f:Flds} {l:List Nat} {G:Gr}
def AtS(t:Trv β)(x0:β×ce)(b:Nat)(f:Flds)(l:List Nat)(y:β×ce)(G:Gr):Prop:=
 t.I y∧GOk G y.2∧(∀ o d,t.dn x0 o d→t.dn y o d)∧y.2 b=some f∧(∀ i∈l,∀ c∈cH f i,t.dn y (decide (i=30)) c)∧ ∀ d,t.mu b≤t.mu d→y.2 d=x0.2 d
theorem AtS.add{q:Nat}(h:AtS t x0 b f l y G)(hq: ∀ c∈cH f q,t.dn y (decide (q=30)) c):AtS t x0 b f (q::l) y G:=
 ⟨h.1,h.2.1,h.2.2.1,h.2.2.2.1,fun i hi c hc=>(List.mem_cons.1 hi).elim (fun e=>by subst e;exact hq c hc) (fun e=>h.2.2.2.2.1 i e c hc),h.2.2.2.2.2⟩
theorem AtS.none{q:Nat}(h:AtS t x0 b f l y G)(hq:f q=none):AtS t x0 b f (q::l) y G:=h.add (fun c hc=>by unfold cH at hc;rw [hq]at hc;cases hc)
theorem AtS.mem(h:AtS t x0 b f l y G): ∃cs,(b,cs,f)∈G:=(h.2.1.2 b f).2 h.2.2.2.1
theorem AtS.move{c:Nat}{one:Bool}{y':β×ce}{G':Gr}(h:AtS t x0 b f l y G)(hc:t.mu c<t.mu b)(hI:t.I y')(hG:GOk G' y'.2)(hm: ∀ o d,t.dn y o d→t.dn y' o d)(hs: ∀ d,t.mu c<t.mu d→y'.2 d=y.2 d):AtS t x0 b f l y' G':=
 ⟨hI,hG,fun o d hd=>hm o d (h.2.2.1 o d hd),(hs b hc).trans h.2.2.2.1,fun i hi c hc=>hm _ _ (h.2.2.2.2.1 i hi c hc),fun d hd=>(hs d (Nat.lt_of_lt_of_le hc hd)).trans (h.2.2.2.2.2 d hd)⟩
end
def FV{β:Type}(t:Trv β)(fn:Value)(b:Nat):Prop:= ∀ c,t.mu c<t.mu b→ ∀ (y:β×ce) (G:Gr) (ctx:ByteArray),t.S (decide (ctx=dX)) c→t.I y→GOk G y.2→
 Ct Tryz.prog 121 #[cD c,fn, .string ctx] (.many 124 (Gr.blks G)::t.X y.1) (.graph t.mb G::t.D0) (t.Post y (decide (ctx=dX)) c (fun d=>t.mu c<t.mu d))
theorem JF{mu:Nat→Nat}{p:Nat→Prop}(h: ∀ b,(∀ c,mu c<mu b→p c)→p b)(b:Nat):p b:=by
  have: ∀ m b,mu b=m→p b:=fun m=>by
    induction m using Nat.strongRecOn with
    |_ m ih=>exact fun b hb=>h b fun c hc=>ih _ (hb▸hc) c rfl
  exact this _ b Z
theorem CK{fv:FVal}(h:kU 6 fv):(∃c,fv= .sbS c)∨ ∃x,fv= .sbB x:=by
 cases fv<;>first|exact .inl ⟨_,rfl⟩|exact .inr ⟨_,rfl⟩|exact absurd h bq
theorem CL{fv:FVal}(h:kU 7 fv):(∃c,fv= .itS c)∨ ∃bs,fv= .itL bs:=by
 cases fv<;>first|exact .inl ⟨_,rfl⟩|exact .inr ⟨_,rfl⟩|exact absurd h bq
theorem jw{fv:FVal}(h:kU 9 fv): ∃l,fv= .named l:=by
 cases fv<;>first|exact⟨_,rfl⟩|exact absurd h bq
theorem zf{fv:FVal}(h:kU 10 fv): ∃l,fv= .deps l:=by
 cases fv<;>first|exact⟨_,rfl⟩|exact absurd h bq
theorem zg{fv:FVal}(h:kU 5 fv): ∃c,fv= .one c:=by
 cases fv<;>first|exact⟨_,rfl⟩|exact absurd h bq
theorem uH{f:Flds}{q:Nat}{fv:FVal}(h:f q=some fv):cH f q=dT fv:=by unfold cH;rw [h]
def oP(o:Option Nat):Value:= .pointer (o.map fun c=>⟨c,0,none⟩)
def DA.itd(o:Option Addr)(fv:FVal):DA:=⟨fun w ok=> ∀ p,o=some p→ ∃sl bs,fv= .itL bs∧PtsTo w ok p sl∧RowPtrs w ok sl bs,fun h1 h2 h p hp=>by
 obtain⟨sl,bs,a,c,d⟩:=h p hp
 exact⟨sl,bs,a,c.mono h1 h2,d.mono h1 h2⟩⟩
section rules
variable {P:Program} {n:Nat} {F:List Nat} {c:Ctx F} {ops:Array Oper} {d:Nat} {T:TypeId} {l:List Oper} {k:List KI} {Q:Post} {e:cp} {M:List HA} {D:List DA}
theorem xQ(j q:Nat){mb b:Nat}{cs:List Value}{f:Flds}{G:Gr}(hj:D[j]? =some (.graph mb G))(hm:(b,cs,f)∈G)(h1:1≤q)(h2:q≤36)(next: ∀ p:Option Addr,cs[q]? =some (.pointer p)→p.isSome=(f q).isSome→Run P n c k Q e M D):Run P n c k Q e M D:=
 uQ (p:= ∃p:Option Addr,cs[q]? =some (.pointer p)∧p.isSome=(f q).isSome) (fun w ok h=>by
  obtain⟨p,a,a2,_⟩:=fX ((dget h j hj:(DA.graph mb G).p w ok) _ hm) h1 h2
  exact⟨p,a,a2⟩) (fun⟨p,a,a2⟩=>next p a a2)
theorem vM(j q:Nat){mb b:Nat}{cs:List Value}{f:Flds}{G:Gr}{p:Option Addr}{fv:FVal}(hj:D[j]? =some (.graph mb G))(hm:(b,cs,f)∈G)(h1:1≤q)(h2:q≤36)(hc:cs[q]? =some (.pointer p))(hf:f q=some fv)(next:Run P n c k Q e M (.fv (.pointer p) fv::D)):Run P n c k Q e M D:=
 yO (.fv (.pointer p) fv) (fun w ok h=>by
  obtain⟨p',a,_,a3⟩:=fX ((dget h j hj:(DA.graph mb G).p w ok) _ hm) h1 h2
  rw [hc]at a
  injection a with a
  injection a with a
  subst a
  exact a3 fv hf) next
theorem xA{G:Gr}{b:Nat}{cs:List Value}{f:Flds}(hm:(b,cs,f)∈G):(b,cs)∈Gr.blks G:=List.mem_map.2 ⟨_,hm,rfl⟩
theorem CM(j:Nat){u:Value}{fv:FVal}(hj:D[j]? =some (.fv u fv))(hok:kU 6 fv)(next: ∀ (b:Nat) (o:Option Nat) (q:Option Addr),u=cD b→dT fv=o.toList→Run P n c k Q e M (.dblk b [oP o, .pointer q] 185::D)):Run P n c k Q e M D:=by
 rcases CK hok with ⟨z,rfl⟩|⟨z,rfl⟩
 ·exact vE (α:=Nat) (fun b=>u=cD b) (fun b=>[.dblk b [cD z, .pointer none] 185]) (fun w ok h=>by
   obtain⟨b,h1,h3⟩:FvP w ok (.sbS z) u:=dget h j hj
   exact⟨b,h1,d5 h3⟩) (fun b hx=>next b (some z) none hx Z)
 ·exact vE (α:=Nat×Addr) (fun x=>u=cD x.1) (fun x=>[.dblk x.1 [.pointer none, .pointer (some x.2)] 185]) (fun w ok h=>by
   obtain⟨b,p,h1,h3,_⟩:FvP w ok (.sbB z) u:=dget h j hj
   exact⟨(b,p),h1,d5 h3⟩) (fun x hx=>next x.1 none (some x.2) hx Z)
theorem Gu(j:Nat){u:Value}{fv:FVal}(hj:D[j]? =some (.fv u fv))(hok:kU 7 fv)(next: ∀ (b:Nat) (o:Option Nat) (q:Option Addr),u=cD b→(q=none→dT fv=o.toList)→Run P n c k Q e M (.dblk b [oP o, .pointer q] 187:: .itd q fv::D)):Run P n c k Q e M D:=by
 rcases CL hok with ⟨z,rfl⟩|⟨bs,rfl⟩
 ·exact vE (α:=Nat) (fun b=>u=cD b) (fun b=>[.dblk b [cD z, .pointer none] 187, .itd none (.itS z)]) (fun w ok h=>by
   obtain⟨b,h1,h3⟩:FvP w ok (.itS z) u:=dget h j hj
   exact⟨b,h1,eD h3 (d5 (fun p hp=>by cases hp))⟩) (fun b hx=>next b (some z) none hx (fun _=>rfl))
 ·exact vE (α:=Nat×Addr) (fun x=>u=cD x.1) (fun x=>[.dblk x.1 [.pointer none, .pointer (some x.2)] 187, .itd (some x.2) (.itL bs)]) (fun w ok h=>by
   obtain⟨b,p,sl,h1,h3,h4,h5⟩:FvP w ok (.itL bs) u:=dget h j hj
   exact⟨(b,p),h1,eD h3 (d5 (fun p' hp=>by cases hp;exact⟨sl,bs,rfl,h4,h5⟩))⟩) (fun x hx=>next x.1 none (some x.2) hx (fun h=>by cases h))
theorem EO(j:Nat){p:Addr}{fv:FVal}(hj:D[j]? =some (.itd (some p) fv))(next: ∀ sl bs,fv= .itL bs→Run P n c k Q e M (.pts p sl:: .rowp sl bs::D)):Run P n c k Q e M D:=
 vE (α:=Value×List Nat) (fun x=>fv= .itL x.2) (fun x=>[.pts p x.1, .rowp x.1 x.2]) (fun w ok h=>by
  obtain⟨sl,bs,h1,h2,h3⟩:=(dget h j hj:(DA.itd (some p) fv).p w ok) p rfl
  exact⟨(sl,bs),h1,eD h2 (d5 h3)⟩) (fun x hx=>next x.1 x.2 hx)
theorem pA{β:Type}{t:Trv β}{x0 y:β×ce}{b b1:Nat}{f:Flds}{L:List Nat}(q:Nat){G:Gr}{fn:Value}{ctx:ByteArray}{fo:Operand}{ags:Array Operand}{ts:Array TypeId}(hI:AtS t x0 b f L y G)(hone:decide (ctx=dX)=decide (q=30))
  (IH:FV t fn b) (hk:t.S (decide (q=30)) b1∧t.mu b1<t.mu b) (hd:Nat.blt d n=true) (hfo:ev e fo=some (.func (.func 121) #[] #[])) (has:ags.toList.mapM (ev e)=some [cD b1,fn, .string ctx]) (hD: ∀ x∈DA.graph t.mb G::t.D0,x∈D)
  (next: ∀ y' G',AtS t x0 b f L y' G'→t.dn y' (decide (q=30)) b1→(∀ o d,t.dn y o d→t.dn y' o d)→bu Tryz.prog n c ops l k Q ((d, .tuple #[])::e) (.many 124 (Gr.blks G')::t.X y'.1) (.graph t.mb G'::D)):
  b0 Tryz.prog n c ops (some d) (.call {callee:= .value fo,args:=ags,argTypes:=ts}) T l k Q e (.many 124 (Gr.blks G)::t.X y.1) D:=by
 refine rA (M1:= .many 124 (Gr.blks G)::t.X y.1) (M2:=[]) hd hfo has (IH b1 hk.2 y G ctx (by rw [hone];exact hk.1) hI.1 hI.2.1) (List.append_nil _) hD ?_
 rintro v M' D' ⟨rfl,y',G',hy,hG,rfl,rfl,hm,hdn,hs⟩
 rw [List.append_nil]
 rw [hone]at hdn
 exact next y' G' (hI.move (one:=true) hk.2 hy hG hm hs) hdn hm
end rules
theorem fY{β:Type}{t:Trv β}{y y':β×ce}{o:Bool}{bs:List Nat}{i:Nat}{c:Nat}(h: ∀ j c,j<i→bs[j]? =some c→t.dn y o c)(hm: ∀ o d,t.dn y o d→t.dn y' o d)(hc:bs[i]? =some c)(hd:t.dn y' o c): ∀ j c,j<i+1→bs[j]? =some c→t.dn y' o c:=by
 intro j c' hj hc'
 rcases Nat.lt_or_eq_of_le (Nat.le_of_lt_succ hj)with h1|h1
 ·exact hm _ _ (h j c' h1 hc')
 ·subst h1;rw [hc]at hc';injection hc' with hc';rw [←hc'];exact hd
theorem iR{β:Type}{t:Trv β}{y:β×ce}{o:Bool}{bs:List Nat}{i:Nat}(hi:bs.length≤i)(h: ∀ j c,j<i→bs[j]? =some c→t.dn y o c): ∀ c∈bs,t.dn y o c:=by
 intro c hc
 obtain⟨j,hj,rfl⟩:=List.getElem_of_mem hc
 exact h j _ aC (List.getElem?_eq_getElem hj)

section rules
variable {P:Program} {n:Nat} {F:List Nat} {c:Ctx F} {ops:Array Oper} {d:Nat} {T:TypeId} {l:List Oper} {k:List KI} {Q:Post} {e:cp} {M:List HA} {D:List DA}
theorem ro{fo:Operand}{ags:Array Operand}{ts:Array TypeId}{f:FuncId}{cap:Array Value}{vs:List Value}{D1:List DA}{R:Value→List HA→List DA→Prop}(hd:Nat.blt d n=true)(hfo:ev e fo=some (.func (.func f) #[] cap))(has:ags.toList.mapM (ev e)=some vs)
  (hct:Ct P f (vs.toArray++cap) M D1 R) (hD: ∀ d∈D1,d∈D)
  (next: ∀ v M' D',R v M' D'→bu P n c ops l k Q ((d,v)::e) M' (D'++D)):b0 P n c ops (some d) (.call {callee:= .value fo,args:=ags,argTypes:=ts}) T l k Q e M D:=
 rA (M1:=M) (M2:=[]) hd hfo has hct (List.append_nil _) hD (fun v M' D' h=>by rw [List.append_nil];exact next v M' D' h)
end rules
theorem LD{β:Type}(t:Trv β)(fo:FuncId)(cap:Array Value)(hok:t.Ok Tryz.prog fo cap)(b:Nat): ∀ (y:β×ce) (G:Gr) (ctx:ByteArray),t.S (decide (ctx=dX)) b→t.I y→GOk G y.2→
  Ct Tryz.prog 121 #[cD b, .func (.func fo) #[] cap, .string ctx] (.many 124 (Gr.blks G)::t.X y.1) (.graph t.mb G::t.D0) (t.Post y (decide (ctx=dX)) b (fun d=>t.mu b<t.mu d)):=by
 revert b
 refine JF (mu:=t.mu) (fun b IH=>?_)
 intro y G ctx hS hI0 hG0
 replace IH:FV t (.func (.func fo) #[] cap) b:=IH
 refine Ct.of_run (args:=[cD b, .func (.func fo) #[] cap, .string ctx]) Tryz.func121 aF Z Tryz.ntmps121 Z (fun c=>?_)
 obtain⟨f,hf,hft,hkid⟩:=hok.kid y _ b hI0 hS
 obtain⟨x0,hx0⟩: ∃x0,x0=y:=⟨y,rfl⟩
 have hI:AtS t x0 b f [] y G:=⟨hI0,hG0,fun o d h=>hx0▸h,hf,fun i h=>(by cases h),fun d h=>(by rw [hx0])⟩
 obtain⟨cs,hm⟩:=hI.mem
 refine xQ 0 14 Z hm aE aE (fun p14 hc14 hp14=>?_)
 refine rO 8 Z (zC eP Z Z ?_)
 refine zA (yT 0 gB Z Z Z (xA hm) (by rw [Nat.zero_add];exact hc14) ?_)
 refine zA (yF lw Z Z ?_)
 refine oK 1 [33,0,1,2] Z Z (vK [0,1,2] (fun(⟨y,G⟩:(β×ce)×Gr)=>AtS t x0 b f [14] y G) (fun(⟨y,G⟩:(β×ce)×Gr)=>[]) (fun(⟨y,G⟩:(β×ce)×Gr)=> .many 124 (Gr.blks G)::t.X y.1) (fun(⟨y,G⟩:(β×ce)×Gr)=> .graph t.mb G::t.D0) ?_ ?_)
 ·intro K hK
  refine zU Z (fun h33=>?_) (fun h33=>?_)
  ·obtain⟨fv,hfv⟩: ∃fv,f 14=some fv:=Option.isSome_iff_exists.1 (hp14.symm.trans h33)
   have hok:=hft 14 fv aE aE hfv
   refine vM 0 14 Z hm aE aE hc14 hfv ?_
   have hks:=uH hfv
   refine CM 0 Z hok (fun bb o q hu hfk=>?_)
   cases hu
   rw [hfk]at hks
   refine rO 7 Z (zC eP Z Z ?_)
   refine zA (yT 0 gB Z Z Z (xA hm) (by rw [Nat.zero_add];exact hc14) ?_)
   refine oO 3 Z (zC gf Z Z ?_)
   refine zA (zH 0 da Z Z Z Z ?_)
   refine oO 8 Z (yF fy Z Z ?_)
   refine oK 1 [42,6,0,1,2] Z Z (zU Z (fun h42=>?_) (fun h42=>?_))
   ·obtain⟨bb,rfl⟩: ∃bb,o=some bb:=by
     cases o with
     |none=>cases h42
     |some z=>exact⟨z,rfl⟩
    refine rO 6 Z ?_
    refine pA 14 hI aD IH (hkid 14 aE _ (by rw [hks];simp)) Z Z Z aQ (fun y45 G45 hI45 hd45 hm45=>?_)
    refine zY ?_
    exact kQ (hK (_,_) (hI45.add (fun c hc=>by rw [hks]at hc;rcases List.mem_singleton.1 hc with rfl;exact hd45))) (eC Z (eC Z (eC Z (eN _))))
   obtain rfl:o=none:=by
    cases o with
    |none=>rfl
    |some z=>cases h42
   refine wB ?_
   exact kQ (hK (_,_) (hI.add (fun c hc=>by rw [hks]at hc;cases hc))) (eC Z (eC Z (eC Z (eN _))))
  have hf14:f 14=none:=tU hp14 h33
  refine wB ?_
  exact kQ (hK (_,_) (hI.none hf14)) (eC Z (eC Z (eC Z (eN _))))
 intro ⟨y,G⟩ hI
 replace hI:AtS t x0 b f [14] y G:=hI
 change Run _ _ _ _ _ [(0,_),(1,_),(2,_)] (.many 124 (Gr.blks G)::t.X y.1) (.graph t.mb G::t.D0)
 obtain⟨cs,hm⟩:=hI.mem
 refine xQ 0 15 Z hm aE aE (fun p15 hc15 hp15=>?_)
 refine rO 8 Z (zC rC Z Z ?_)
 refine zA (yT 0 j7 Z Z Z (xA hm) bE ?_)
 refine zA (yF BN Z Z ?_)
 refine oK 1 [50,0,1,2] Z Z (vK [0,1,2] (fun(⟨y,G⟩:(β×ce)×Gr)=>AtS t x0 b f [15,14] y G) (fun(⟨y,G⟩:(β×ce)×Gr)=>[]) (fun(⟨y,G⟩:(β×ce)×Gr)=> .many 124 (Gr.blks G)::t.X y.1) (fun(⟨y,G⟩:(β×ce)×Gr)=> .graph t.mb G::t.D0) ?_ ?_)
 ·intro Kj2 hKj2
  refine zU Z (fun h50=>?_) (fun h50=>?_)
  ·obtain⟨fv,hfv⟩: ∃fv,f 15=some fv:=Option.isSome_iff_exists.1 (hp15.symm.trans h50)
   have hok:=hft 15 fv aE aE hfv
   refine vM 0 15 Z hm aE aE hc15 hfv ?_
   have hks:=uH hfv
   refine Gu 0 Z hok (fun bb o q hu hfk=>?_)
   cases hu
   refine rO 7 Z (zC rC Z Z ?_)
   refine zA (yT 0 j7 Z Z Z (xA hm) bE ?_)
   refine oO 3 Z (zC kh Z Z ?_)
   refine zA (zH 0 dm Z Z Z Z ?_)
   refine zA (yF fm Z Z ?_)
   refine zY (zU Z (fun h58=>?_) (fun h58=>?_))
   ·obtain⟨pl,rfl⟩: ∃pl,q=some pl:=Option.isSome_iff_exists.1 h58
    refine EO 1 Z (fun sl bs hx=>?_)
    subst hx
    refine vS 1 Z (fun A1 c1 hx hk1 hk2=>?_)
    subst hx
    unfold maxLen at hk2
    change cH f 15=bs at hks
    refine rO 7 Z (zC rC Z Z ?_)
    refine zA (yT 0 j7 Z Z Z (xA hm) bE ?_)
    refine oO 3 Z (zC kh Z Z ?_)
    refine zA (zH 2 dm Z Z Z Z ?_)
    refine oO 3 Z (yM 0 kA Z Z Z ?_)
    refine zA (zX d3 Z Z ?_)
    refine oK 3 [69,68,67,0,1,2] Z Z (rK 1 [69,68,67,0,1,2] Z Z ?_)
    refine sY (D':= .graph t.mb G:: .rowp (.slice A1 bs.length c1) bs::t.D0) aZ (yR 1 (fun(⟨i,y,G⟩:Nat×(β×ce)×Gr)=>i≤bs.length∧AtS t x0 b f [14] y G∧ ∀ j c,j<i→bs[j]? =some c→t.dn y (decide (15=30)) c) (fun(⟨i,y,G⟩:Nat×(β×ce)×Gr)=>[(69, .int .i64 ((i:Nat):Int))]) (fun(⟨i,y,G⟩:Nat×(β×ce)×Gr)=> .many 124 (Gr.blks G)::t.X y.1) (fun(⟨i,y,G⟩:Nat×(β×ce)×Gr)=> .graph t.mb G:: .rowp (.slice A1 bs.length c1) bs::t.D0) (fun(⟨i,y,G⟩:Nat×(β×ce)×Gr)=>bs.length - i) (0,y,G) (⟨Nat.zero_le _,hI,fun j c h=>absurd h (Nat.not_lt_zero _)⟩) (eC Z (eN _)) Z Z ?_ (eC Z (eC Z (eC Z (eC Z (eC Z (eN _)))))))
    intro ⟨i,y,G⟩ hI K hK
    change Run _ _ _ _ _ [(69,_),(68,_),(67,_),(0,_),(1,_),(2,_)] (.many 124 (Gr.blks G)::t.X y.1) (.graph t.mb G:: .rowp (.slice A1 bs.length c1) bs::t.D0)
    obtain⟨hi,hI,hno⟩:=hI
    refine rO 3 Z (yK Z Z Z ?_)
    refine oR 2 Z (zK Z (fun h70=>?_) (fun h70=>?_))
    ·refine rO 6 Z ?_
     have hlt:i<bs.length:=h70
     refine wO 1 d3 Z Z Z Z hlt (zA ?_)
     refine yE da Z Z (fun _ h=>vJ h (j:=1) Z (List.getElem?_eq_getElem hlt)) ?_
     refine oO 9 Z ?_
     refine pA 15 hI aD IH (hkid 15 aE _ a9) Z Z Z aQ (fun y75 G75 hI75 hd75 hm75=>?_)
     refine oO 4 Z (yD Z Z aC ?_)
     refine oR 3 Z ?_
     exact kQ (hK (i+1,_,_) (⟨by show i+1≤_;omega,hI75,fY hno hm75 (List.getElem?_eq_getElem hlt) hd75⟩) av) (eC Z (eC Z (eC Z (eC Z (eC Z (eC Z (eN _))))))) (hD:=(cR 0 Z sQ))
    have hall:=iR aC hno
    refine tB Z ?_
    exact kQ (hKj2 (_,_) (hI.add (fun c hc=>by rw [hks]at hc;exact hall c hc))) (eC Z (eC Z (eC Z (eN _))))
   obtain rfl:q=none:=Option.not_isSome_iff_eq_none.1 (by rw [h58];exact Bool.false_ne_true)
   rw [hfk rfl]at hks
   refine rO 7 Z (zC rC Z Z ?_)
   refine zA (yT 0 j7 Z Z Z (xA hm) bE ?_)
   refine oO 3 Z (zC i6 Z Z ?_)
   refine zA (zH 0 da Z Z Z Z ?_)
   refine zA (yF fy Z Z ?_)
   refine oK 1 [84,0,1,2] Z Z (zU Z (fun h84=>?_) (fun h84=>?_))
   ·obtain⟨bb,rfl⟩: ∃bb,o=some bb:=by
     cases o with
     |none=>cases h84
     |some z=>exact⟨z,rfl⟩
    refine rO 6 Z (zC rC Z Z ?_)
    refine zA (yT 0 j7 Z Z Z (xA hm) bE ?_)
    refine oO 3 Z (zC i6 Z Z ?_)
    refine zA (zH 0 da Z Z Z Z ?_)
    refine oO 3 Z ?_
    refine pA 15 hI aD IH (hkid 15 aE _ (by rw [hks];simp)) Z Z Z aQ (fun y93 G93 hI93 hd93 hm93=>?_)
    refine oK 1 [0,1,2] Z Z ?_
    exact kQ (hKj2 (_,_) (hI93.add (fun c hc=>by rw [hks]at hc;rcases List.mem_singleton.1 hc with rfl;exact hd93))) (eC Z (eC Z (eC Z (eN _))))
   obtain rfl:o=none:=by
    cases o with
    |none=>rfl
    |some z=>cases h84
   refine wB ?_
   exact kQ (hKj2 (_,_) (hI.add (fun c hc=>by rw [hks]at hc;cases hc))) (eC Z (eC Z (eC Z (eN _))))
  have hf15:f 15=none:=tU hp15 h50
  refine wB ?_
  exact kQ (hKj2 (_,_) (hI.none hf15)) (eC Z (eC Z (eC Z (eN _))))
 intro ⟨y,G⟩ hI
 replace hI:AtS t x0 b f [15,14] y G:=hI
 change Run _ _ _ _ _ [(0,_),(1,_),(2,_)] (.many 124 (Gr.blks G)::t.X y.1) (.graph t.mb G::t.D0)
 obtain⟨cs,hm⟩:=hI.mem
 refine xQ 0 22 Z hm aE aE (fun p22 hc22 hp22=>?_)
 refine rO 8 Z (zC qV Z Z ?_)
 refine zA (yT 0 gB Z Z Z (xA hm) (by rw [Nat.zero_add];exact hc22) ?_)
 refine zA (yF lw Z Z ?_)
 refine oK 1 [98,0,1,2] Z Z (vK [0,1,2] (fun(⟨y,G⟩:(β×ce)×Gr)=>AtS t x0 b f [22,15,14] y G) (fun(⟨y,G⟩:(β×ce)×Gr)=>[]) (fun(⟨y,G⟩:(β×ce)×Gr)=> .many 124 (Gr.blks G)::t.X y.1) (fun(⟨y,G⟩:(β×ce)×Gr)=> .graph t.mb G::t.D0) ?_ ?_)
 ·intro Kj3 hKj3
  refine zU Z (fun h98=>?_) (fun h98=>?_)
  ·obtain⟨fv,hfv⟩: ∃fv,f 22=some fv:=Option.isSome_iff_exists.1 (hp22.symm.trans h98)
   have hok:=hft 22 fv aE aE hfv
   refine vM 0 22 Z hm aE aE hc22 hfv ?_
   have hks:=uH hfv
   refine CM 0 Z hok (fun bb o q hu hfk=>?_)
   cases hu
   rw [hfk]at hks
   refine rO 7 Z (zC qV Z Z ?_)
   refine zA (yT 0 gB Z Z Z (xA hm) (by rw [Nat.zero_add];exact hc22) ?_)
   refine oO 3 Z (zC gf Z Z ?_)
   refine zA (zH 0 da Z Z Z Z ?_)
   refine oO 8 Z (yF fy Z Z ?_)
   refine oK 1 [107,9,0,1,2] Z Z (zU Z (fun h107=>?_) (fun h107=>?_))
   ·obtain⟨bb,rfl⟩: ∃bb,o=some bb:=by
     cases o with
     |none=>cases h107
     |some z=>exact⟨z,rfl⟩
    refine rO 6 Z ?_
    refine pA 22 hI aD IH (hkid 22 aE _ (by rw [hks];simp)) Z Z Z aQ (fun y110 G110 hI110 hd110 hm110=>?_)
    refine zY ?_
    exact kQ (hKj3 (_,_) (hI110.add (fun c hc=>by rw [hks]at hc;rcases List.mem_singleton.1 hc with rfl;exact hd110))) (eC Z (eC Z (eC Z (eN _))))
   obtain rfl:o=none:=by
    cases o with
    |none=>rfl
    |some z=>cases h107
   refine wB ?_
   exact kQ (hKj3 (_,_) (hI.add (fun c hc=>by rw [hks]at hc;cases hc))) (eC Z (eC Z (eC Z (eN _))))
  have hf22:f 22=none:=tU hp22 h98
  refine wB ?_
  exact kQ (hKj3 (_,_) (hI.none hf22)) (eC Z (eC Z (eC Z (eN _))))
 intro ⟨y,G⟩ hI
 replace hI:AtS t x0 b f [22,15,14] y G:=hI
 change Run _ _ _ _ _ [(0,_),(1,_),(2,_)] (.many 124 (Gr.blks G)::t.X y.1) (.graph t.mb G::t.D0)
 obtain⟨cs,hm⟩:=hI.mem
 refine xQ 0 23 Z hm aE aE (fun p23 hc23 hp23=>?_)
 refine rO 8 Z (zC qA Z Z ?_)
 refine zA (yT 0 di Z Z Z (xA hm) (by rw [Nat.zero_add];exact hc23) ?_)
 refine zA (yF jM Z Z ?_)
 refine oK 1 [115,0,1,2] Z Z (vK [0,1,2] (fun(⟨y,G⟩:(β×ce)×Gr)=>AtS t x0 b f [23,22,15,14] y G) (fun(⟨y,G⟩:(β×ce)×Gr)=>[]) (fun(⟨y,G⟩:(β×ce)×Gr)=> .many 124 (Gr.blks G)::t.X y.1) (fun(⟨y,G⟩:(β×ce)×Gr)=> .graph t.mb G::t.D0) ?_ ?_)
 ·intro Kj4 hKj4
  refine zU Z (fun h115=>?_) (fun h115=>?_)
  ·obtain⟨fv,hfv⟩: ∃fv,f 23=some fv:=Option.isSome_iff_exists.1 (hp23.symm.trans h115)
   have hok:=hft 23 fv aE aE hfv
   refine vM 0 23 Z hm aE aE hc23 hfv ?_
   have hks:=uH hfv
   obtain⟨l,rfl⟩:=jw hok
   refine sT 0 Z (fun pl sl nbs hu=>?_)
   cases hu
   refine vS 1 Z (fun A1 c1 hx hk1 hk2=>?_)
   subst hx
   refine tL 2 Z (fun hnl=>?_)
   unfold maxLen at hk2
   change cH f 23=l.map (·.2)at hks
   refine rO 7 Z (zC qA Z Z ?_)
   refine zA (yT 0 di Z Z Z (xA hm) (by rw [Nat.zero_add];exact hc23) ?_)
   refine oO 3 Z (yM 0 ib Z Z Z ?_)
   refine zA (zX dh Z Z ?_)
   refine oK 4 [123,122,121,0,1,2] Z Z (sY (D':= .graph t.mb G:: .rowp (.slice A1 nbs.length c1) nbs:: .nam nbs l::t.D0) aX ?_)
   refine yR 1 (fun(⟨i,y,G⟩:Nat×(β×ce)×Gr)=>i≤nbs.length∧AtS t x0 b f [22,15,14] y G∧ ∀ j c,j<i→(l.map (·.2))[j]? =some c→t.dn y (decide (23=30)) c) (fun(⟨i,y,G⟩:Nat×(β×ce)×Gr)=>[(123, .int .i64 ((i:Nat):Int))]) (fun(⟨i,y,G⟩:Nat×(β×ce)×Gr)=> .many 124 (Gr.blks G)::t.X y.1) (fun(⟨i,y,G⟩:Nat×(β×ce)×Gr)=> .graph t.mb G:: .rowp (.slice A1 nbs.length c1) nbs:: .nam nbs l::t.D0) (fun(⟨i,y,G⟩:Nat×(β×ce)×Gr)=>nbs.length - i) (0,y,G) (⟨Nat.zero_le _,hI,fun j c h=>absurd h (Nat.not_lt_zero _)⟩) (eC Z (eN _)) Z Z ?_ (eC Z (eC Z (eC Z (eC Z (eC Z (eN _))))))
   intro ⟨i,y,G⟩ hI K hK1
   change Run _ _ _ _ _ [(123,_),(122,_),(121,_),(0,_),(1,_),(2,_)] (.many 124 (Gr.blks G)::t.X y.1) (.graph t.mb G:: .rowp (.slice A1 nbs.length c1) nbs:: .nam nbs l::t.D0)
   obtain⟨hi,hI,hno⟩:=hI
   refine rO 3 Z (yK Z Z Z ?_)
   refine oR 2 Z (zK Z (fun h124=>?_) (fun h124=>?_))
   ·refine rO 6 Z ?_
    have hlt:i<nbs.length:=h124
    have hll:i<l.length:=by omega
    refine wO 1 dh Z Z Z Z hlt (pN 2 i Z (List.getElem?_eq_getElem hll) (List.getElem?_eq_getElem hlt) (fun hksz=>?_))
    refine zA (yE j9 Z Z (fun _ h=>vJ h (j:=2) Z (List.getElem?_eq_getElem hlt)) ?_)
    refine oO 10 Z (zC pK Z Z ?_)
    refine zA (zH 0 da Z Z Z Z ?_)
    refine oK 3 [12,123,122,121,0,1,2] Z Z (rO 6 Z ?_)
    refine pA 23 hI aD IH (hkid 23 aE _ am) Z Z Z aQ (fun y133 G133 hI133 hd133 hm133=>?_)
    refine oO 4 Z (yD Z Z aC ?_)
    refine oR 3 Z ?_
    exact kQ (hK1 (i+1,_,_) (⟨by show i+1≤_;omega,hI133,fY hno hm133 (by rw [List.getElem?_map,List.getElem?_eq_getElem hll];rfl) hd133⟩) ar) (eC Z (eC Z (eC Z (eC Z (eC Z (eC Z (eN _))))))) (hD:=(cR 0 Z sQ))
   have hall:=iR (bs:=l.map (·.2)) bI hno
   refine tB Z ?_
   exact kQ (hKj4 (_,_) (hI.add (fun c hc=>by rw [hks]at hc;exact hall c hc))) (eC Z (eC Z (eC Z (eN _))))
  have hf23:f 23=none:=tU hp23 h115
  refine wB ?_
  exact kQ (hKj4 (_,_) (hI.none hf23)) (eC Z (eC Z (eC Z (eN _))))
 intro ⟨y,G⟩ hI
 replace hI:AtS t x0 b f [23,22,15,14] y G:=hI
 change Run _ _ _ _ _ [(0,_),(1,_),(2,_)] (.many 124 (Gr.blks G)::t.X y.1) (.graph t.mb G::t.D0)
 obtain⟨cs,hm⟩:=hI.mem
 refine xQ 0 24 Z hm aE aE (fun p24 hc24 hp24=>?_)
 refine rO 8 Z (zC eQ Z Z ?_)
 refine zA (yT 0 di Z Z Z (xA hm) (by rw [Nat.zero_add];exact hc24) ?_)
 refine zA (yF jM Z Z ?_)
 refine oK 1 [139,0,1,2] Z Z (vK [0,1,2] (fun(⟨y,G⟩:(β×ce)×Gr)=>AtS t x0 b f [24,23,22,15,14] y G) (fun(⟨y,G⟩:(β×ce)×Gr)=>[]) (fun(⟨y,G⟩:(β×ce)×Gr)=> .many 124 (Gr.blks G)::t.X y.1) (fun(⟨y,G⟩:(β×ce)×Gr)=> .graph t.mb G::t.D0) ?_ ?_)
 ·intro Kj5 hKj5
  refine zU Z (fun h139=>?_) (fun h139=>?_)
  ·obtain⟨fv,hfv⟩: ∃fv,f 24=some fv:=Option.isSome_iff_exists.1 (hp24.symm.trans h139)
   have hok:=hft 24 fv aE aE hfv
   refine vM 0 24 Z hm aE aE hc24 hfv ?_
   have hks:=uH hfv
   obtain⟨l,rfl⟩:=jw hok
   refine sT 0 Z (fun pl sl nbs hu=>?_)
   cases hu
   refine vS 1 Z (fun A1 c1 hx hk1 hk2=>?_)
   subst hx
   refine tL 2 Z (fun hnl=>?_)
   unfold maxLen at hk2
   change cH f 24=l.map (·.2)at hks
   refine rO 7 Z (zC eQ Z Z ?_)
   refine zA (yT 0 di Z Z Z (xA hm) (by rw [Nat.zero_add];exact hc24) ?_)
   refine oO 3 Z (yM 0 ib Z Z Z ?_)
   refine zA (zX dh Z Z ?_)
   refine oK 4 [147,146,145,0,1,2] Z Z (sY (D':= .graph t.mb G:: .rowp (.slice A1 nbs.length c1) nbs:: .nam nbs l::t.D0) aX ?_)
   refine yR 1 (fun(⟨i,y,G⟩:Nat×(β×ce)×Gr)=>i≤nbs.length∧AtS t x0 b f [23,22,15,14] y G∧ ∀ j c,j<i→(l.map (·.2))[j]? =some c→t.dn y (decide (24=30)) c) (fun(⟨i,y,G⟩:Nat×(β×ce)×Gr)=>[(147, .int .i64 ((i:Nat):Int))]) (fun(⟨i,y,G⟩:Nat×(β×ce)×Gr)=> .many 124 (Gr.blks G)::t.X y.1) (fun(⟨i,y,G⟩:Nat×(β×ce)×Gr)=> .graph t.mb G:: .rowp (.slice A1 nbs.length c1) nbs:: .nam nbs l::t.D0) (fun(⟨i,y,G⟩:Nat×(β×ce)×Gr)=>nbs.length - i) (0,y,G) (⟨Nat.zero_le _,hI,fun j c h=>absurd h (Nat.not_lt_zero _)⟩) (eC Z (eN _)) Z Z ?_ (eC Z (eC Z (eC Z (eC Z (eC Z (eN _))))))
   intro ⟨i,y,G⟩ hI K hK2
   change Run _ _ _ _ _ [(147,_),(146,_),(145,_),(0,_),(1,_),(2,_)] (.many 124 (Gr.blks G)::t.X y.1) (.graph t.mb G:: .rowp (.slice A1 nbs.length c1) nbs:: .nam nbs l::t.D0)
   obtain⟨hi,hI,hno⟩:=hI
   refine rO 3 Z (yK Z Z Z ?_)
   refine oR 2 Z (zK Z (fun h148=>?_) (fun h148=>?_))
   ·refine rO 6 Z ?_
    have hlt:i<nbs.length:=h148
    have hll:i<l.length:=by omega
    refine wO 1 dh Z Z Z Z hlt (pN 2 i Z (List.getElem?_eq_getElem hll) (List.getElem?_eq_getElem hlt) (fun hksz=>?_))
    refine zA (yE j9 Z Z (fun _ h=>vJ h (j:=2) Z (List.getElem?_eq_getElem hlt)) ?_)
    refine oO 10 Z (zC pK Z Z ?_)
    refine zA (zH 0 da Z Z Z Z ?_)
    refine oK 3 [15,147,146,145,0,1,2] Z Z (rO 6 Z ?_)
    refine pA 24 hI aD IH (hkid 24 aE _ am) Z Z Z aQ (fun y157 G157 hI157 hd157 hm157=>?_)
    refine oO 4 Z (yD Z Z aC ?_)
    refine oR 3 Z ?_
    exact kQ (hK2 (i+1,_,_) (⟨by show i+1≤_;omega,hI157,fY hno hm157 (by rw [List.getElem?_map,List.getElem?_eq_getElem hll];rfl) hd157⟩) ar) (eC Z (eC Z (eC Z (eC Z (eC Z (eC Z (eN _))))))) (hD:=(cR 0 Z sQ))
   have hall:=iR (bs:=l.map (·.2)) bI hno
   refine tB Z ?_
   exact kQ (hKj5 (_,_) (hI.add (fun c hc=>by rw [hks]at hc;exact hall c hc))) (eC Z (eC Z (eC Z (eN _))))
  have hf24:f 24=none:=tU hp24 h139
  refine wB ?_
  exact kQ (hKj5 (_,_) (hI.none hf24)) (eC Z (eC Z (eC Z (eN _))))
 intro ⟨y,G⟩ hI
 replace hI:AtS t x0 b f [24,23,22,15,14] y G:=hI
 change Run _ _ _ _ _ [(0,_),(1,_),(2,_)] (.many 124 (Gr.blks G)::t.X y.1) (.graph t.mb G::t.D0)
 obtain⟨cs,hm⟩:=hI.mem
 refine xQ 0 25 Z hm aE aE (fun p25 hc25 hp25=>?_)
 refine rO 8 Z (zC eR Z Z ?_)
 refine zA (yT 0 o6 Z Z Z (xA hm) (by rw [Nat.zero_add];exact hc25) ?_)
 refine zA (yF BO Z Z ?_)
 refine oK 1 [163,0,1,2] Z Z (vK [0,1,2] (fun(⟨y,G⟩:(β×ce)×Gr)=>AtS t x0 b f [25,24,23,22,15,14] y G) (fun(⟨y,G⟩:(β×ce)×Gr)=>[]) (fun(⟨y,G⟩:(β×ce)×Gr)=> .many 124 (Gr.blks G)::t.X y.1) (fun(⟨y,G⟩:(β×ce)×Gr)=> .graph t.mb G::t.D0) ?_ ?_)
 ·intro Kj6 hKj6
  refine zU Z (fun h163=>?_) (fun h163=>?_)
  ·obtain⟨fv,hfv⟩: ∃fv,f 25=some fv:=Option.isSome_iff_exists.1 (hp25.symm.trans h163)
   have hok:=hft 25 fv aE aE hfv
   refine vM 0 25 Z hm aE aE hc25 hfv ?_
   have hks:=uH hfv
   obtain⟨l,rfl⟩:=zf hok
   refine qc 0 Z (fun pl sl nbs hu=>?_)
   cases hu
   refine vS 1 Z (fun A1 c1 hx hk1 hk2=>?_)
   subst hx
   refine lx 2 Z (fun hnl=>?_)
   unfold maxLen at hk2
   refine rO 7 Z (zC eR Z Z ?_)
   refine zA (yT 0 o6 Z Z Z (xA hm) (by rw [Nat.zero_add];exact hc25) ?_)
   refine oO 3 Z (yM 0 Af Z Z Z ?_)
   refine zA (zX lU Z Z ?_)
   refine oK 4 [171,170,169,0,1,2] Z Z (sY (D':= .graph t.mb G:: .rowp (.slice A1 nbs.length c1) nbs:: .dep nbs l::t.D0) aX ?_)
   have hI0:=hI
   refine yR 1 (fun(i:Nat)=>i≤nbs.length) (fun(i:Nat)=>[(171, .int .i64 ((i:Nat):Int))]) (fun(i:Nat)=> .many 124 (Gr.blks G)::t.X y.1) (fun(i:Nat)=> .graph t.mb G:: .rowp (.slice A1 nbs.length c1) nbs:: .dep nbs l::t.D0) (fun(i:Nat)=>nbs.length - i) 0 (Nat.zero_le _) (eC Z (eN _)) Z Z ?_ (eC Z (eC Z (eC Z (eC Z (eC Z (eN _))))))
   intro i hI K hK3
   change Run _ _ _ _ _ [(171,_),(170,_),(169,_),(0,_),(1,_),(2,_)] _ _
   have hi:i≤nbs.length:=hI
   replace hI:=hI0
   refine rO 3 Z (yK Z Z Z ?_)
   refine oR 2 Z (zK Z (fun h172=>?_) (fun h172=>?_))
   ·refine rO 6 Z ?_
    have hlt:i<nbs.length:=h172
    have hll:i<l.length:=by omega
    refine wO 1 lU Z Z Z Z hlt (wa 2 i Z (List.getElem?_eq_getElem hll) (List.getElem?_eq_getElem hlt) (fun tb p2 sl2 hksz=>?_))
    refine zA (yE FJ Z Z (fun _ h=>vJ h (j:=5) Z (List.getElem?_eq_getElem hlt)) ?_)
    refine oO 10 Z (zC vh Z Z ?_)
    refine zA (zH 0 E8 Z Z Z Z ?_)
    refine oK 3 [18,171,170,169,0,1,2] Z Z (rO 7 Z ?_)
    refine zC vk Z Z (zA ?_)
    refine zH 1 da Z Z Z Z (oO 8 Z ?_)
    refine yF fy Z Z (oO 6 Z ?_)
    refine yD Z Z aC (oK 3 [171,170,169,0,1,2] Z Z ?_)
    exact kQ (hK3 (i+1) bQ ar) (eC Z (eC Z (eC Z (eC Z (eC Z (eC Z (eN _)))))))
   replace hI:=hI0
   refine tB Z ?_
   exact kQ (hKj6 (_,_) (hI0.add (fun c hc=>by rw [hks]at hc;cases hc))) (eC Z (eC Z (eC Z (eN _))))
  have hf25:f 25=none:=tU hp25 h163
  refine wB ?_
  exact kQ (hKj6 (_,_) (hI.none hf25)) (eC Z (eC Z (eC Z (eN _))))
 intro ⟨y,G⟩ hI
 replace hI:AtS t x0 b f [25,24,23,22,15,14] y G:=hI
 change Run _ _ _ _ _ [(0,_),(1,_),(2,_)] (.many 124 (Gr.blks G)::t.X y.1) (.graph t.mb G::t.D0)
 obtain⟨cs,hm⟩:=hI.mem
 refine xQ 0 28 Z hm aE aE (fun p28 hc28 hp28=>?_)
 refine rO 8 Z (zC eS Z Z ?_)
 refine zA (yT 0 dm Z Z Z (xA hm) (by rw [Nat.zero_add];exact hc28) ?_)
 refine zA (yF fm Z Z ?_)
 refine oK 1 [193,0,1,2] Z Z (vK [0,1,2] (fun(⟨y,G⟩:(β×ce)×Gr)=>AtS t x0 b f [28,25,24,23,22,15,14] y G) (fun(⟨y,G⟩:(β×ce)×Gr)=>[]) (fun(⟨y,G⟩:(β×ce)×Gr)=> .many 124 (Gr.blks G)::t.X y.1) (fun(⟨y,G⟩:(β×ce)×Gr)=> .graph t.mb G::t.D0) ?_ ?_)
 ·intro Kj7 hKj7
  refine zU Z (fun h193=>?_) (fun h193=>?_)
  ·obtain⟨fv,hfv⟩: ∃fv,f 28=some fv:=Option.isSome_iff_exists.1 (hp28.symm.trans h193)
   have hok:=hft 28 fv aE aE hfv
   refine vM 0 28 Z hm aE aE hc28 hfv ?_
   have hks:=uH hfv
   obtain⟨bs,rfl⟩:=iQ hok
   refine jN 0 Z (fun pl sl hu=>?_)
   cases hu
   refine vS 1 Z (fun A1 c1 hx hk1 hk2=>?_)
   subst hx
   unfold maxLen at hk2
   change cH f 28=bs at hks
   refine rO 7 Z (zC eS Z Z ?_)
   refine zA (yT 0 dm Z Z Z (xA hm) (by rw [Nat.zero_add];exact hc28) ?_)
   refine oO 3 Z (yM 0 kA Z Z Z ?_)
   refine zA (zX d3 Z Z ?_)
   refine oK 4 [201,200,199,0,1,2] Z Z (sY (D':= .graph t.mb G:: .rowp (.slice A1 bs.length c1) bs::t.D0) aZ ?_)
   refine yR 1 (fun(⟨i,y,G⟩:Nat×(β×ce)×Gr)=>i≤bs.length∧AtS t x0 b f [25,24,23,22,15,14] y G∧ ∀ j c,j<i→bs[j]? =some c→t.dn y (decide (28=30)) c) (fun(⟨i,y,G⟩:Nat×(β×ce)×Gr)=>[(201, .int .i64 ((i:Nat):Int))]) (fun(⟨i,y,G⟩:Nat×(β×ce)×Gr)=> .many 124 (Gr.blks G)::t.X y.1) (fun(⟨i,y,G⟩:Nat×(β×ce)×Gr)=> .graph t.mb G:: .rowp (.slice A1 bs.length c1) bs::t.D0) (fun(⟨i,y,G⟩:Nat×(β×ce)×Gr)=>bs.length - i) (0,y,G) (⟨Nat.zero_le _,hI,fun j c h=>absurd h (Nat.not_lt_zero _)⟩) (eC Z (eN _)) Z Z ?_ (eC Z (eC Z (eC Z (eC Z (eC Z (eN _))))))
   intro ⟨i,y,G⟩ hI K hK4
   change Run _ _ _ _ _ [(201,_),(200,_),(199,_),(0,_),(1,_),(2,_)] (.many 124 (Gr.blks G)::t.X y.1) (.graph t.mb G:: .rowp (.slice A1 bs.length c1) bs::t.D0)
   obtain⟨hi,hI,hno⟩:=hI
   refine rO 3 Z (yK Z Z Z ?_)
   refine oR 2 Z (zK Z (fun h202=>?_) (fun h202=>?_))
   ·refine rO 6 Z ?_
    have hlt:i<bs.length:=h202
    refine wO 1 d3 Z Z Z Z hlt (zA ?_)
    refine yE da Z Z (fun _ h=>vJ h (j:=1) Z (List.getElem?_eq_getElem hlt)) ?_
    refine oO 9 Z ?_
    refine pA 28 hI aD IH (hkid 28 aE _ a9) Z Z Z aQ (fun y207 G207 hI207 hd207 hm207=>?_)
    refine oO 4 Z (yD Z Z aC ?_)
    refine oR 3 Z ?_
    exact kQ (hK4 (i+1,_,_) (⟨by show i+1≤_;omega,hI207,fY hno hm207 (List.getElem?_eq_getElem hlt) hd207⟩) av) (eC Z (eC Z (eC Z (eC Z (eC Z (eC Z (eN _))))))) (hD:=(cR 0 Z sQ))
   have hall:=iR aC hno
   refine tB Z ?_
   exact kQ (hKj7 (_,_) (hI.add (fun c hc=>by rw [hks]at hc;exact hall c hc))) (eC Z (eC Z (eC Z (eN _))))
  have hf28:f 28=none:=tU hp28 h193
  refine wB ?_
  exact kQ (hKj7 (_,_) (hI.none hf28)) (eC Z (eC Z (eC Z (eN _))))
 intro ⟨y,G⟩ hI
 replace hI:AtS t x0 b f [28,25,24,23,22,15,14] y G:=hI
 change Run _ _ _ _ _ [(0,_),(1,_),(2,_)] (.many 124 (Gr.blks G)::t.X y.1) (.graph t.mb G::t.D0)
 obtain⟨cs,hm⟩:=hI.mem
 refine xQ 0 29 Z hm aE aE (fun p29 hc29 hp29=>?_)
 refine rO 8 Z (zC eT Z Z ?_)
 refine zA (yT 0 dm Z Z Z (xA hm) (by rw [Nat.zero_add];exact hc29) ?_)
 refine zA (yF fm Z Z ?_)
 refine oK 1 [213,0,1,2] Z Z (vK [0,1,2] (fun(⟨y,G⟩:(β×ce)×Gr)=>AtS t x0 b f [29,28,25,24,23,22,15,14] y G) (fun(⟨y,G⟩:(β×ce)×Gr)=>[]) (fun(⟨y,G⟩:(β×ce)×Gr)=> .many 124 (Gr.blks G)::t.X y.1) (fun(⟨y,G⟩:(β×ce)×Gr)=> .graph t.mb G::t.D0) ?_ ?_)
 ·intro Kj8 hKj8
  refine zU Z (fun h213=>?_) (fun h213=>?_)
  ·obtain⟨fv,hfv⟩: ∃fv,f 29=some fv:=Option.isSome_iff_exists.1 (hp29.symm.trans h213)
   have hok:=hft 29 fv aE aE hfv
   refine vM 0 29 Z hm aE aE hc29 hfv ?_
   have hks:=uH hfv
   obtain⟨bs,rfl⟩:=iQ hok
   refine jN 0 Z (fun pl sl hu=>?_)
   cases hu
   refine vS 1 Z (fun A1 c1 hx hk1 hk2=>?_)
   subst hx
   unfold maxLen at hk2
   change cH f 29=bs at hks
   refine rO 7 Z (zC eT Z Z ?_)
   refine zA (yT 0 dm Z Z Z (xA hm) (by rw [Nat.zero_add];exact hc29) ?_)
   refine oO 3 Z (yM 0 kA Z Z Z ?_)
   refine zA (zX d3 Z Z ?_)
   refine oK 4 [221,220,219,0,1,2] Z Z (sY (D':= .graph t.mb G:: .rowp (.slice A1 bs.length c1) bs::t.D0) aZ ?_)
   refine yR 1 (fun(⟨i,y,G⟩:Nat×(β×ce)×Gr)=>i≤bs.length∧AtS t x0 b f [28,25,24,23,22,15,14] y G∧ ∀ j c,j<i→bs[j]? =some c→t.dn y (decide (29=30)) c) (fun(⟨i,y,G⟩:Nat×(β×ce)×Gr)=>[(221, .int .i64 ((i:Nat):Int))]) (fun(⟨i,y,G⟩:Nat×(β×ce)×Gr)=> .many 124 (Gr.blks G)::t.X y.1) (fun(⟨i,y,G⟩:Nat×(β×ce)×Gr)=> .graph t.mb G:: .rowp (.slice A1 bs.length c1) bs::t.D0) (fun(⟨i,y,G⟩:Nat×(β×ce)×Gr)=>bs.length - i) (0,y,G) (⟨Nat.zero_le _,hI,fun j c h=>absurd h (Nat.not_lt_zero _)⟩) (eC Z (eN _)) Z Z ?_ (eC Z (eC Z (eC Z (eC Z (eC Z (eN _))))))
   intro ⟨i,y,G⟩ hI K hK5
   change Run _ _ _ _ _ [(221,_),(220,_),(219,_),(0,_),(1,_),(2,_)] (.many 124 (Gr.blks G)::t.X y.1) (.graph t.mb G:: .rowp (.slice A1 bs.length c1) bs::t.D0)
   obtain⟨hi,hI,hno⟩:=hI
   refine rO 3 Z (yK Z Z Z ?_)
   refine oR 2 Z (zK Z (fun h222=>?_) (fun h222=>?_))
   ·refine rO 6 Z ?_
    have hlt:i<bs.length:=h222
    refine wO 1 d3 Z Z Z Z hlt (zA ?_)
    refine yE da Z Z (fun _ h=>vJ h (j:=1) Z (List.getElem?_eq_getElem hlt)) ?_
    refine oO 9 Z ?_
    refine pA 29 hI aD IH (hkid 29 aE _ a9) Z Z Z aQ (fun y227 G227 hI227 hd227 hm227=>?_)
    refine oO 4 Z (yD Z Z aC ?_)
    refine oR 3 Z ?_
    exact kQ (hK5 (i+1,_,_) (⟨by show i+1≤_;omega,hI227,fY hno hm227 (List.getElem?_eq_getElem hlt) hd227⟩) av) (eC Z (eC Z (eC Z (eC Z (eC Z (eC Z (eN _))))))) (hD:=(cR 0 Z sQ))
   have hall:=iR aC hno
   refine tB Z ?_
   exact kQ (hKj8 (_,_) (hI.add (fun c hc=>by rw [hks]at hc;exact hall c hc))) (eC Z (eC Z (eC Z (eN _))))
  have hf29:f 29=none:=tU hp29 h213
  refine wB ?_
  exact kQ (hKj8 (_,_) (hI.none hf29)) (eC Z (eC Z (eC Z (eN _))))
 intro ⟨y,G⟩ hI
 replace hI:AtS t x0 b f [29,28,25,24,23,22,15,14] y G:=hI
 change Run _ _ _ _ _ [(0,_),(1,_),(2,_)] (.many 124 (Gr.blks G)::t.X y.1) (.graph t.mb G::t.D0)
 obtain⟨cs,hm⟩:=hI.mem
 refine xQ 0 30 Z hm aE aE (fun p30 hc30 hp30=>?_)
 refine rO 8 Z (zC qW Z Z ?_)
 refine zA (yT 0 dm Z Z Z (xA hm) (by rw [Nat.zero_add];exact hc30) ?_)
 refine zA (yF fm Z Z ?_)
 refine oK 1 [233,0,1,2] Z Z (vK [0,1,2] (fun(⟨y,G⟩:(β×ce)×Gr)=>AtS t x0 b f [30,29,28,25,24,23,22,15,14] y G) (fun(⟨y,G⟩:(β×ce)×Gr)=>[]) (fun(⟨y,G⟩:(β×ce)×Gr)=> .many 124 (Gr.blks G)::t.X y.1) (fun(⟨y,G⟩:(β×ce)×Gr)=> .graph t.mb G::t.D0) ?_ ?_)
 ·intro Kj9 hKj9
  refine zU Z (fun h233=>?_) (fun h233=>?_)
  ·obtain⟨fv,hfv⟩: ∃fv,f 30=some fv:=Option.isSome_iff_exists.1 (hp30.symm.trans h233)
   have hok:=hft 30 fv aE aE hfv
   refine vM 0 30 Z hm aE aE hc30 hfv ?_
   have hks:=uH hfv
   obtain⟨bs,rfl⟩:=iQ hok
   refine jN 0 Z (fun pl sl hu=>?_)
   cases hu
   refine vS 1 Z (fun A1 c1 hx hk1 hk2=>?_)
   subst hx
   unfold maxLen at hk2
   change cH f 30=bs at hks
   refine rO 7 Z (zC qW Z Z ?_)
   refine zA (yT 0 dm Z Z Z (xA hm) (by rw [Nat.zero_add];exact hc30) ?_)
   refine oO 3 Z (yM 0 kA Z Z Z ?_)
   refine zA (zX d3 Z Z ?_)
   refine oK 4 [241,240,239,0,1,2] Z Z (sY (D':= .graph t.mb G:: .rowp (.slice A1 bs.length c1) bs::t.D0) aZ ?_)
   refine yR 1 (fun(⟨i,y,G⟩:Nat×(β×ce)×Gr)=>i≤bs.length∧AtS t x0 b f [29,28,25,24,23,22,15,14] y G∧ ∀ j c,j<i→bs[j]? =some c→t.dn y (decide (30=30)) c) (fun(⟨i,y,G⟩:Nat×(β×ce)×Gr)=>[(241, .int .i64 ((i:Nat):Int))]) (fun(⟨i,y,G⟩:Nat×(β×ce)×Gr)=> .many 124 (Gr.blks G)::t.X y.1) (fun(⟨i,y,G⟩:Nat×(β×ce)×Gr)=> .graph t.mb G:: .rowp (.slice A1 bs.length c1) bs::t.D0) (fun(⟨i,y,G⟩:Nat×(β×ce)×Gr)=>bs.length - i) (0,y,G) (⟨Nat.zero_le _,hI,fun j c h=>absurd h (Nat.not_lt_zero _)⟩) (eC Z (eN _)) Z Z ?_ (eC Z (eC Z (eC Z (eC Z (eC Z (eN _))))))
   intro ⟨i,y,G⟩ hI K hK6
   change Run _ _ _ _ _ [(241,_),(240,_),(239,_),(0,_),(1,_),(2,_)] (.many 124 (Gr.blks G)::t.X y.1) (.graph t.mb G:: .rowp (.slice A1 bs.length c1) bs::t.D0)
   obtain⟨hi,hI,hno⟩:=hI
   refine rO 3 Z (yK Z Z Z ?_)
   refine oR 2 Z (zK Z (fun h242=>?_) (fun h242=>?_))
   ·refine rO 6 Z ?_
    have hlt:i<bs.length:=h242
    refine wO 1 d3 Z Z Z Z hlt (zA ?_)
    refine yE da Z Z (fun _ h=>vJ h (j:=1) Z (List.getElem?_eq_getElem hlt)) ?_
    refine oO 9 Z ?_
    refine pA 30 hI aD IH (hkid 30 aE _ a9) Z Z Z aQ (fun y247 G247 hI247 hd247 hm247=>?_)
    refine oO 4 Z (yD Z Z aC ?_)
    refine oR 3 Z ?_
    exact kQ (hK6 (i+1,_,_) (⟨by show i+1≤_;omega,hI247,fY hno hm247 (List.getElem?_eq_getElem hlt) hd247⟩) av) (eC Z (eC Z (eC Z (eC Z (eC Z (eC Z (eN _))))))) (hD:=(cR 0 Z sQ))
   have hall:=iR aC hno
   refine tB Z ?_
   exact kQ (hKj9 (_,_) (hI.add (fun c hc=>by rw [hks]at hc;exact hall c hc))) (eC Z (eC Z (eC Z (eN _))))
  have hf30:f 30=none:=tU hp30 h233
  refine wB ?_
  exact kQ (hKj9 (_,_) (hI.none hf30)) (eC Z (eC Z (eC Z (eN _))))
 intro ⟨y,G⟩ hI
 replace hI:AtS t x0 b f [30,29,28,25,24,23,22,15,14] y G:=hI
 change Run _ _ _ _ _ [(0,_),(1,_),(2,_)] (.many 124 (Gr.blks G)::t.X y.1) (.graph t.mb G::t.D0)
 obtain⟨cs,hm⟩:=hI.mem
 refine xQ 0 31 Z hm aE aE (fun p31 hc31 hp31=>?_)
 refine rO 8 Z (zC eU Z Z ?_)
 refine zA (yT 0 da Z Z Z (xA hm) (by rw [Nat.zero_add];exact hc31) ?_)
 refine zA (yF fy Z Z ?_)
 refine oK 1 [253,0,1,2] Z Z (vK [0,1,2] (fun(⟨y,G⟩:(β×ce)×Gr)=>AtS t x0 b f [31,30,29,28,25,24,23,22,15,14] y G) (fun(⟨y,G⟩:(β×ce)×Gr)=>[]) (fun(⟨y,G⟩:(β×ce)×Gr)=> .many 124 (Gr.blks G)::t.X y.1) (fun(⟨y,G⟩:(β×ce)×Gr)=> .graph t.mb G::t.D0) ?_ ?_)
 ·intro Kj10 hKj10
  refine zU Z (fun h253=>?_) (fun h253=>?_)
  ·obtain⟨fv,hfv⟩: ∃fv,f 31=some fv:=Option.isSome_iff_exists.1 (hp31.symm.trans h253)
   have hok:=hft 31 fv aE aE hfv
   refine vM 0 31 Z hm aE aE hc31 hfv ?_
   have hks:=uH hfv
   obtain⟨bb,rfl⟩:=zg hok
   refine uQ (p:=p31=some ⟨bb,0,none⟩) (fun w ok h=>by have:=(dget h 0 Z:(DA.fv (.pointer p31) (.one bb)).p w ok);cases this;rfl) (fun hu=>?_)
   subst hu
   change cH f 31=[bb]at hks
   refine rO 6 Z (zC eU Z Z ?_)
   refine zA (yT 0 da Z Z Z (xA hm) (by rw [Nat.zero_add];exact hc31) ?_)
   refine oO 3 Z ?_
   refine pA 31 hI aD IH (hkid 31 aE _ (by rw [hks];simp)) Z Z Z aQ (fun y259 G259 hI259 hd259 hm259=>?_)
   refine zY ?_
   exact kQ (hKj10 (_,_) (hI259.add (fun c hc=>by rw [hks]at hc;rcases List.mem_singleton.1 hc with rfl;exact hd259))) (eC Z (eC Z (eC Z (eN _))))
  have hf31:f 31=none:=tU hp31 h253
  refine wB ?_
  exact kQ (hKj10 (_,_) (hI.none hf31)) (eC Z (eC Z (eC Z (eN _))))
 intro ⟨y,G⟩ hI
 replace hI:AtS t x0 b f [31,30,29,28,25,24,23,22,15,14] y G:=hI
 change Run _ _ _ _ _ [(0,_),(1,_),(2,_)] (.many 124 (Gr.blks G)::t.X y.1) (.graph t.mb G::t.D0)
 obtain⟨cs,hm⟩:=hI.mem
 refine xQ 0 32 Z hm aE aE (fun p32 hc32 hp32=>?_)
 refine rO 8 Z (zC qB Z Z ?_)
 refine zA (yT 0 di Z Z Z (xA hm) (by rw [Nat.zero_add];exact hc32) ?_)
 refine zA (yF jM Z Z ?_)
 refine oK 1 [264,0,1,2] Z Z (vK [0,1,2] (fun(⟨y,G⟩:(β×ce)×Gr)=>AtS t x0 b f [32,31,30,29,28,25,24,23,22,15,14] y G) (fun(⟨y,G⟩:(β×ce)×Gr)=>[]) (fun(⟨y,G⟩:(β×ce)×Gr)=> .many 124 (Gr.blks G)::t.X y.1) (fun(⟨y,G⟩:(β×ce)×Gr)=> .graph t.mb G::t.D0) ?_ ?_)
 ·intro Kj11 hKj11
  refine zU Z (fun h264=>?_) (fun h264=>?_)
  ·obtain⟨fv,hfv⟩: ∃fv,f 32=some fv:=Option.isSome_iff_exists.1 (hp32.symm.trans h264)
   have hok:=hft 32 fv aE aE hfv
   refine vM 0 32 Z hm aE aE hc32 hfv ?_
   have hks:=uH hfv
   obtain⟨l,rfl⟩:=jw hok
   refine sT 0 Z (fun pl sl nbs hu=>?_)
   cases hu
   refine vS 1 Z (fun A1 c1 hx hk1 hk2=>?_)
   subst hx
   refine tL 2 Z (fun hnl=>?_)
   unfold maxLen at hk2
   change cH f 32=l.map (·.2)at hks
   refine rO 7 Z (zC qB Z Z ?_)
   refine zA (yT 0 di Z Z Z (xA hm) (by rw [Nat.zero_add];exact hc32) ?_)
   refine oO 3 Z (yM 0 ib Z Z Z ?_)
   refine zA (zX dh Z Z ?_)
   refine oK 4 [272,271,270,0,1,2] Z Z (sY (D':= .graph t.mb G:: .rowp (.slice A1 nbs.length c1) nbs:: .nam nbs l::t.D0) aX ?_)
   refine yR 1 (fun(⟨i,y,G⟩:Nat×(β×ce)×Gr)=>i≤nbs.length∧AtS t x0 b f [31,30,29,28,25,24,23,22,15,14] y G∧ ∀ j c,j<i→(l.map (·.2))[j]? =some c→t.dn y (decide (32=30)) c) (fun(⟨i,y,G⟩:Nat×(β×ce)×Gr)=>[(272, .int .i64 ((i:Nat):Int))]) (fun(⟨i,y,G⟩:Nat×(β×ce)×Gr)=> .many 124 (Gr.blks G)::t.X y.1) (fun(⟨i,y,G⟩:Nat×(β×ce)×Gr)=> .graph t.mb G:: .rowp (.slice A1 nbs.length c1) nbs:: .nam nbs l::t.D0) (fun(⟨i,y,G⟩:Nat×(β×ce)×Gr)=>nbs.length - i) (0,y,G) (⟨Nat.zero_le _,hI,fun j c h=>absurd h (Nat.not_lt_zero _)⟩) (eC Z (eN _)) Z Z ?_ (eC Z (eC Z (eC Z (eC Z (eC Z (eN _))))))
   intro ⟨i,y,G⟩ hI K hK7
   change Run _ _ _ _ _ [(272,_),(271,_),(270,_),(0,_),(1,_),(2,_)] (.many 124 (Gr.blks G)::t.X y.1) (.graph t.mb G:: .rowp (.slice A1 nbs.length c1) nbs:: .nam nbs l::t.D0)
   obtain⟨hi,hI,hno⟩:=hI
   refine rO 3 Z (yK Z Z Z ?_)
   refine oR 2 Z (zK Z (fun h273=>?_) (fun h273=>?_))
   ·refine rO 6 Z ?_
    have hlt:i<nbs.length:=h273
    have hll:i<l.length:=by omega
    refine wO 1 dh Z Z Z Z hlt (pN 2 i Z (List.getElem?_eq_getElem hll) (List.getElem?_eq_getElem hlt) (fun hksz=>?_))
    refine zA (yE j9 Z Z (fun _ h=>vJ h (j:=2) Z (List.getElem?_eq_getElem hlt)) ?_)
    refine oO 10 Z (zC pK Z Z ?_)
    refine zA (zH 0 da Z Z Z Z ?_)
    refine oK 3 [28,272,271,270,0,1,2] Z Z (rO 6 Z ?_)
    refine pA 32 hI aD IH (hkid 32 aE _ am) Z Z Z aQ (fun y282 G282 hI282 hd282 hm282=>?_)
    refine oO 4 Z (yD Z Z aC ?_)
    refine oR 3 Z ?_
    exact kQ (hK7 (i+1,_,_) (⟨by show i+1≤_;omega,hI282,fY hno hm282 (by rw [List.getElem?_map,List.getElem?_eq_getElem hll];rfl) hd282⟩) ar) (eC Z (eC Z (eC Z (eC Z (eC Z (eC Z (eN _))))))) (hD:=(cR 0 Z sQ))
   have hall:=iR (bs:=l.map (·.2)) bI hno
   refine tB Z ?_
   exact kQ (hKj11 (_,_) (hI.add (fun c hc=>by rw [hks]at hc;exact hall c hc))) (eC Z (eC Z (eC Z (eN _))))
  have hf32:f 32=none:=tU hp32 h264
  refine wB ?_
  exact kQ (hKj11 (_,_) (hI.none hf32)) (eC Z (eC Z (eC Z (eN _))))
 intro ⟨y,G⟩ hI
 replace hI:AtS t x0 b f [32,31,30,29,28,25,24,23,22,15,14] y G:=hI
 change Run _ _ _ _ _ [(0,_),(1,_),(2,_)] (.many 124 (Gr.blks G)::t.X y.1) (.graph t.mb G::t.D0)
 refine rO 8 Z ?_
 refine ro Z Z Z (hok.op y b f ctx G hI.1 hS hI.2.2.2.1 (fun i hi c hc=>hI.2.2.2.2.1 i ((by decide: ∀ i∈c7,i∈[32,31,30,29,28,25,24,23,22,15,14]) i hi) c hc) hI.2.1) (fun d hd=>hd) (fun u287 M287 D287 hv287=>?_)
 obtain⟨rfl,y2,G2,hy2,hG2,rfl,rfl,hm2,hdn2,hs2⟩:=hv287
 refine zY ?_
 exact tN Tryz.results121 ⟨rfl,y2,G2,hy2,hG2,rfl,rfl,fun o d hd=>hm2 o d (hI.2.2.1 o d (hx0▸hd)),hdn2,fun d hd=>(hs2 d (fun e=>by subst e;exact Nat.lt_irrefl _ hd)).trans ((hI.2.2.2.2.2 d (Nat.le_of_lt hd)).trans (by rw [hx0]))⟩ (List.Sublist.refl _) (cC 0 Z)
section rules
variable {P:Program} {n:Nat} {F:List Nat} {c:Ctx F} {ops:Array Oper} {d:Nat} {T:TypeId} {l:List Oper} {k:List KI} {Q:Post} {e:cp} {M:List HA} {D:List DA}
theorem zh{fo:Operand}{ags:Array Operand}{ts:Array TypeId}{f:FuncId}{fst cap:Array Value}{vs:List Value}{M1 M2:List HA}{D1:List DA}{R:Value→List HA→List DA→Prop}(hd:Nat.blt d n=true)(hfo:ev e fo=some (.func (.func f) fst cap))(has:ags.toList.mapM (ev e)=some vs)
    (hct:Ct P f (fst++vs.toArray++cap) M1 D1 R) (hM:M1++M2=M) (hD: ∀ d∈D1,d∈D)
    (next: ∀ v M' D',R v M' D'→bu P n c ops l k Q ((d,v)::e) (M'++M2) (D'++D)):b0 P n c ops (some d) (.call {callee:= .value fo,args:=ags,argTypes:=ts}) T l k Q e M D:=by
  subst hM
  intro a w hf
  have hargs:ags.map a.eval=vs.toArray:=by
    apply Array.ext'
    simpa using vc hf has
  unfold Oper.wp
  have hrun:(execOp a.eval (cx (some d) (.call {callee:= .value fo,args:=ags,argTypes:=ts}) T)).run P w= .ok (.enter f (fst++vs.toArray++cap)) w:=by
    simp [execOp,cx,resolve,hf.ev hfo,Deferred.ofValue,invoke,hargs,fJ hct.1]
  rw [hrun]
  have hlt:=hf.lt
  refine Calls.mono (hct.2 w (c.now (M1++M2) w) (fun k hk=>⟨hk.2.1,fun h'=>hk.2.2 a8⟩) (fun h hh=>hf.own h (List.mem_append_left _ hh))
    (by have:=hf.nodup;rw [yL]at this;exact(List.nodup_append.1 this).1) (fun d hd'=>hf.dat d (hD d hd'))) ?_
  rintro e' w' ⟨v,M',D',rfl,hR,hchg,hm,hn,hft,hdat⟩
  refine next v M' D' hR _ w' ((hf.world (hf.toFitsW.swap hchg hm hn hft fun x hx=>?_)).put hd v)
  refine x.mono (fun q hq=>?_) (fun _ _=>rfl) (hdat x hx)
  obtain⟨h1,h2,h3⟩:=hq
  refine⟨?_,h2,?_⟩
  · rcases h1 with h1|h1
    · exact h1.1
    · exact .inr (Nat.le_trans hf.chg.size h1)
  · rw [yL,List.mem_append,not_or]
    refine⟨h3,fun h4=>?_⟩
    rcases h1 with h1|h1
    · exact h1.2.2 a7
    · exact absurd (hlt q a7) aC
theorem pB{fo:Operand}{ags:Array Operand}{ts:Array TypeId}{f:FuncId}{fst cap:Array Value}{vs:List Value}{pre M1:List HA}{D1:List DA}{R:Value→List HA→List DA→Prop}(hd:Nat.blt d n=true)(hfo:ev e fo=some (.func (.func f) fst cap))(has:ags.toList.mapM (ev e)=some vs)
  (hct:Ct P f (fst++vs.toArray++cap) M1 D1 R) (hM:M=pre++M1) (hD: ∀ d∈D1,d∈D)
  (next: ∀ v M' D',R v M' D'→bu P n c ops l k Q ((d,v)::e) (pre++M') (D'++D)):b0 P n c ops (some d) (.call {callee:= .value fo,args:=ags,argTypes:=ts}) T l k Q e M D:=by
 subst hM
 refine fun a w hf=>zh (M1:=M1) (M2:=pre) hd hfo has hct Z hD (fun v M' D' hR a' w' hf'=>next v M' D' hR a' w' (hf'.world (hf'.toFitsW.perm List.perm_append_comm))) a w (hf.world (hf.toFitsW.perm List.perm_append_comm))
end rules
inductive FoldR {α:Type} (Rl:V→α→α→V→Prop) (a0:α):List V→α→List V→Prop where
  |nil:FoldR Rl a0 [] a0 []
  |pos {l:List V} {a a1:α} {l':List V} {own v:V} (h:FoldR Rl a0 l a l') (hk:own.kind=5) (hr:Rl own a a1 v):FoldR Rl a0 (l++[own]) a1 (l'++[v])
  |neg {l:List V} {a:α} {l':List V} {own:V} (h:FoldR Rl a0 l a l') (hk: ¬ own.kind=5):FoldR Rl a0 (l++[own]) a (l'++[own])
theorem FoldR.len{α:Type}{Rl:V→α→α→V→Prop}{a0 a:α}{l l':List V}(h:FoldR Rl a0 l a l'):l'.length=l.length:=by
  induction h with
  |nil=>rfl
  |pos h hk hr ih=>simp [ih]
  |neg h hk ih=>simp [ih]
theorem FoldR.stepP{α:Type}{Rl:V→α→α→V→Prop}{a0 a a1:α}{ts l':List V}{i:Nat}{v:V}(hi:i<ts.length)(h:FoldR Rl a0 (ts.take i) a l')(hk:ts[i].kind=5)(hr:Rl ts[i] a a1 v):FoldR Rl a0 (ts.take (i+1)) a1 (l'++[v]):=by
 rw [List.take_add_one,List.getElem?_eq_getElem hi]
 exact .pos h hk hr
theorem FoldR.stepN{α:Type}{Rl:V→α→α→V→Prop}{a0 a:α}{ts l':List V}{i:Nat}(hi:i<ts.length)(h:FoldR Rl a0 (ts.take i) a l')(hk: ¬ ts[i].kind=5):FoldR Rl a0 (ts.take (i+1)) a (l'++[ts[i]]):=by
 rw [List.take_add_one,List.getElem?_eq_getElem hi]
 exact .neg h hk
def CN{α:Type}(Rl:V→α→α→V→Prop)(t:V)(a a':α)(v':V):Prop:= ∃ts',FoldR Rl a t.items a' ts'∧v'= .mk t.kind 0 ⟨#[]⟩ t.keys ts'
def dM{α:Type}(Rl:V→α→α→V→Prop)(sh:Int)(t:V)(a a':α)(v':V):Prop:=
 if sh=5 then Rl t a a' v' else if sh=6 then(if t.kind=5 then Rl t a a' v' else a'=a∧v'=t)else if sh=7 then(if t.kind=5 then Rl t a a' v' else CN Rl t a a' v')else if sh=9∨sh=13 then CN Rl t a a' v' else a'=a∧v'=t
def Gv{α:Type}(X:α→List HA)(DX:α→DA)(Ok:Nat→α→Prop)(Rl:V→α→α→V→Prop)(f:FuncId)(fst cap:Array Value)(own:V):Prop:=
 ∀ (k:Nat) (a:α) (y:Value),Ok (k+1) a→Ct Tryz.prog f (fst++ #[y]++cap) (X a) [.val y own,DX a] (fun u M' D'=> ∃a' v' D1,Rl own a a' v'∧Ok k a'∧M'=X a'∧RV v' u D1∧D'=D1++[DX a'])
theorem rT{x:HA}: ∀ {M' M:List HA},f8 M' M→f8 M' (x::M)
  |[],_,_=>trivial
  |_::M',M,⟨i,hi,h⟩=>⟨i+1,by simpa using hi,by
    rw [List.eraseIdx_cons_succ]
    exact rT h⟩

theorem Gw{α:Type}{X:α→List HA}{DX:α→DA}{Ok:Nat→α→Prop}{Rl:V→α→α→V→Prop}(hOk: ∀ k a,Ok (k+1) a→Ok k a)(t:V)(f:FuncId)(fst cap:Array Value)(hkl:t.keys.length≤1000000)(hil:t.items.length≤1000000)(hf: ∀ own∈t.items,own.kind=5→Gv X DX Ok Rl f fst cap own)(bv bh:Nat)(A1 A2:Option Addr)(c1 c2:Nat)(a0:α)(h0:Ok t.items.length a0):
  Ct Tryz.prog 94 #[.pointer (some ⟨bv,0,none⟩), .pointer (some ⟨bh,0,none⟩)] (.blk bv [.int .i64 t.kind, .int .i64 t.num, .string t.text, .slice A1 t.keys.length c1, .slice A2 t.items.length c2] 25:: .blk bh [.func (.func f) fst cap] 27::X a0) [.val (.agg #[.int .i64 t.kind, .int .i64 t.num, .string t.text, .slice A1 t.keys.length c1, .slice A2 t.items.length c2]) t,DX a0] (fun u M' D'=> ∃a' v' D1,CN Rl t a0 a' v'∧M'= .blk bv [.int .i64 t.kind, .int .i64 t.num, .string t.text, .slice A1 t.keys.length c1, .slice A2 t.items.length c2] 25:: .blk bh [.func (.func f) fst cap] 27::X a'∧RV v' u D1∧D'=D1++[DX a']):=by
 refine Ct.of_run (args:=[.pointer (some ⟨bv,0,none⟩), .pointer (some ⟨bh,0,none⟩)]) Tryz.func94 aF Z Tryz.ntmps94 Z (fun c=>?_)
 refine xB 0 Z (fun A1 c1 A2 c2 hx hs hk1 hk2 hi1 hi2=>?_)
 injection hx with hx
 simp only [Array.mk.injEq,List.cons.injEq,Value.slice.injEq,true_and,and_true]at hx
 obtain⟨⟨rfl,rfl⟩,rfl,rfl⟩:=hx
 unfold maxLen at hi2 hk2
 refine sP 0 Z (fun hksz=>?_)
 refine rO 3 Z (zT cl Z (fun b2=>?_))
 change bu _ _ _ _ _ _ _ _ (HA.blk _ [_,_,_,_,_] _::_) _
 refine oK 2 [2,0,1] Z Z (mn (fun(⟨b3,Ak,ck⟩:Nat×Option Addr×Nat)=>True) (fun(⟨b3,Ak,ck⟩:Nat×Option Addr×Nat)=>[(3, .pointer (some ⟨b3,0,none⟩))]) (fun(⟨b3,Ak,ck⟩:Nat×Option Addr×Nat)=>HA.blk b3 [.int .i64 t.kind, .int .i64 0, .string ⟨#[]⟩, .slice Ak t.keys.length ck, .slice none 0 0] 25::HA.blk b2 [.int .i64 0, .int .i64 0, .string ⟨#[]⟩, .slice none 0 0, .slice none 0 0] 25::HA.blk bv [.int .i64 t.kind, .int .i64 t.num, .string t.text, .slice A1 t.keys.length c1, .slice A2 t.items.length c2] 25::HA.blk bh [.func (.func f) fst cap] 27::X a0) (fun(⟨b3,Ak,ck⟩:Nat×Option Addr×Nat)=> .strs (.slice Ak t.keys.length ck) t.keys:: .strs (.slice A1 t.keys.length c1) t.keys:: .vals (.slice A2 t.items.length c2) t.items:: .val (.agg #[.int .i64 t.kind, .int .i64 t.num, .string t.text, .slice A1 t.keys.length c1, .slice A2 t.items.length c2]) t::DX a0::[]) ?_ ?_)
 ·intro K hK
  refine yX yI (zS ?_)
  refine tP 0 Z br (yA vR Z) (tP 3 Z br (yA xT Z) ?_)
  refine yH (tM 1 Z br (xD 1 eJ Z Z Z) ?_)
  refine tM 4 Z br (xD 1 dH Z Z Z) (tR (rs:=[2,7]) aD aJ ?_)
  intro j hj
  simp only [List.mem_cons,List.not_mem_nil,or_false]at hj
  rcases hj with rfl|rfl
  ·refine zP (I2:=[[4,1],[3,0],[]]) Z br aD (fun Kd hKd=>?_)
   refine uF cG Z (fun b8=>?_)
   refine hKd _ _ _ (uL aY sQ (uL aY sQ (zE (zQ)))) (tR (rs:=[5,7]) aD aJ ?_)
   intro j hj
   simp only [List.mem_cons,List.not_mem_nil,or_false]at hj
   rcases hj with rfl|rfl
   ·refine zP (I2:=[[1],[0],[]]) Z br aD (fun Kd hKd=>?_)
    refine uX 0 0 cG Z Z Z Z Z Z bT aC (fun Ak ck=>?_)
    rw [Nat.zero_add]
    refine hKd _ _ _ (uL aY sQ (uL aY sQ (zE (zQ)))) (yH ?_)
    refine tM 6 Z br (tZ Z (eV ..)) (zN 7 aD ?_)
    refine zP (I2:=[[6],[1],[0],[]]) Z br aD (fun Kd hKd=>?_)
    refine zT cl Z (fun b3=>?_)
    change bu _ _ _ _ _ _ _ _ (HA.blk _ [_,_,_,_,_] _::_) _
    refine hKd _ _ _ (uL aY sQ (uL aY sQ (uL aY sQ (zE (zQ))))) (zN 8 aD ?_)
    refine zP (I2:=[[],[],[],[]]) Z br aD (fun Kd hKd=>?_)
    refine zF 0 (M':=HA.blk _ [_,_,_,_,_] _::_) Z Z Z Z cN Z Z Z (hKd _ _ _ (zE (zE (zE (zE (zQ))))) ?_)
    refine yG aD (vI 1 t.keys Z aN Z hksz ?_)
    exact kQ (hK (_,_,_) (trivial)) (eC Z (eC Z (eC Z (eC Z (eN _))))) (hM:=(by repeat (first|exact wQ _|exact zO _|refine zB 0 Z ?_|refine zB 1 Z ?_|refine zB 2 Z ?_|refine zB 3 Z ?_|refine zB 4 Z ?_|refine zB 5 Z ?_|refine zB 6 Z ?_|refine zB 7 Z ?_|refine zB 8 Z ?_|refine rT ?_)))
   refine zP (I2:=[[4,1],[3,0],[]]) Z br aD (fun Kd hKd=>?_)
   refine zT cl Z (fun b3=>?_)
   change bu _ _ _ _ _ _ _ _ (HA.blk _ [_,_,_,_,_] _::_) _
   refine hKd _ _ _ (uL aY sQ (uL aY sQ (zE (zQ)))) (zN 5 aD ?_)
   refine zP (I2:=[[1],[0],[]]) Z br aD (fun Kd hKd=>?_)
   refine uX 1 0 cG Z Z Z Z Z Z bT aC (fun Ak ck=>?_)
   rw [Nat.zero_add]
   refine hKd _ _ _ (uL aY sQ (uL aY sQ (zE (zQ)))) (yH ?_)
   refine tM 6 Z br (tZ Z (eV ..)) (zN 8 aD ?_)
   refine zP (I2:=[[],[],[],[]]) Z br aD (fun Kd hKd=>?_)
   refine zF 0 (M':=HA.blk _ [_,_,_,_,_] _::_) Z Z Z Z cN Z Z Z (hKd _ _ _ (zE (zE (zE (zE (zQ))))) ?_)
   refine yG aD (vI 1 t.keys Z aN Z hksz ?_)
   exact kQ (hK (_,_,_) (trivial)) (eC Z (eC Z (eC Z (eC Z (eN _))))) (hM:=(by repeat (first|exact wQ _|exact zO _|refine zB 0 Z ?_|refine zB 1 Z ?_|refine zB 2 Z ?_|refine zB 3 Z ?_|refine zB 4 Z ?_|refine zB 5 Z ?_|refine zB 6 Z ?_|refine zB 7 Z ?_|refine zB 8 Z ?_|refine rT ?_)))
  refine zP (I2:=[[4,1],[3,0],[]]) Z br aD (fun Kd hKd=>?_)
  refine zT cl Z (fun b3=>?_)
  change bu _ _ _ _ _ _ _ _ (HA.blk _ [_,_,_,_,_] _::_) _
  refine hKd _ _ _ (uL aY sQ (uL aY sQ (zE (zQ)))) (zN 2 aD ?_)
  refine zP (I2:=[[4,1],[3,0],[]]) Z br aD (fun Kd hKd=>?_)
  refine uF cG Z (fun b8=>?_)
  refine hKd _ _ _ (uL aY sQ (uL aY sQ (zE (zQ)))) (zN 5 aD ?_)
  refine zP (I2:=[[1],[0],[]]) Z br aD (fun Kd hKd=>?_)
  refine uX 0 0 cG Z Z Z Z Z Z bT aC (fun Ak ck=>?_)
  rw [Nat.zero_add]
  refine hKd _ _ _ (uL aY sQ (uL aY sQ (zE (zQ)))) (yH ?_)
  refine tM 6 Z br (tZ Z (eV ..)) (zN 8 aD ?_)
  refine zP (I2:=[[],[],[],[]]) Z br aD (fun Kd hKd=>?_)
  refine zF 1 (M':=_::HA.blk _ [_,_,_,_,_] _::_) Z Z Z Z cN Z Z Z (hKd _ _ _ (zE (zE (zE (zE (zQ))))) ?_)
  refine yG aD (vI 0 t.keys Z aN Z hksz ?_)
  exact kQ (hK (_,_,_) (trivial)) (eC Z (eC Z (eC Z (eC Z (eN _))))) (hM:=(by repeat (first|exact wQ _|exact zO _|refine zB 0 Z ?_|refine zB 1 Z ?_|refine zB 2 Z ?_|refine zB 3 Z ?_|refine zB 4 Z ?_|refine zB 5 Z ?_|refine zB 6 Z ?_|refine zB 7 Z ?_|refine zB 8 Z ?_|refine rT ?_)))
 intro ⟨b3,Ak,ck⟩ hI
 replace hI:True:=hI
 change Run _ _ _ _ _ [(3,_),(2,_),(0,_),(1,_)] (HA.blk b3 [.int .i64 t.kind, .int .i64 0, .string ⟨#[]⟩, .slice Ak t.keys.length ck, .slice none 0 0] 25::HA.blk b2 [.int .i64 0, .int .i64 0, .string ⟨#[]⟩, .slice none 0 0, .slice none 0 0] 25::HA.blk bv [.int .i64 t.kind, .int .i64 t.num, .string t.text, .slice A1 t.keys.length c1, .slice A2 t.items.length c2] 25::HA.blk bh [.func (.func f) fst cap] 27::X a0) [_,_,_,_,_]
 refine wZ 25 5 (rO 4 Z ?_)
 refine zC xG Z Z (zA ?_)
 refine zG 3 dK Z Z Z Z (zA ?_)
 refine zX cV Z Z (oK 4 [16,15,14,3,2,1] Z Z ?_)
 refine yO (DX a0) (fun w ok h=>dget h 4 Z) (qD ?_)
 refine yR 1 (fun(⟨i,a,A,ca,xs,ts⟩:Nat×α×Option Addr×Nat×List Value×List V)=>i≤t.items.length∧FoldR Rl a0 (t.items.take i) a ts∧Ok (t.items.length - i) a∧ ∀ q,A=some q→c.w0.heap.size≤q.block) (fun(⟨i,a,A,ca,xs,ts⟩:Nat×α×Option Addr×Nat×List Value×List V)=>[(16, .int .i64 ((i:Nat):Int))]) (fun(⟨i,a,A,ca,xs,ts⟩:Nat×α×Option Addr×Nat×List Value×List V)=>HA.row A i ca 25 5 xs::HA.blk b3 [.int .i64 t.kind, .int .i64 0, .string ⟨#[]⟩, .slice Ak t.keys.length ck, .slice A i ca] 25::HA.blk b2 [.int .i64 0, .int .i64 0, .string ⟨#[]⟩, .slice none 0 0, .slice none 0 0] 25::HA.blk bv [.int .i64 t.kind, .int .i64 t.num, .string t.text, .slice A1 t.keys.length c1, .slice A2 t.items.length c2] 25::HA.blk bh [.func (.func f) fst cap] 27::X a) (fun(⟨i,a,A,ca,xs,ts⟩:Nat×α×Option Addr×Nat×List Value×List V)=> .its xs ts::DX a:: .strs (.slice Ak t.keys.length ck) t.keys:: .strs (.slice A1 t.keys.length c1) t.keys:: .vals (.slice A2 t.items.length c2) t.items:: .val (.agg #[.int .i64 t.kind, .int .i64 t.num, .string t.text, .slice A1 t.keys.length c1, .slice A2 t.items.length c2]) t::DX a0::[]) (fun(⟨i,a,A,ca,xs,ts⟩:Nat×α×Option Addr×Nat×List Value×List V)=>t.items.length - i) (0,a0,none,0,[],[]) (⟨Nat.zero_le _, .nil,h0,fun q h=>by cases h⟩) (eC Z (eN _)) Z Z ?_ (eC Z (eC Z (eC Z (eC Z (eC Z (eN _))))))
 intro ⟨i,a,A,ca,xs,ts⟩ hI K hK
 change Run _ _ _ _ _ [(16,_),(15,_),(14,_),(3,_),(2,_),(1,_)] (HA.row A i ca 25 5 xs::HA.blk b3 [.int .i64 t.kind, .int .i64 0, .string ⟨#[]⟩, .slice Ak t.keys.length ck, .slice A i ca] 25::HA.blk b2 [.int .i64 0, .int .i64 0, .string ⟨#[]⟩, .slice none 0 0, .slice none 0 0] 25::HA.blk bv [.int .i64 t.kind, .int .i64 t.num, .string t.text, .slice A1 t.keys.length c1, .slice A2 t.items.length c2] 25::HA.blk bh [.func (.func f) fst cap] 27::X a) [_,_,_,_,_,_,_]
 obtain⟨hi,hF,hO,hA⟩:=hI
 refine rO 3 Z (yK Z Z Z ?_)
 refine oR 2 Z (zK Z (fun h17=>?_) (fun h17=>?_))
 ·rw [show t.items.length - i=(t.items.length - (i+1))+1 by omega]at hO
  refine rO 6 Z (wM 4 cV Z Z Z Z aC ?_)
  refine zA (wJ 4 cB Z Z Z (List.getElem?_eq_getElem h17) (fun A3 c3 A4 c4=>?_))
  refine zA (zT cl Z (fun b5=>?_))
  change bu _ _ _ _ _ _ _ _ (HA.blk _ [_,_,_,_,_] _::_) _
  refine zA (zF 0 (M':=HA.blk _ [_,_,_,_,_] _::_) Z Z Z Z cN Z Z Z ?_)
  refine oO 5 Z (zC vR Z Z ?_)
  refine zA (zG 0 eJ Z Z Z Z ?_)
  refine oR 3 Z (zK Z (fun h22=>?_) (fun h22=>?_))
  ·refine rO 2 Z (zG 5 o4 Z Z Z Z ?_)
   refine zA (zL 0 Z cB Z Z ?_)
   refine zA (pB (pre:=[_,_,_,_,_,_]) Z Z Z (hf _ (List.getElem_mem h17) h22 _ a _ hO) Z (cn 0 2 Z Z) (fun u25 M25 D25 hv25=>?_))
   obtain⟨a25,v25,D25,hR25,hO25,rfl,⟨A5,c5,A6,c6,rfl,rfl⟩,rfl⟩:=hv25
   refine zA (zF 0 (M':=HA.blk _ [_,_,_,_,_] _::_) Z Z Z Z cN Z Z Z ?_)
   refine oK 1 [5,16,15,14,3,2,1] Z Z (rO 2 Z ?_)
   refine zC xG Z Z (zA ?_)
   refine zG 2 dK Z Z Z Z (zA ?_)
   refine zL 0 Z cB Z Z (zA ?_)
   refine zM cV Z Z Z Z Z (fun b29=>?_)
   refine zA ?_
   refine sX 2 0 cV Z Z Z Z Z Z Z bT aC hA (fun A30 c30 hA30=>?_)
   refine zA (zC xG Z Z ?_)
   refine zA (zF 3 (M':=_::_::_::HA.blk _ [_,_,_,_,_] _::_) Z Z Z Z fu Z Z Z ?_)
   refine oO 4 Z (yD Z Z aC ?_)
   refine oR 3 Z (vA 3 0 Z Z Z ?_)
   exact kQ (hK (i+1,_,_,_,_,_) (⟨by show i+1≤_;omega,hF.stepP h17 h22 hR25,hO25,hA30⟩) ao) (eC Z (eC Z (eC Z (eC Z (eC Z (eC Z (eN _))))))) (hM:=(by repeat (first|exact wQ _|exact zO _|refine zB 0 Z ?_|refine zB 1 Z ?_|refine zB 2 Z ?_|refine zB 3 Z ?_|refine zB 4 Z ?_|refine zB 5 Z ?_|refine zB 6 Z ?_|refine zB 7 Z ?_|refine zB 8 Z ?_|refine rT ?_))) (hD:=(by intro d hd;refine(List.mem_cons.1 hd).elim (fun e=>e▸ac) (fun hd=>?_);refine(List.mem_cons.1 hd).elim (fun e=>e▸ac) (fun hd=>?_);repeat (first|exact hd|apply List.mem_cons_of_mem)))
  refine rO 3 Z (zC xG Z Z ?_)
  refine zA (zG 2 dK Z Z Z Z ?_)
  refine zA (zL 0 Z cB Z Z ?_)
  refine zA (zM cV Z Z Z Z Z (fun b29=>?_))
  refine zA ?_
  refine sX 2 0 cV Z Z Z Z Z Z Z bT aC hA (fun A30 c30 hA30=>?_)
  refine zA (zC xG Z Z ?_)
  refine zA (zF 3 (M':=_::_::_::HA.blk _ [_,_,_,_,_] _::_) Z Z Z Z fu Z Z Z ?_)
  refine oK 1 [16,15,14,3,2,1] Z Z (rO 3 Z ?_)
  refine yD Z Z aC (oR 3 Z ?_)
  refine vA 1 0 Z Z Z ?_
  exact kQ (hK (i+1,_,_,_,_,_) (⟨by show i+1≤_;omega,hF.stepN h17 h22,hOk _ _ hO,hA30⟩) ao) (eC Z (eC Z (eC Z (eC Z (eC Z (eC Z (eN _))))))) (hM:=(by repeat (first|exact wQ _|exact zO _|refine zB 0 Z ?_|refine zB 1 Z ?_|refine zB 2 Z ?_|refine zB 3 Z ?_|refine zB 4 Z ?_|refine zB 5 Z ?_|refine zB 6 Z ?_|refine zB 7 Z ?_|refine zB 8 Z ?_|refine rT ?_))) (hD:=(by intro d hd;refine(List.mem_cons.1 hd).elim (fun e=>e▸ac) (fun hd=>?_);refine(List.mem_cons.1 hd).elim (fun e=>e▸ac) (fun hd=>?_);repeat (first|exact hd|apply List.mem_cons_of_mem)))
 obtain rfl:i=t.items.length:=by omega
 rw [List.take_length]at hF
 have hlen:=hF.len
 refine rO 4 Z (zL 1 Z cB Z Z ?_)
 refine zA (zF 2 (M':=_::_::HA.blk _ [_,_,_,_,_] _::_) Z Z Z Z cN Z Z Z ?_)
 refine zY (kN 0 0 ts hA Z Z hlen.symm ?_)
 refine vQ (q:=t.kind) (m:=0) (s:=⟨#[]⟩) 3 0 Z Z aE ?_
 exact xC 1 Tryz.results94 Z Z cB ⟨a,_,_,⟨ts,hF,rfl⟩,rfl,⟨_,_,_,_,by simp only [V.kind,V.num,V.text,V.keys,V.items,hlen];rfl,rfl⟩,rfl⟩ aY (by intro d hd;refine(List.mem_cons.1 hd).elim (fun e=>e▸ac) (fun hd=>?_);refine(List.mem_cons.1 hd).elim (fun e=>e▸ac) (fun hd=>?_);repeat (first|exact hd|apply List.mem_cons_of_mem))
theorem Gx{α:Type}{X:α→List HA}{DX:α→DA}{Ok:Nat→α→Prop}{Rl:V→α→α→V→Prop}(hOk: ∀ k a,Ok (k+1) a→Ok k a)(key:ByteArray)(t:V)(x:Value)(f:FuncId)(fst cap:Array Value)(hkl:t.keys.length≤1000000)(hil:t.items.length≤1000000)(hf: ∀ own∈kidsOf (bw key) t,Gv X DX Ok Rl f fst cap own)(a0:α)(h0:Ok (t.items.length+1) a0):Ct Tryz.prog 54 #[.string key,x, .func (.func f) fst cap] (X a0) [.val x t,DX a0] (fun u M' D'=> ∃a' v' D1,dM Rl (bw key) t a0 a' v'∧M'=X a'∧RV v' u D1∧D'=D1++[DX a']):=by
 refine Ct.of_run (args:=[.string key,x, .func (.func f) fst cap]) Tryz.func54 aF Z Tryz.ntmps54 Z (fun c=>?_)
 refine xB 0 Z (fun A1 c1 A2 c2 hx hs hk1 hk2 hi1 hi2=>?_)
 subst hx
 unfold maxLen at hi2 hk2
 refine rO 3 Z (yN Z Z Z (fun b4=>?_))
 refine zA (yN Z Z Z (fun b5=>?_))
 refine zA (zT cl Z (fun b6=>?_))
 change bu _ _ _ _ _ _ _ _ (HA.blk _ [_,_,_,_,_] _::_) _
 refine oO 4 Z (rZ Z Z Z ?_)
 refine oO 9 Z (zJ Z Z Z (Jx key) cF ?_)
 refine oR 9 Z (zK Z (fun h11=>?_) (fun h11=>?_))
 ·refine rO 3 Z (zG 1 o4 Z Z Z Z ?_)
  refine zA (zL 2 Z cB Z Z ?_)
  refine zA ?_
  refine pB (pre:=[_,_,_]) Z Z Z (hf t ba _ a0 _ h0) Z (cn 2 3 Z Z) (fun u15 M15 D15 hv15=>?_)
  obtain⟨a15,v15,D15,hR15,hO15,rfl,⟨A15,c15,B15,d15,rfl,rfl⟩,rfl⟩:=hv15
  refine zA (zF 0 (M':=HA.blk _ [_,_,_,_,_] _::_) Z Z Z Z cN Z Z Z ?_)
  refine oK 1 [6] Z Z ?_
  have e:dM Rl (bw key) t a0 a15 v15:=by simp [dM, *]
  exact xC 0 Tryz.results54 Z Z cB ⟨a15,v15,_,e,rfl,⟨_,_,_,_,rfl,rfl⟩,rfl⟩ aY (cn 0 1 Z Z)
 refine rR 7 Z (zK Z (fun h16=>?_) (fun h16=>?_))
 ·refine rO 3 Z (zC vR Z Z ?_)
  refine zA (zG 2 eJ Z Z Z Z ?_)
  refine oK 3 [20,6,5,4] Z Z (zK Z (fun h20=>?_) (fun h20=>?_))
  ·refine rO 3 Z (zG 1 o4 Z Z Z Z ?_)
   refine zA (zL 2 Z cB Z Z ?_)
   refine zA ?_
   refine pB (pre:=[_,_,_]) Z Z Z (hf t ba _ a0 _ h0) Z (cn 2 3 Z Z) (fun u23 M23 D23 hv23=>?_)
   obtain⟨a23,v23,D23,hR23,hO23,rfl,⟨A23,c23,B23,d23,rfl,rfl⟩,rfl⟩:=hv23
   refine zA (zF 0 (M':=HA.blk _ [_,_,_,_,_] _::_) Z Z Z Z cN Z Z Z ?_)
   refine zY ?_
   have e:dM Rl (bw key) t a0 a23 v23:=by simp [dM, *]
   exact xC 0 Tryz.results54 Z Z cB ⟨a23,v23,_,e,rfl,⟨_,_,_,_,rfl,rfl⟩,rfl⟩ aY (cn 0 1 Z Z)
  refine rO 5 Z (zL 2 Z cB Z Z ?_)
  refine zA (zF 0 (M':=HA.blk _ [_,_,_,_,_] _::_) Z Z Z Z cN Z Z Z ?_)
  refine zY ?_
  have e:dM Rl (bw key) t a0 a0 t:=by simp [dM, *]
  exact xC 0 Tryz.results54 Z Z cB ⟨a0,t,_,e,rfl,⟨_,_,_,_,rfl,rfl⟩,rfl⟩ aY (cn 2 3 Z Z)
 refine rK 7 [24,10,7,6,5,4] Z Z (zK Z (fun h24=>?_) (fun h24=>?_))
 ·refine rO 4 Z (zC vR Z Z ?_)
  refine zA (zG 2 eJ Z Z Z Z ?_)
  refine oR 3 Z (zK Z (fun h28=>?_) (fun h28=>?_))
  ·refine rO 3 Z (zG 1 o4 Z Z Z Z ?_)
   refine zA (zL 2 Z cB Z Z ?_)
   refine zA ?_
   refine pB (pre:=[_,_,_]) Z Z Z (hf t ba _ a0 _ h0) Z (cn 2 3 Z Z) (fun u31 M31 D31 hv31=>?_)
   obtain⟨a31,v31,D31,hR31,hO31,rfl,⟨A31,c31,B31,d31,rfl,rfl⟩,rfl⟩:=hv31
   refine zA (zF 0 (M':=HA.blk _ [_,_,_,_,_] _::_) Z Z Z Z cN Z Z Z ?_)
   refine oK 1 [6] Z Z ?_
   have e:dM Rl (bw key) t a0 a31 v31:=by simp [dM, *]
   exact xC 0 Tryz.results54 Z Z cB ⟨a31,v31,_,e,rfl,⟨_,_,_,_,rfl,rfl⟩,rfl⟩ aY (cn 0 1 Z Z)
  refine rS 5 Z (oa (HE.perm (.cons _ (List.Perm.swap _ _ _))) ?_)
  refine zA ?_
  refine pB (pre:=[_]) Z Z Z (Gw hOk t f fst cap hkl hil (fun own ho hk5=>hf own ba) b4 b5 _ _ _ _ a0 (hOk _ _ h0)) Z (cn 2 3 Z Z) (fun u33 M33 D33 hv33=>?_)
  obtain⟨a33,v33,D33,hR33,rfl,⟨A33,c33,B33,d33,rfl,rfl⟩,rfl⟩:=hv33
  refine zA (zF 0 (M':=HA.blk _ [_,_,_,_,_] _::_) Z Z Z Z cN Z Z Z ?_)
  refine oK 1 [6] Z Z ?_
  have e:dM Rl (bw key) t a0 a33 v33:=by simp [dM, *]
  exact xC 0 Tryz.results54 Z Z cB ⟨a33,v33,_,e,rfl,⟨_,_,_,_,rfl,rfl⟩,rfl⟩ aY (cn 0 1 Z Z)
 refine rR 8 Z (wS Z (fun h34=>?_) (fun h34=>?_))
 ·refine rS 6 Z (oa (HE.perm (.cons _ (List.Perm.swap _ _ _))) ?_)
  refine zA ?_
  refine pB (pre:=[_]) Z Z Z (Gw hOk t f fst cap hkl hil (fun own ho hk5=>hf own ba) b4 b5 _ _ _ _ a0 (hOk _ _ h0)) Z (cn 2 3 Z Z) (fun u38 M38 D38 hv38=>?_)
  obtain⟨a38,v38,D38,hR38,rfl,⟨A38,c38,B38,d38,rfl,rfl⟩,rfl⟩:=hv38
  refine zA (zF 0 (M':=HA.blk _ [_,_,_,_,_] _::_) Z Z Z Z cN Z Z Z ?_)
  refine oK 1 [6] Z Z ?_
  have e:dM Rl (bw key) t a0 a38 v38:=by simp [dM, *]
  exact xC 0 Tryz.results54 Z Z cB ⟨a38,v38,_,e,rfl,⟨_,_,_,_,rfl,rfl⟩,rfl⟩ aY (cn 0 1 Z Z)
 refine rR 6 Z (zK Z (fun h34_1=>?_) (fun h34_1=>?_))
 ·refine rS 4 Z (oa (HE.perm (.cons _ (List.Perm.swap _ _ _))) ?_)
  refine zA ?_
  refine pB (pre:=[_]) Z Z Z (Gw hOk t f fst cap hkl hil (fun own ho hk5=>hf own ba) b4 b5 _ _ _ _ a0 (hOk _ _ h0)) Z (cn 2 3 Z Z) (fun u38 M38 D38 hv38=>?_)
  obtain⟨a38,v38,D38,hR38,rfl,⟨A38,c38,B38,d38,rfl,rfl⟩,rfl⟩:=hv38
  refine zA (zF 0 (M':=HA.blk _ [_,_,_,_,_] _::_) Z Z Z Z cN Z Z Z ?_)
  refine oK 1 [6] Z Z ?_
  have e:dM Rl (bw key) t a0 a38 v38:=by simp [dM, *]
  exact xC 0 Tryz.results54 Z Z cB ⟨a38,v38,_,e,rfl,⟨_,_,_,_,rfl,rfl⟩,rfl⟩ aY (cn 0 1 Z Z)
 refine rO 5 Z (zL 2 Z cB Z Z ?_)
 refine zA (zF 0 (M':=HA.blk _ [_,_,_,_,_] _::_) Z Z Z Z cN Z Z Z ?_)
 refine oK 1 [6] Z Z ?_
 have e:dM Rl (bw key) t a0 a0 t:=by simp [dM, *]
 exact xC 0 Tryz.results54 Z Z cB ⟨a0,t,_,e,rfl,⟨_,_,_,_,rfl,rfl⟩,rfl⟩ aY (cn 2 3 Z Z)
abbrev KS:=Option Addr×Nat×List Value×List V
def XK(b:Nat)(a:KS):List HA:=[.blk b [.slice a.1 a.2.2.2.length a.2.1] 23, .row a.1 a.2.2.2.length a.2.1 25 5 a.2.2.1]
def DK(a:KS):DA:= .its a.2.2.1 a.2.2.2
def Jy(k:Nat)(a:KS):Prop:=a.2.2.2.length+k≤1000000
def Jz(own:V)(a a':KS)(v:V):Prop:=a'.2.2.2=a.2.2.2++[own]∧v=own
theorem M5(k:Nat)(a:KS)(h:Jy (k+1) a):Jy k a:=by unfold Jy at*;omega
theorem JG{a0 a:KS}{l l':List V}(h:FoldR Jz a0 l a l'):a.2.2.2=a0.2.2.2++l.filter (fun x=>decide (x.kind=5)):=by
  induction h with
  |nil=>simp
  |pos h hk hr ih=>rw [hr.1,ih,List.filter_append];simp [hk]
  |neg h hk ih=>rw [ih,List.filter_append];simp [hk]
theorem JH{sh:Int}{t:V}{a a':KS}{v:V}(h:dM Jz sh t a a' v):a'.2.2.2=a.2.2.2++kidsOf sh t:=by
 have al:CN Jz t a a' v→a'.2.2.2=a.2.2.2++t.items.filter (fun x=>decide (x.kind=5)):=fun⟨ts,h,_⟩=>JG h
 unfold dM at h
 unfold kidsOf
 split at h
 ·rename_i h5;rw [if_pos h5];exact h.1
 rename_i h5;rw [if_neg h5]
 split at h
 ·rename_i h6
  rw [if_pos h6]
  split at h
  ·rename_i hk;rw [if_pos hk];exact h.1
  ·rename_i hk;rw [if_neg hk,h.1];simp
 rename_i h6;rw [if_neg h6]
 split at h
 ·rename_i h7
  rw [if_pos h7]
  split at h
  ·rename_i hk;rw [if_pos hk];exact h.1
  ·rename_i hk;rw [if_neg hk];exact al h
 rename_i h7;rw [if_neg h7]
 split at h
 ·rename_i h9;rw [if_pos h9];exact al h
 ·rename_i h9;rw [if_neg h9,h.1];simp
theorem LE(b3:Nat)(own:V):Gv (XK b3) DK Jy Jz 112 #[] #[cD b3] own:=by
 intro k a x hO
 obtain⟨A,ca,xs,out⟩:=a
 have hO:out.length+(k+1)≤1000000:=hO
 change Ct Tryz.prog 112 #[x,cD b3] [.blk b3 [.slice A out.length ca] 23, .row A out.length ca 25 5 xs] [.val x own, .its xs out] _
 refine Ct.of_run (args:=[x,cD b3]) Tryz.func112 aF Z Tryz.ntmps112 Z (fun c=>?_)
 refine xB 0 Z (fun A1 c1 A2 c2 hx hsz hk1 hk2 hi1 hi2=>?_)
 subst hx
 refine rO 3 Z (yN Z Z Z (fun b2=>?_))
 refine zA (zT cl Z (fun b3=>?_))
 change bu _ _ _ _ _ _ _ _ (HA.blk _ [_,_,_,_,_] _::_) _
 refine oR 2 Z (yX yI ?_)
 refine tM 0 Z br (xD 2 dK Z Z Z) (tM 1 Z br (uR 1 Z cB Z) ?_)
 refine tM 2 Z br (gA cV Z) (zN 3 aD ?_)
 refine zP (I2:=[[2,1,0]]) Z br aD (fun Kd hKd=>?_)
 refine zM cV Z Z Z Z Z (fun b7=>?_)
 refine hKd _ _ _ (uL aY sQ (zQ)) (zN 4 aD ?_)
 refine zP (I2:=[[]]) Z br aD (fun Kd hKd=>?_)
 refine cO 4 0 cV (fun A8 c8=>?_)
 refine hKd _ _ _ (zE (zQ)) (tE (zB 4 Z (zO _)) ?_)
 refine wE (zB 4 Z (zO _)) 5 (yS _ _ _ _) Z br aD aD aD Z (ui 0 cV Z Z Z aC) (tR (rs:=[6,7]) aD aJ ?_)
 intro j hj
 simp only [List.mem_cons,List.not_mem_nil,or_false]at hj
 rcases hj with rfl|rfl
 ·refine zP (I2:=[[],[]]) Z br aD (fun Kd hKd=>?_)
  refine kL 4 Z Z Z Z Z Z cN Z (hKd _ _ _ (zE (zE (zQ))) ?_)
  refine zN 7 aD ?_
  refine zP (I2:=[[],[]]) Z br aD (fun Kd hKd=>?_)
  refine zF 3 (M':=[_,_,_,HA.blk _ [_] _,_]) Z Z Z Z fu Z Z Z (hKd _ _ _ (zE (zE (zQ))) ?_)
  refine yG aD (rO 3 Z ?_)
  refine zL 2 Z cB Z Z (zA ?_)
  refine zF 1 (M':=[_,HA.blk _ [_,_,_,_,_] _,_,_,_]) Z Z Z Z cN Z Z Z (oK 1 [3] Z Z ?_)
  refine vA 3 2 Z Z Z ?_
  have e:out.length+1=(out++[own]).length:=by simp
  rw [e]
  exact xC 1 Tryz.results112 Z Z cB ⟨(A8,c8,_,out++[own]),own,_,⟨rfl,rfl⟩,(by show(out++[own]).length+k≤_;rw [←e];omega),rfl,⟨_,_,_,_,rfl,rfl⟩,rfl⟩ aY (cn 3 0 Z Z)
 refine zP (I2:=[[5],[]]) Z br aD (fun Kd hKd=>?_)
 refine zF 3 (M':=[_,_,_,HA.blk _ [_] _,_]) Z Z Z Z fu Z Z Z ?_
 refine hKd _ _ _ (uA (by repeat (first|exact wQ _|exact zO _|refine zB 0 Z ?_|refine zB 1 Z ?_|refine zB 2 Z ?_|refine zB 3 Z ?_|refine zB 4 Z ?_|refine zB 5 Z ?_|refine zB 6 Z ?_|refine zB 7 Z ?_|refine zB 8 Z ?_|refine rT ?_)) sQ (zE (zQ))) ?_
 refine zN 6 aD ?_
 refine zP (I2:=[[],[]]) Z br aD (fun Kd hKd=>?_)
 refine kL 4 Z Z Z Z Z Z cN Z (hKd _ _ _ (zE (zE (zQ))) ?_)
 refine yG aD (rO 3 Z ?_)
 refine zL 2 Z cB Z Z (zA ?_)
 refine zF 1 (M':=[_,HA.blk _ [_,_,_,_,_] _,_,_,_]) Z Z Z Z cN Z Z Z (oK 1 [3] Z Z ?_)
 refine vA 3 2 Z Z Z ?_
 have e:out.length+1=(out++[own]).length:=by simp
 rw [e]
 exact xC 1 Tryz.results112 Z Z cB ⟨(A8,c8,_,out++[own]),own,_,⟨rfl,rfl⟩,(by show(out++[own]).length+k≤_;rw [←e];omega),rfl,⟨_,_,_,_,rfl,rfl⟩,rfl⟩ aY (cn 3 0 Z Z)
def gS(v:V)(i:Nat):List V:=((v.keys.zip v.items).take i).flatMap (fun p=>kidsOf (bw p.1) p.2)
theorem kO{v:V}{i:Nat}(h1:i<v.keys.length)(h2:i<v.items.length):gS v (i+1)=gS v i++kidsOf (bw v.keys[i]) v.items[i]:=by
 unfold gS
 rw [List.take_add_one,(by rw [List.getElem?_zip_eq_some];exact⟨List.getElem?_eq_getElem h1,List.getElem?_eq_getElem h2⟩:(v.keys.zip v.items)[i]? =some (v.keys[i],v.items[i])),List.flatMap_append]
 simp
theorem mN{v:V}{i:Nat}(h:v.keys.length≤i):gS v i=kidsV v:=by
 unfold gS kidsV
 rw [List.take_of_length_le (by rw [List.length_zip];omega)]
theorem un(sh:Int)(x:V):(kidsOf sh x).length≤x.items.length+1:=by
 have:=List.length_filter_le (fun x:V=>decide (x.kind=5)) x.items
 unfold kidsOf
 (repeat' split)<;>simp<;>omega
theorem mO{v:V}(hp:Pl v)(i:Nat)(h1:i≤v.keys.length)(h2:v.keys.length≤v.items.length):(gS v i).length≤61*i:=by
  induction i with
  |zero=>simp [gS]
  |succ i ih=>
    rw [kO aC aC,List.length_append]
    have:=ih aC
    have h3:=un (bw (v.keys[i]'aC)) (v.items[i]'aC)
    have h4:=(hp.item _ (List.getElem_mem (by omega:i<v.items.length))).len
    omega
theorem tO{z:V}{key:ByteArray}(h:z.keys.length≤z.items.length):(0≤dL z.keys key)↔(getV z key).isSome=true:=by
 rcases qX z.keys key with h1|⟨i,h1,h2⟩
 ·rw [km aC,h1];simp
 ·rw [fM h1 aC,h1];simp
theorem CO{p:V→Prop}{v:V}(h:p v): ¬ cu (fun z=> ¬ p z) v:=fun hd=>((vN _ _).1 hd).1 h
theorem CP{p:V→Prop}{v z:V}(hz:z∈kidsV v)(h: ¬ cu (fun z=> ¬ p z) z): ¬ cu (fun z=> ¬ p z) v:=fun hd=>h (((vN _ _).1 hd).2 z hz)
theorem Lu(v:V)(x:Value)(hp:Pl v):CtR Tryz.prog 69 #[x] [.val x v] (fun u D'=> ∃A c,u= .slice A (kidsV v).length c∧D'=[.vals u (kidsV v)]):=by
 refine Ct.of_run (args:=[x]) Tryz.func69 aF Z Tryz.ntmps69 Z (fun c=>?_)
 refine xB 0 Z (fun A1 c1 A2 c2 hx hsz hk1 hk2 hi1 hi2=>?_)
 subst hx
 unfold maxLen at hi2 hk2
 have hw:=hp.wf
 have hkl:=hw.kl
 have hil:=hw.il
 have hlen:=hw.le
 have h60:=hp.len
 refine rO 3 Z (yN Z Z Z (fun b1=>?_))
 refine oO 6 Z (uF cV Z (fun b6=>?_))
 refine zA (zT J5 Z (fun b3=>?_))
 change bu _ _ _ _ _ _ _ _ (HA.blk _ [_] _::_) _
 refine zA (zF 0 (M':=[HA.blk _ [_] _,_,_]) Z Z Z Z fu Z Z Z ?_)
 refine oO 5 Z (zC xT Z Z ?_)
 refine zA (zG 2 dH Z Z Z Z ?_)
 refine zA (zX cG Z Z ?_)
 refine oK 4 [10,9,8,3,1] Z Z (qD ?_)
 refine yR 1 (fun(⟨i,A,ca,xs,out⟩:Nat×Option Addr×Nat×List Value×List V)=>i≤v.keys.length∧out=gS v i) (fun(⟨i,A,ca,xs,out⟩:Nat×Option Addr×Nat×List Value×List V)=>[(10, .int .i64 ((i:Nat):Int))]) (fun(⟨i,A,ca,xs,out⟩:Nat×Option Addr×Nat×List Value×List V)=>HA.blk b3 [.slice A out.length ca] 23::HA.row A out.length ca 25 5 xs::HA.blk b1 [.int .i64 v.kind, .int .i64 v.num, .string v.text, .slice A1 v.keys.length c1, .slice A2 v.items.length c2] 25::[]) (fun(⟨i,A,ca,xs,out⟩:Nat×Option Addr×Nat×List Value×List V)=> .its xs out:: .strs (.slice A1 v.keys.length c1) v.keys:: .vals (.slice A2 v.items.length c2) v.items:: .val (.agg #[.int .i64 v.kind, .int .i64 v.num, .string v.text, .slice A1 v.keys.length c1, .slice A2 v.items.length c2]) v::[]) (fun(⟨i,A,ca,xs,out⟩:Nat×Option Addr×Nat×List Value×List V)=>v.keys.length - i) (0,some ⟨b6,0,none⟩,0,[],[]) (⟨Nat.zero_le _,rfl⟩) (eC Z (eN _)) Z Z ?_ (eC Z (eC Z (eC Z (eC Z (eN _)))))
 intro ⟨i,A,ca,xs,out⟩ hI K hK
 change Run _ _ _ _ _ [(10,_),(9,_),(8,_),(3,_),(1,_)] [_,_,_] [_,_,_,_]
 obtain⟨hi,ho⟩:=hI
 have hol:out.length≤61*i:=by rw [ho];exact mO hp i hi hlen
 refine rO 3 Z (yK Z Z Z ?_)
 refine oR 2 Z (zK Z (fun h11=>?_) (fun h11=>?_))
 ·refine rO 8 Z (wA 1 cG Z Z Z Z h11 ?_)
  have hlt:i<v.items.length:=by omega
  refine zA (yE cv Z Z (fun _ h=>xK h (j:=1) Z (List.getElem?_eq_getElem h11)) ?_)
  refine oO 9 Z (zC xG Z Z ?_)
  refine zA (zG 2 dK Z Z Z Z ?_)
  refine oO 3 Z (wM 2 cV Z Z Z Z hlt ?_)
  refine zA (wJ 2 cB Z Z Z (List.getElem?_eq_getElem hlt) (fun A20 c20 B20 d20=>?_))
  refine zA (rZ Z Z Z ?_)
  refine zA ?_
  have hpi:=hp.item _ (List.getElem_mem hlt)
  have hli:=hpi.len
  refine rA (M1:=[_,_]) Z Z Z (Gx M5 (v.keys[i]'h11) (v.items[i]'hlt) _ 112 #[] #[cD b3] hpi.wf.kl hpi.wf.il (fun own _=>LE b3 own) (A,ca,xs,out) (by show out.length+_≤1000000;omega)) Z (cn 0 1 Z Z) (fun u22 M22 D22 hv22=>?_)
  obtain⟨⟨A22,ca22,xs22,out22⟩,v22,D22,hT,rfl,⟨A23,c23,B23,d23,rfl,rfl⟩,rfl⟩:=hv22
  have hout:out22=out++kidsOf (bw v.keys[i]) v.items[i]:=JH hT
  refine oK 1 [10,9,8,3,1] Z Z (rO 3 Z ?_)
  refine yD Z Z aC (oR 3 Z ?_)
  exact kQ (hK (i+1,A22,ca22,xs22,out22) (⟨by show i+1≤_;omega,by rw [hout,ho,kO h11 hlt]⟩) (by show v.keys.length - (i+1)<v.keys.length - i;omega)) (eC Z (eC Z (eC Z (eC Z (eC Z (eN _)))))) (hD:=(by intro d hd;refine(List.mem_cons.1 hd).elim (fun e=>e▸ac) (fun hd=>?_);repeat (first|exact hd|apply List.mem_cons_of_mem)))
 obtain rfl:i=v.keys.length:=by omega
 have hov:out=kidsV v:=by rw [ho];exact mN (Nat.le_refl _)
 refine rO 4 Z (zG 0 dK Z Z Z Z ?_)
 refine oR 3 Z (rM 1 0 out Z Z aG Z ?_)
 subst hov
 exact zD Tryz.results69 Z ⟨rfl,A,ca,rfl,rfl⟩ nS (cC 0 Z)
theorem LF(f:FuncId)(p:V→Prop)(hf: ∀ z,Pl z→ ∀ y,dP Tryz.prog f #[y] [.val y z] (.bool (tb (p z))))(v:V):Pl v→ ∀ x,dP Tryz.prog 70 #[x, .func (.func f) #[] #[]] [.val x v] (.bool (tb (¬ cu (fun z=> ¬ p z) v))):=by
 refine V.indS (p:=fun v=>Pl v→ ∀ x,dP Tryz.prog 70 #[x, .func (.func f) #[] #[]] [.val x v] (.bool (tb (¬ cu (fun z=> ¬ p z) v)))) ?_ v
 intro v IH hp x
 refine Ct.of_run (args:=[x, .func (.func f) #[] #[]]) Tryz.func70 aF Z Tryz.ntmps70 Z (fun c=>?_)
 refine xB 0 Z (fun A1 c1 A2 c2 hx hsz hk1 hk2 hi1 hi2=>?_)
 subst hx
 unfold maxLen at hi2 hk2
 refine rO 3 Z (yN Z Z Z (fun b2=>?_))
 refine oO 9 Z (zL 0 Z cB Z Z ?_)
 refine zA (zJ Z Z Z (hf v hp _) (cC 2 Z) ?_)
 refine zY (zU Z (fun h9=>?_) (fun h9=>?_))
 ·refine rR 5 Z ?_
  exact zD Tryz.results70 Z ⟨congrArg Value.bool (tb_t (CO (yP.1 h9))).symm,rfl,rfl⟩ nS (fun _ h=>by cases h)
 refine rO 5 Z (zL 0 Z cB Z Z ?_)
 refine zA (zW Z Z Z (Lu v _ hp) (cC 2 Z) (fun u11 D11 hv11=>?_))
 obtain⟨A11,c11,rfl,rfl⟩:=hv11
 refine zA (zX cV Z Z ?_)
 refine oK 4 [13,12,11,1] Z Z ?_
 refine uQ (p:=(kidsV v).length≤9223372036854775807) (fun w ok h=>by obtain⟨A,c,hv,h1,h2,_⟩:ValsP w ok (.slice A11 (kidsV v).length c11) (kidsV v):=dget h 0 rfl;unfold maxLen at h2;omega) (fun hkm=>?_)
 refine xF 1 (fun(i:Nat)=>i≤(kidsV v).length∧ ∀ j z,(kidsV v)[j]? =some z→j<i→cu (fun z=> ¬ p z) z) (fun(i:Nat)=>[(13, .int .i64 ((i:Nat):Int))]) (fun(i:Nat)=>(kidsV v).length - i) 0 (⟨Nat.zero_le _,fun _ _ _ h=>absurd h aC⟩) (eC Z (eN _)) ?_ (eC Z (eC Z (eC Z (eN _))))
 intro i hI K hK
 change Run _ _ _ _ _ [(13,_),(12,_),(11,_),(1,_)] _ _
 obtain⟨hi,hno⟩:=hI
 refine rO 3 Z (yK Z Z Z ?_)
 refine oR 2 Z (zK Z (fun h14=>?_) (fun h14=>?_))
 ·refine rO 6 Z ?_
  have hzm:=List.getElem_mem h14
  refine wM 0 cV Z Z Z Z h14 (zA ?_)
  refine wJ 0 cB Z Z Z (List.getElem?_eq_getElem h14) (fun A16 c16 B16 d16=>?_)
  refine zA (zT cl Z (fun b6=>?_))
  change bu _ _ _ _ _ _ _ _ (HA.blk _ [_,_,_,_,_] _::_) _
  refine zA (zF 0 (M':=[HA.blk _ [_,_,_,_,_] _,_]) Z Z Z Z cN Z Z Z ?_)
  refine oO 4 Z (zL 0 Z cB Z Z ?_)
  refine oO 3 Z (zJ Z Z Z (IH _ (wP hzm) (vD hp hzm) _) (cC 0 Z) ?_)
  refine zY (zU Z (fun h19=>?_) (fun h19=>?_))
  ·refine rK 5 [4] Z Z ?_
   exact zD Tryz.results70 Z ⟨congrArg Value.bool (tb_t (CP hzm (yP.1 h19))).symm,rfl,rfl⟩ nS (fun _ h=>by cases h)
  refine rO 4 Z (yD Z Z aC ?_)
  refine oR 3 Z ?_
  exact kQ (hK (i+1) (⟨aC,pY hno h14 (Classical.not_not.1 (wD.1 h19))⟩) aC)
 refine rR 6 Z ?_
 exact zD Tryz.results70 Z ⟨congrArg Value.bool (tb_f (fun hn=>hn ((vN _ _).2 ⟨wD.1 h9,vn aC hno⟩))).symm,rfl,rfl⟩ nS (fun _ h=>by cases h)
def FW(b:UInt8):Prop:=(97≤b.toNat∧b.toNat≤122)∨(65≤b.toNat∧b.toNat≤90)∨(48≤b.toNat∧b.toNat≤57)
def od(s:ByteArray):Prop:=(∀ j (h:j<s.size),FW s[j])∧s≠⟨#[]⟩
theorem oe{p:UInt8→Prop}{s:ByteArray}{i:Nat}(h: ∀ j (h:j<s.size),j<i→p s[j])(hi:i<s.size)(h0:p s[i]): ∀ j (h:j<s.size),j<i+1→p s[j]:=fun j hj hlt=>by
  rcases Nat.lt_or_ge j i with h1|h1
  · exact h j hj h1
  · have:j=i:=by omega
    subst this
    exact h0

theorem c113(s:ByteArray)(hs:s.size≤maxLen):dP Tryz.prog 113 #[.string s] [] (.bool (tb (od s))):=by
 refine Ct.of_run (args:=[.string s]) Tryz.func113 aF Z Tryz.ntmps113 Z (fun c=>?_)
 unfold maxLen at hs
 refine rK 12 [3,0] Z Z ?_
 refine xF 1 (fun(i:Nat)=>i≤s.size∧ ∀ j (h:j<s.size),j<i→FW s[j]) (fun(i:Nat)=>[(3, .int .i64 ((i:Nat):Int))]) (fun(i:Nat)=>s.size - i) 0 (⟨aC,fun _ _ h=>absurd h aC⟩) (eC Z (eN _)) ?_ (eC Z (eN _))
 intro i hI K hK
 change Run _ _ _ _ _ [(3,_),(0,_)] _ _
 obtain⟨hi,hno⟩:=hI
 refine rO 8 Z (xS eA Z Z ?_)
 refine zA (yK Z Z Z ?_)
 refine zY (zK Z (fun h8=>?_) (fun h8=>?_))
 ·refine rO 10 Z (uD eA Z Z Z aC ?_)
  refine oO 8 Z (wX Z Z Z ?_)
  refine oS 2 Z (yC (s:=16) Z (fun h16=>?_) (fun h16=>?_))
  ·refine oO 9 Z (wX Z Z Z ?_)
   refine oS 2 Z (yC (s:=23) Z (fun h23=>?_) (fun h23=>?_))
   ·refine oO 11 Z (wX Z Z Z ?_)
    refine oS 2 Z (yC (s:=31) Z (fun h31=>?_) (fun h31=>?_))
    ·refine oK 7 [35,3,0] Z Z (rR 6 Z ?_)
     exact zD Tryz.results113 Z ⟨yB aM,rfl,rfl⟩ nS (fun _ h=>by cases h)
    refine oO 3 Z (wU Z Z Z ?_)
    refine oK 5 [35,3,0] Z Z (zU Z (fun h35=>?_) (fun h35=>?_))
    ·refine rR 5 Z ?_
     exact zD Tryz.results113 Z ⟨yB aM,rfl,rfl⟩ nS (fun _ h=>by cases h)
    refine rO 6 Z (yD Z Z aC ?_)
    refine oR 3 Z ?_
    exact kQ (hK (i+1) (⟨aC,oe hno (hi:=h8) aU⟩) aC)
   refine oO 3 Z (wU Z Z Z ?_)
   refine oS 6 Z (yC (s:=28) Z (fun h28=>?_) (fun h28=>?_))
   ·refine oO 3 Z (wX Z Z Z ?_)
    refine oS 2 Z (yC (s:=31) Z (fun h31=>?_) (fun h31=>?_))
    ·refine oK 7 [35,3,0] Z Z (rR 6 Z ?_)
     exact zD Tryz.results113 Z ⟨yB aM,rfl,rfl⟩ nS (fun _ h=>by cases h)
    refine oO 3 Z (wU Z Z Z ?_)
    refine oK 5 [35,3,0] Z Z (zU Z (fun h35=>?_) (fun h35=>?_))
    ·refine rR 5 Z ?_
     exact zD Tryz.results113 Z ⟨yB aM,rfl,rfl⟩ nS (fun _ h=>by cases h)
    refine rO 6 Z (yD Z Z aC ?_)
    refine oR 3 Z ?_
    exact kQ (hK (i+1) (⟨aC,oe hno (hi:=h8) aU⟩) aC)
   refine oS 3 Z (xE Z Z Z ?_)
   refine xE Z Z Z (oK 4 [35,3,0] Z Z ?_)
   refine rO 7 Z (yD Z Z aC ?_)
   refine oR 3 Z ?_
   exact kQ (hK (i+1) (⟨aC,oe hno (hi:=h8) aU⟩) aC)
  refine oO 3 Z (wU Z Z Z ?_)
  refine oS 4 Z (yC (s:=20) Z (fun h20=>?_) (fun h20=>?_))
  ·refine oO 3 Z (wX Z Z Z ?_)
   refine oS 2 Z (yC (s:=23) Z (fun h23=>?_) (fun h23=>?_))
   ·refine oO 11 Z (wX Z Z Z ?_)
    refine oS 2 Z (yC (s:=31) Z (fun h31=>?_) (fun h31=>?_))
    ·refine oK 7 [35,3,0] Z Z (rR 6 Z ?_)
     exact zD Tryz.results113 Z ⟨yB aM,rfl,rfl⟩ nS (fun _ h=>by cases h)
    refine oO 3 Z (wU Z Z Z ?_)
    refine oK 5 [35,3,0] Z Z (zU Z (fun h35=>?_) (fun h35=>?_))
    ·refine rR 5 Z ?_
     exact zD Tryz.results113 Z ⟨yB aM,rfl,rfl⟩ nS (fun _ h=>by cases h)
    refine rO 6 Z (yD Z Z aC ?_)
    refine oR 3 Z ?_
    exact kQ (hK (i+1) (⟨aC,oe hno (hi:=h8) aU⟩) aC)
   refine oO 3 Z (wU Z Z Z ?_)
   refine oS 6 Z (yC (s:=28) Z (fun h28=>?_) (fun h28=>?_))
   ·refine oO 3 Z (wX Z Z Z ?_)
    refine oS 2 Z (yC (s:=31) Z (fun h31=>?_) (fun h31=>?_))
    ·refine oK 7 [35,3,0] Z Z (rR 6 Z ?_)
     exact zD Tryz.results113 Z ⟨yB aM,rfl,rfl⟩ nS (fun _ h=>by cases h)
    refine oO 3 Z (wU Z Z Z ?_)
    refine oK 5 [35,3,0] Z Z (zU Z (fun h35=>?_) (fun h35=>?_))
    ·refine rR 5 Z ?_
     exact zD Tryz.results113 Z ⟨yB aM,rfl,rfl⟩ nS (fun _ h=>by cases h)
    refine rO 6 Z (yD Z Z aC ?_)
    refine oR 3 Z ?_
    exact kQ (hK (i+1) (⟨aC,oe hno (hi:=h8) aU⟩) aC)
   refine oS 3 Z (xE Z Z Z ?_)
   refine xE Z Z Z (oK 4 [35,3,0] Z Z ?_)
   refine rO 7 Z (yD Z Z aC ?_)
   refine oR 3 Z ?_
   exact kQ (hK (i+1) (⟨aC,oe hno (hi:=h8) aU⟩) aC)
  refine oS 3 Z (xE Z Z Z ?_)
  refine xE Z Z Z (oS 8 Z ?_)
  refine xE Z Z Z (xE Z Z Z ?_)
  refine oK 4 [35,3,0] Z Z (rO 7 Z ?_)
  refine yD Z Z aC (oR 3 Z ?_)
  exact kQ (hK (i+1) (⟨aC,oe hno (hi:=h8) aU⟩) aC)
 refine rO 6 Z (vb Z Z Z ?_)
 refine oR 3 Z ?_
 exact zD Tryz.results113 Z ⟨yB (by simp only [decide_eq_true_eq,od];exact⟨fun h=>⟨fun j hj=>hno j hj aC,h⟩,fun h=>h.2⟩),rfl,rfl⟩ nS (fun _ h=>by cases h)
end Go.Jw

namespace Go.Jw
open Go Go.RowKit
abbrev kHash:ByteArray:=⟨#[35]⟩
abbrev Lw:ByteArray:=⟨#[47]⟩
abbrev kDefs:ByteArray:=⟨#[100,101,102,105,110,105,116,105,111,110,115]⟩
abbrev kProps:ByteArray:=⟨#[112,114,111,112,101,114,116,105,101,115]⟩
def zz(base part:ByteArray):ByteArray:=base++Lw++part++Lw
def mY(ref base part:ByteArray):ByteArray:=ref.extract (zz base part).size ref.size
def Gy(ref base part:ByteArray):Prop:=(zz base part).size<ref.size∧ref.extract 0 (zz base part).size=zz base part∧od (mY ref base part)
def mP(id:ByteArray):List (ByteArray×ByteArray):=[(kHash,kDefs),(kHash,kProps),(id,kDefs),(id,kProps)]
noncomputable def eF(v:V):ByteArray:=((getV v kId).getD zV).text
noncomputable def dd(id ref:ByteArray):Option (ByteArray×ByteArray):=(mP id).find? (fun p=>tb (Gy ref p.1 p.2))
noncomputable def og(id ref:ByteArray):Value:=match dd id ref with
  |some p=> .tuple #[.string p.2, .string (mY ref p.1 p.2), .bool true]
  |none=> .tuple #[.string ⟨#[]⟩, .string ⟨#[]⟩, .bool false]
theorem CQ{id base part:ByteArray}{i j:Nat}(hb:[kHash,id][i]? =some base)(hp:[kDefs,kProps][j]? =some part):(mP id)[2*i+j]? =some (base,part)∧i<2∧j<2:=by
  match i,j,hb,hp with
  |0,0,hb,hp=>cases hb;cases hp;exact⟨rfl,aC,aC⟩
  |0,1,hb,hp=>cases hb;cases hp;exact⟨rfl,aC,aC⟩
  |1,0,hb,hp=>cases hb;cases hp;exact⟨rfl,aC,aC⟩
  |1,1,hb,hp=>cases hb;cases hp;exact⟨rfl,aC,aC⟩
  |_+2,_,hb,hp=>simp at hb
  |0,_+2,hb,hp=>simp at hp
  |1,_+2,hb,hp=>simp at hp
def NoHead(id ref:ByteArray)(m:Nat):Prop:= ∀ q,q<m→ ∀ p,(mP id)[q]? =some p→ ¬ Gy ref p.1 p.2
theorem NoHead.zero(id ref:ByteArray):NoHead id ref 0:=fun q hq=>absurd hq (Nat.not_lt_zero _)
theorem NoHead.step{id ref:ByteArray}{m:Nat}{p:ByteArray×ByteArray}(h:NoHead id ref m)(hp:(mP id)[m]? =some p)(hn: ¬ Gy ref p.1 p.2):NoHead id ref (m+1):=fun q hq p' hp'=>by
  rcases Nat.lt_or_ge q m with h1|h1
  · exact h q h1 p' hp'
  · have:q=m:=by omega
    subst this
    rw [hp]at hp'
    cases hp'
    exact hn
theorem mQ{α:Type}{p:α→Bool}: ∀ {l:List α} {m:Nat} {x:α},(∀ q,q<m→ ∀ y,l[q]? =some y→p y=false)→l[m]? =some x→p x=true→l.find? p=some x
  |[],m,x,_,h,_=>by simp at h
  |y::l,0,x,_,h,hx=>by
    have:y=x:=by simpa using h
    subst this
    simp [hx]
  |y::l,m+1,x,hno,h,hx=>by
    have hy:p y=false:=hno 0 (Nat.succ_pos _) y rfl
    rw [List.find?_cons,hy]
    exact mQ (m:=m) (fun q hq z hz=>hno (q+1) (Nat.succ_lt_succ hq) z (by simpa using hz)) bm hx
theorem zi{id ref:ByteArray}{m:Nat}{p:ByteArray×ByteArray}(h:NoHead id ref m)(hp:(mP id)[m]? =some p)(hm:Gy ref p.1 p.2):dd id ref=some p:=
 mQ (fun q hq y hy=>tb_f (h q hq y hy)) hp (tb_t hm)
theorem zj{id ref:ByteArray}(h:NoHead id ref 4):dd id ref=none:=by
 unfold dd
 rw [List.find?_eq_none]
 intro p hp
 obtain⟨q,hq⟩:=List.getElem?_of_mem hp
 have hlt:q<4:=by
  have:=(List.getElem?_eq_some_iff.1 hq).1
  simpa [mP]using this
 rw [tb_f (h q hlt p hq)]
 decide
end Go.Jw

namespace Go.Jw
open Go Go.RowKit Go.Proofs
set_option maxRecDepth 8000
section rules
variable {P:Program} {n:Nat} {F:List Nat} {c:Ctx F} {ops:Array Oper} {d:Option Tmp} {op:Op} {T:TypeId} {l:List Oper} {k:List KI} {Q:Post} {e:cp} {M:List HA} {D:List DA}
theorem nV(i:Nat){b:Nat}{s t:ByteArray}{E:TypeId}(hi:M[i]? =some (.blk b [.string s, .string t] E))(hF:F=[])(h1:s.size≤maxLen)(h2:t.size≤maxLen)(next:bu P n c ops l k Q e (M.eraseIdx i) (.strs (.slice (some ⟨b,0,none⟩) 2 2) [s,t]::D)):bu P n c ops l k Q e M D:=
  iI (h:= .blk b [.string s, .string t] E) [.strs (.slice (some ⟨b,0,none⟩) 2 2) [s,t]] (fun x _ h=>by rw [hF]at h;cases h) (vH hi) (fun w ok h hok hD d hd=>by
    rcases List.mem_singleton.1 hd with rfl
    refine⟨some ⟨b,0,none⟩,2,rfl,Nat.le_refl _,by decide,fun x hx=>?_,fun q x hx=>⟨⟨b,0,none⟩,rfl,hok _ bf,?_⟩⟩
    · rcases List.mem_cons.1 hx with rfl|hx
      · exact h1
      · rw [List.mem_singleton.1 hx];exact h2
    · rw [wV,uO h,Nat.zero_add,Nat.mul_one]
      match q,hx with
      |0,hx=>cases hx;rfl
      |1,hx=>cases hx;rfl
      |_+2,hx=>simp at hx) next
end rules
theorem lG{v:V}(h:Pl v):v.text.size≤200:=by
  obtain⟨d,h⟩:=h
  have h0:(⟨#[]⟩:ByteArray).size≤200:=by decide
  have key:dA v.kind v.num v.text v.keys v.items→v.text.size≤200:=fun h=>by
    rcases h.2.2 with h|h|h|h|h
    · rw [h.2.2];exact h0
    · rw [h.2.2];exact h0
    · rw [h.2.2.2];exact h0
    · rw [h.2.2.2.2];exact h0
    · exact h.2.2.2
  cases d with
  |zero=>exact key h
  |succ d=>
    rcases h with h|h
    · exact key h
    · rw [h.1.2.1];exact h0
theorem w4{v:V}(hp:Pl v):((getV v kId).getD zV).text.size≤200:=by
  cases hg:getV v kId with
  |none=>show zV.text.size≤200;decide
  |some a=>exact lG (hp.item _ (uG hg))

theorem xa{α:Type}{a b x:α}{i:Nat}(h:[a,b][i]? =some x):x=a∨x=b:=by have:=List.mem_of_getElem? h;simpa using this
theorem M6(v:V)(x:Value)(ref:ByteArray)(hp:Pl v)(hrf:ref.size≤maxLen):dP Tryz.prog 72 #[x, .string ref] [.val x v] (og (eF v) ref):=by
 refine Ct.of_run (args:=[x, .string ref]) Tryz.func72 aF Z Tryz.ntmps72 Z (fun c=>?_)
 refine xB 0 Z (fun A1 c1 A2 c2 hx hsz1 hk1 hk2 hi1 hi2=>?_)
 subst hx
 have hlen:=hp.wf.le
 unfold maxLen at hrf
 refine rO 3 Z (yN Z Z Z (fun b2=>?_))
 refine oO 10 Z (zL 0 Z cB Z Z ?_)
 refine zA ?_
 refine zW Z Z Z (y9 _ v kId hlen) aA (fun u16 D16 hv16=>?_)
 obtain⟨idv,hidv⟩: ∃z,z=(getV v kId).getD zV:=⟨_,rfl⟩
 rw [←hidv]at hv16
 obtain⟨_,rfl,A16,m16,B16,d16,rfl,rfl⟩:=hv16
 refine oO 7 Z (zT cl Z (fun b7=>?_))
 change bu _ _ _ _ _ _ _ _ (HA.blk _ [_,_,_,_,_] _::_) _
 refine zA (zF 0 (M':=[HA.blk _ [_,_,_,_,_] _,_]) Z Z Z Z cN Z Z Z ?_)
 refine oK 3 [7,1] Z Z (rO 4 Z ?_)
 refine zC sH Z Z (zA ?_)
 refine zG 0 cv Z Z Z Z (zA ?_)
 have hidz:idv.text.size≤200:=hidv▸w4 hp
 refine rF cG Z Z Z Z Z (fun b21=>?_)
 refine nV 0 Z Z aE bT (zA ?_)
 refine zX cG Z Z (oK 4 [23,22,21,1] Z Z ?_)
 refine xF 1 (fun(i:Nat)=>i≤2∧NoHead idv.text ref (2*i)) (fun(i:Nat)=>[(23, .int .i64 ((i:Nat):Int))]) (fun(i:Nat)=>2 - i) 0 (⟨aC,NoHead.zero _ _⟩) (eC Z (eN _)) ?_ (eC Z (eC Z (eC Z (eN _))))
 intro i hI K hK
 change Run _ _ _ _ _ [(23,_),(22,_),(21,_),(1,_)] _ _
 obtain⟨hi,hno⟩:=hI
 refine rO 3 Z (yK Z Z Z ?_)
 refine oR 2 Z (zK Z (fun h24=>?_) (fun h24=>?_))
 ·refine rO 6 Z ?_
  obtain⟨base,hb⟩: ∃base,[kHash,idv.text][i]? =some base:=⟨_,List.getElem?_eq_getElem (show i<[kHash,idv.text].length from h24)⟩
  have hbz:base.size≤200:=(xa hb).elim (fun e=>e▸by decide) (fun e=>e▸hidz)
  refine wA 0 cG Z Z Z Z h24 (zA ?_)
  refine yE cv Z Z (fun _ h=>xK h (j:=0) Z hb) (oO 6 Z ?_)
  refine rF cG Z Z Z Z Z (fun b27=>?_)
  refine nV 0 Z Z aE aE (zA ?_)
  refine zX cG Z Z (oK 4 [29,28,27,10,23,22,21,1] Z Z ?_)
  refine xF 1 (fun(j:Nat)=>j≤2∧NoHead idv.text ref (2*i+j)) (fun(j:Nat)=>[(29, .int .i64 ((j:Nat):Int))]) (fun(j:Nat)=>2 - j) 0 (⟨aC,hno⟩) (eC Z (eN _)) ?_ (eC Z (eC Z (eC Z (eC Z (eC Z (eC Z (eC Z (eN _))))))))
  intro j hI K hK1
  change Run _ _ _ _ _ [(29,_),(28,_),(27,_),(10,_),(23,_),(22,_),(21,_),(1,_)] _ _
  obtain⟨hj,hnoj⟩:=hI
  refine rO 3 Z (yK Z Z Z ?_)
  refine oR 2 Z (zK Z (fun h30=>?_) (fun h30=>?_))
  ·refine rO 6 Z ?_
   obtain⟨part,hpt⟩: ∃part,[kDefs,kProps][j]? =some part:=⟨_,List.getElem?_eq_getElem (show j<[kDefs,kProps].length from h30)⟩
   obtain⟨hh,_,_⟩:=CQ hb hpt
   have hpz:part.size≤11:=(xa hpt).elim (fun e=>e▸by decide) (fun e=>e▸by decide)
   refine wA 0 cG Z Z Z Z h30 (zA ?_)
   refine yE cv Z Z (fun _ h=>xK h (j:=0) Z hpt) (oO 8 Z ?_)
   refine iX Z Z Z (by show base.size+1≤_;omega) (oO 3 Z ?_)
   refine iX Z Z Z (by rw [ByteArray.size_append];show base.size+1+part.size≤_;omega) (zA ?_)
   refine iX Z Z Z (by rw [ByteArray.size_append,ByteArray.size_append];show base.size+1+part.size+1≤_;omega) (oK 3 [13,12,29,28,27,10,23,22,21,1] Z Z ?_)
   refine rO 5 Z (xS eA Z Z ?_)
   refine oO 3 Z (xS eA Z Z ?_)
   refine zA (DF Z Z Z ?_)
   refine oS 2 Z (yC (s:=43) Z (fun h43=>?_) (fun h43=>?_))
   ·refine oO 5 Z (xS eA Z Z ?_)
    refine zI Z Z (iA eA Z Z Z aC ?_)
    refine oS 8 Z (yC (s:=51) Z (fun h51=>?_) (fun h51=>?_))
    ·refine oO 5 Z (xS eA Z Z ?_)
     refine zI Z Z (pP eA Z Z Z aC ?_)
     refine zI Z Z (zJ Z Z Z (c113 _ (by rw [ByteArray.size_extract];unfold maxLen;omega)) cF ?_)
     refine oK 3 [57,13,12,29,28,27,10,23,22,21,1] Z Z (zU Z (fun h57=>?_) (fun h57=>?_))
     ·refine xJ (yX yI ?_)
      refine zS (tP 0 Z br (zZ Z) ?_)
      refine tP 1 Z br (zZ Z) (tP 2 Z br (zZ Z) ?_)
      refine tP 5 Z br (yZ Z) (yH ?_)
      refine tM 3 Z br (xp eA Z) (tM 4 Z br (mc eA Z Z aC) ?_)
      refine zS (tP 6 Z br (yZ Z) ?_)
      refine tP 7 Z br (yZ Z) (yG aD ?_)
      refine rK 0 [6,5,4] Z Z ?_
      exact pU Tryz.results72 Z Z Z ⟨by unfold og eF;rw [←hidv,zi hnoj hh ⟨(by unfold zz;omega),h51,yP.1 h57⟩];rfl,rfl,rfl⟩ nS (fun _ h=>by cases h)
     refine rO 4 Z (yD Z Z aC ?_)
     refine oR 3 Z ?_
     exact kQ (hK1 (j+1) (⟨aC,hnoj.step hh (fun hm=>Bool.noConfusion ((tb_t hm.2.2).symm.trans h57))⟩) aC)
    refine oK 8 [57,13,12,29,28,27,10,23,22,21,1] Z Z (rO 5 Z ?_)
    refine yD Z Z aC (oR 3 Z ?_)
    exact kQ (hK1 (j+1) (⟨aC,hnoj.step hh (fun hm=>h51 hm.2.1)⟩) aC)
   refine oK 18 [57,13,12,29,28,27,10,23,22,21,1] Z Z (rO 5 Z ?_)
   refine yD Z Z aC (oR 3 Z ?_)
   exact kQ (hK1 (j+1) (⟨aC,hnoj.step hh (fun hm=>absurd hm.1 (by unfold zz;omega))⟩) aC)
  refine rO 4 Z (yD Z Z aC ?_)
  refine oR 3 Z ?_
  exact kQ (hK (i+1) (⟨aC,(by have e:j=2:=aC;subst e;exact hnoj)⟩) aC)
 refine rR 10 Z ?_
 obtain rfl:i=2:=by omega
 exact pU Tryz.results72 Z Z Z ⟨by unfold og eF;rw [←hidv,zj hno],rfl,rfl⟩ nS (fun _ h=>by cases h)
theorem LG(v:V)(x:Value)(ref:ByteArray)(hp:Pl v)(hrf:ref.size≤maxLen):CtR Tryz.prog 72 #[x, .string ref] [.val x v] (fun u D'=> ∃part nm ok,u= .tuple #[.string part, .string nm, .bool ok]∧D'=[]∧(ok=true→ ∃p,dd (eF v) ref=some p∧part=p.2∧nm=mY ref p.1 p.2)∧(ok=false→dd (eF v) ref=none)):=
  (M6 v x ref hp hrf).mono (fun u M' D' ⟨h1,h2,h3⟩=>⟨h2,by
    subst h1
    unfold og
    cases hh:dd (eF v) ref with
    |none=>exact⟨_,_,false,rfl,h3,fun h=>Bool.noConfusion h,fun _=>rfl⟩
    |some p=>exact⟨_,_,true,rfl,h3,fun _=>⟨p,rfl,rfl,rfl⟩,fun h=>Bool.noConfusion h⟩⟩)
noncomputable def PtV(v:V)(ref:ByteArray):Option V:=(dd (eF v) ref).bind fun p=>(getV v p.2).bind fun all=>getV all (mY ref p.1 p.2)
theorem JI(key:ByteArray):getV zV key=none:=by
  cases h:getV zV key with
  |none=>rfl
  |some a=>have:=uG h;cases this
theorem M7(v:V)(x:Value)(ref:ByteArray)(hp:Pl v)(hrf:ref.size≤maxLen):CtR Tryz.prog 35 #[x, .string ref] [.val x v] (fun u D'=> ∃y,u= .tuple #[y, .bool (PtV v ref).isSome]∧RV ((PtV v ref).getD zV) y D'):=by
 refine Ct.of_run (args:=[x, .string ref]) Tryz.func35 aF Z Tryz.ntmps35 Z (fun c=>?_)
 refine xB 0 Z (fun A1 c1 A2 c2 hx hsz1 hk1 hk2 hi1 hi2=>?_)
 subst hx
 have hlen:=hp.wf.le
 refine rO 3 Z (yN Z Z Z (fun b2=>?_))
 refine zA (zT cl Z (fun b4=>?_))
 change bu _ _ _ _ _ _ _ _ (HA.blk _ [_,_,_,_,_] _::_) _
 refine oO 6 Z (zL 1 Z cB Z Z ?_)
 refine oO 3 Z ?_
 refine zW Z Z Z (LG v _ ref hp hrf) aA (fun u14 D14 hv14=>?_)
 obtain⟨part,nm,ok,rfl,rfl,hyes,hnone⟩:=hv14
 refine oK 15 [8,7,6,4,2] Z Z (rR 8 Z ?_)
 refine zU Z (fun h19=>?_) (fun h19=>?_)
 ·refine rO 3 Z (yY Z Z (xt ..) ?_)
  refine zA (zF 0 (M':=[HA.blk _ [_,_,_,_,_] _,_]) Z Z Z Z cN Z Z Z ?_)
  refine oR 3 Z ?_
  have hpt:PtV v ref=none:=by unfold PtV;rw [hnone (by simpa using h19)];rfl
  refine yW (M':=[HA.blk b4 [_,_,_,_,_] 25]) (by repeat (first|exact zO _|refine zB 0 Z ?_|refine zB 1 Z ?_|refine zB 2 Z ?_|refine zB 3 Z ?_|refine zB 4 Z ?_)) ?_
  refine yO (.val (.agg #[.int .i64 0, .int .i64 0, .string ⟨#[]⟩, .slice none 0 0, .slice none 0 0]) zV) (fun w ok _=>gD w ok) ?_
  exact wK 0 Tryz.results35 Z Z Z cB ⟨rfl, .agg #[.int .i64 0, .int .i64 0, .string ⟨#[]⟩, .slice none 0 0, .slice none 0 0],by rw [hpt];rfl,by rw [hpt];exact⟨none,0,none,0,rfl,rfl⟩⟩ nS (cC 0 Z)
 refine rO 4 Z (zL 1 Z cB Z Z ?_)
 refine oO 3 Z ?_
 refine zW Z Z Z (y9 _ v part hlen) aA (fun u24 D24 hv24=>?_)
 obtain⟨all,hall⟩: ∃z,z=(getV v part).getD zV:=⟨_,rfl⟩
 have hal:all.keys.length≤all.items.length:=by
  cases hg:getV v part with
  |none=>rw [hall,hg];exact Nat.le_refl _
  |some a=>rw [hall,hg];exact(hp.item _ (uG hg)).wf.le
 rw [←hall]at hv24
 obtain⟨_,rfl,A24,m24,B24,d24,rfl,rfl⟩:=hv24
 refine oO 7 Z (zT cl Z (fun b9=>?_))
 change bu _ _ _ _ _ _ _ _ (HA.blk _ [_,_,_,_,_] _::_) _
 refine zA (zF 0 (M':=[HA.blk _ [_,_,_,_,_] _,_,_]) Z Z Z Z cN Z Z Z ?_)
 refine oK 3 [9,7,4] Z Z (rO 3 Z ?_)
 refine zL 0 Z cB Z Z (oO 3 Z ?_)
 refine zW Z Z Z (y9 _ all nm hal) aA (fun u29 D29 hv29=>?_)
 obtain⟨_,rfl,A29,m29,B29,d29,rfl,rfl⟩:=hv29
 refine oO 5 Z (zF 1 (M':=[_,HA.blk _ [_,_,_,_,_] _,_]) Z Z Z Z cN Z Z Z ?_)
 refine oR 3 Z ?_
 obtain⟨p,hp1,rfl,rfl⟩:=hyes (by simpa using h19)
 have hpt:PtV v ref=getV all (mY ref p.1 p.2):=by
  unfold PtV
  rw [hp1]
  show(getV v p.2).bind (fun a=>getV a _)=_
  cases hg:getV v p.2 with
  |none=>rw [hall,hg];exact(JI _).symm
  |some a=>rw [hall,hg];rfl
 refine yW (M':=[HA.blk b4 [_,_,_,_,_] 25]) (by repeat (first|exact zO _|refine zB 0 Z ?_|refine zB 1 Z ?_|refine zB 2 Z ?_|refine zB 3 Z ?_|refine zB 4 Z ?_)) ?_
 exact wK 0 Tryz.results35 Z Z Z cB ⟨rfl, .agg #[.int .i64 ((getV all (mY ref p.1 p.2)).getD zV).kind, .int .i64 ((getV all (mY ref p.1 p.2)).getD zV).num, .string ((getV all (mY ref p.1 p.2)).getD zV).text, .slice A29 ((getV all (mY ref p.1 p.2)).getD zV).keys.length m29, .slice B29 ((getV all (mY ref p.1 p.2)).getD zV).items.length d29],by rw [hpt];rfl,by rw [hpt];exact⟨A29,m29,B29,d29,rfl,rfl⟩⟩ nS aA
abbrev uo(z:V):Prop:=(getV z kId).isSome=true∨(getV z k1).isSome=true
def IsRootV(v:V):Prop:=2≤(eF v).size∧(∀ h:(eF v).size - 1<(eF v).size,(eF v)[(eF v).size - 1]=35)∧(∀ j (h:j<(eF v).size),j<(eF v).size - 1→(eF v)[j]≠35)∧ ∀ z∈kidsV v,cu (fun z=> ¬ uo z) z
theorem J0(b:UInt8)(m:Nat)(hm:m<256):(((b.toNat:Nat):Int)=(m:Nat))↔b=UInt8.ofNat m:=by
 constructor
 ·intro h
  have h1:b.toNat=m:=by omega
  rw [←h1]
  simp
 ·intro h
  subst h
  simp only [UInt8.toNat_ofNat']
  omega
theorem stepK{p:V→Prop}{l:List V}{i:Nat}{z:V}(h: ∀ j z,j<i→l[j]? =some z→p z)(hz:l[i]? =some z)(hd:p z): ∀ j z,j<i+1→l[j]? =some z→p z:=fun j z2 hj hz2=>by
  rcases Nat.lt_or_ge j i with h1|h1
  · exact h j z2 h1 hz2
  · have e:j=i:=by omega
    subst e
    rw [hz]at hz2
    cases hz2
    exact hd

theorem M8(z:V)(hp:Pl z)(y:Value):dP Tryz.prog 71 #[y] [.val y z] (.bool (tb (uo z))):=by
 refine Ct.of_run (args:=[y]) Tryz.func71 aF Z Tryz.ntmps71 Z (fun c=>?_)
 refine xB 0 Z (fun A1 c1 A2 c2 hx hsz hk1 hk2 hi1 hi2=>?_)
 subst hx
 have hle:=hp.wf.le
 refine rO 3 Z (yN Z Z Z (fun b1=>?_))
 refine oO 6 Z (zL 0 Z cB Z Z ?_)
 refine zA (zJ Z Z Z (C7 _ z _) (cC 2 Z) ?_)
 refine zA (tY Z Z Z ?_)
 refine oS 2 Z (yC (s:=6) Z (fun h6=>?_) (fun h6=>?_))
 ·refine oK 8 [2] Z Z ?_
  exact zD Tryz.results71 Z ⟨congrArg Value.bool (tb_t (p:=uo z) (.inl ((tO hle).1 (by simpa [kId]using h6)))).symm,rfl,rfl⟩ nS (fun _ h=>by cases h)
 refine zI Z Z (zL 0 Z cB Z Z ?_)
 refine zI Z Z (zJ Z Z Z (C7 _ z _) (cC 2 Z) ?_)
 refine zI Z Z (tY Z Z Z ?_)
 refine oK 5 [2] Z Z ?_
 exact zD Tryz.results71 Z ⟨congrArg Value.bool (lO (by rw [decide_eq_true_iff];unfold uo;rw [←tO hle,←tO hle];exact⟨fun h=> .inr h,fun h=>h.resolve_left (by simpa [kId]using h6)⟩)),rfl,rfl⟩ nS (fun _ h=>by cases h)
theorem c33(v:V)(x:Value)(hp:Pl v):dP Tryz.prog 33 #[x] [.val x v] (.bool (tb (IsRootV v))):=by
 refine Ct.of_run (args:=[x]) Tryz.func33 aF Z Tryz.ntmps33 Z (fun c=>?_)
 refine xB 0 Z (fun A1 c1 A2 c2 hx hsz1 hk1 hk2 hi1 hi2=>?_)
 subst hx
 have hlen:=hp.wf.le
 have hkz:(kidsV v).length≤61000000:=by have h1:=mO hp v.keys.length (Nat.le_refl _) hlen;rw [mN (Nat.le_refl _)]at h1;have:=hp.wf.kl;omega
 refine rO 3 Z (yN Z Z Z (fun b1=>?_))
 refine oO 6 Z (zL 0 Z cB Z Z ?_)
 refine zA ?_
 refine zW Z Z Z (y9 _ v kId hlen) aA (fun u11 D11 hv11=>?_)
 obtain⟨idv,hidv⟩: ∃z,z=(getV v kId).getD zV:=⟨_,rfl⟩
 have hid:eF v=idv.text:=by unfold eF;rw [hidv]
 rw [←hidv]at hv11
 obtain⟨_,rfl,A11,m11,B11,d11,rfl,rfl⟩:=hv11
 refine oO 7 Z (zT cl Z (fun b3=>?_))
 change bu _ _ _ _ _ _ _ _ (HA.blk _ [_,_,_,_,_] _::_) _
 refine zA (zF 0 (M':=[HA.blk _ [_,_,_,_,_] _,_]) Z Z Z Z cN Z Z Z ?_)
 refine oO 6 Z (zC sH Z Z ?_)
 refine zA (zG 0 cv Z Z Z Z ?_)
 refine zA ?_
 have hidz:idv.text.size≤200:=hidv▸w4 hp
 refine xS eA Z Z (oK 3 [5,3,1] Z Z ?_)
 refine rO 6 Z (wX Z Z Z ?_)
 refine oS 2 Z (yC (s:=19) Z (fun h19=>?_) (fun h19=>?_))
 ·refine oK 9 [26,5,3,1] Z Z (rR 6 Z ?_)
  exact zD Tryz.results33 Z ⟨congrArg Value.bool (tb_f (p:=IsRootV v) (fun hc=>by have:=hc.1;rw [hid]at this;omega)).symm,rfl,rfl⟩ nS (fun _ h=>by cases h)
 refine zI Z Z (zC sH Z Z ?_)
 refine zI Z Z (zG 0 cv Z Z Z Z ?_)
 refine oO 3 Z (xP (s:=((idv.text.size - 1:Nat):Int)) Z Z Z aC aC aC ?_)
 refine zI Z Z (uD eA Z Z Z aC ?_)
 refine zI Z Z (tX Z Z Z ?_)
 refine oK 3 [26,5,3,1] Z Z (zU Z (fun h26=>?_) (fun h26=>?_))
 ·refine rR 5 Z ?_
  exact zD Tryz.results33 Z ⟨congrArg Value.bool (tb_f (p:=IsRootV v) (fun hc=>by have h1:=hc.2.1;rw [hid]at h1;have h2:=h1 aC;simp only [decide_eq_true_eq,decide_eq_false_iff_not,ne_eq,Decidable.not_not]at*;exact h26 ((J0 _ 35 aC).2 h2))).symm,rfl,rfl⟩ nS (fun _ h=>by cases h)
 have h2:2≤idv.text.size:=by omega
 have hlast: ∀ h:idv.text.size - 1<idv.text.size,idv.text[idv.text.size - 1]=35:=fun h=>(J0 _ 35 aC).1 (by simpa using h26)
 refine rK 8 [6,5,3,1] Z Z ?_
 refine xF 1 (fun(i:Nat)=>i≤idv.text.size∧ ∀ j (h:j<idv.text.size),j<i→idv.text[j]≠35) (fun(i:Nat)=>[(6, .int .i64 ((i:Nat):Int))]) (fun(i:Nat)=>idv.text.size - i) 0 (⟨aC,fun _ _ h=>absurd h aC⟩) (eC Z (eN _)) ?_ (eC Z (eC Z (eC Z (eN _))))
 intro i hI K hK
 change Run _ _ _ _ _ [(6,_),(5,_),(3,_),(1,_)] _ _
 obtain⟨hi,hno⟩:=hI
 refine rO 8 Z (xP (s:=((idv.text.size - 1:Nat):Int)) Z Z Z aC aC aC ?_)
 refine zA (yK Z Z Z ?_)
 refine zY (zK Z (fun h30=>?_) (fun h30=>?_))
 ·refine rO 6 Z (zC sH Z Z ?_)
  refine zA (zG 0 cv Z Z Z Z ?_)
  refine oO 3 Z (uD eA Z Z Z aC ?_)
  refine oR 3 Z (zK Z (fun h37=>?_) (fun h37=>?_))
  ·refine rK 5 [2] Z Z ?_
   exact zD Tryz.results33 Z ⟨congrArg Value.bool (tb_f (p:=IsRootV v) (fun hc=>by have h1:=hc.2.2.1;rw [hid]at h1;exact h1 i aC aC ((J0 _ 35 aC).1 h37))).symm,rfl,rfl⟩ nS (fun _ h=>by cases h)
  refine rO 6 Z (yD Z Z aC ?_)
  refine oK 3 [6,5,3,1] Z Z ?_
  exact kQ (hK (i+1) (⟨aC,oe (p:=fun b=>b≠35) hno (hi:=by omega) (fun e=>h37 ((J0 _ 35 aC).2 e))⟩) aC) (eC Z (eC Z (eC Z (eC Z (eN _)))))
 refine rO 5 Z (zL 1 Z cB Z Z ?_)
 refine zA ?_
 refine zW Z Z Z (Lu v _ hp) aA (fun u39 D39 hv39=>?_)
 obtain⟨A39,c39,rfl,rfl⟩:=hv39
 refine zA (zX cV Z Z ?_)
 refine oK 3 [41,40,39] Z Z (rK 1 [41,40,39] Z Z ?_)
 refine xF 1 (fun(i:Nat)=>i≤(kidsV v).length∧ ∀ j z,j<i→(kidsV v)[j]? =some z→cu (fun z=> ¬ uo z) z) (fun(i:Nat)=>[(41, .int .i64 ((i:Nat):Int))]) (fun(i:Nat)=>(kidsV v).length - i) 0 (⟨aC,fun _ _ h=>absurd h aC⟩) (eC Z (eN _)) ?_ (eC Z (eC Z (eN _)))
 intro i hI K hK1
 change Run _ _ _ _ _ [(41,_),(40,_),(39,_)] _ _
 obtain⟨hik,hnk⟩:=hI
 refine rO 3 Z (yK Z Z Z ?_)
 refine oR 2 Z (zK Z (fun h42=>?_) (fun h42=>?_))
 ·refine rO 6 Z (wM 0 cV Z Z Z Z aC ?_)
  refine zA ?_
  obtain⟨z,hz⟩: ∃z,(kidsV v)[i]? =some z:=⟨_,List.getElem?_eq_getElem h42⟩
  refine wJ 0 cB Z Z Z hz (fun A3 c3 A4 c4=>?_)
  refine zA (zT cl Z (fun b8=>?_))
  change bu _ _ _ _ _ _ _ _ (HA.blk _ [_,_,_,_,_] _::_) _
  refine zA (zF 0 (M':=[HA.blk _ [_,_,_,_,_] _,_,_]) Z Z Z Z cN Z Z Z ?_)
  refine oO 4 Z (zL 0 Z cB Z Z ?_)
  refine zA (zJ Z Z Z (LF 71 uo (fun z hz y=>M8 z hz y) z (vD hp (List.mem_of_getElem? hz)) _) aA ?_)
  refine zY (zU Z (fun h46=>?_) (fun h46=>?_))
  ·refine rK 5 [2] Z Z ?_
   exact zD Tryz.results33 Z ⟨congrArg Value.bool (tb_f (p:=IsRootV v) (fun hc=>by have h1:=hc.2.2.2 _ (List.mem_of_getElem? hz);exact(yP.1 h46) h1)).symm,rfl,rfl⟩ nS (fun _ h=>by cases h)
  refine rO 4 Z (yD Z Z aC ?_)
  refine oR 3 Z ?_
  exact kQ (hK1 (i+1) (⟨aC,stepK hnk hz (Classical.byContradiction fun hc=>by rw [tb_t (p:= ¬ cu (fun z=> ¬ uo z) z) hc]at h46;cases h46)⟩) aC)
 refine rR 6 Z ?_
 exact zD Tryz.results33 Z ⟨congrArg Value.bool (tb_t (p:=IsRootV v) ⟨by rw [hid];omega,by rw [hid];exact hlast,by rw [hid];exact fun j hj hlt=>hno j hj aC,fun z hz=>by obtain⟨j,hj⟩:=List.getElem?_of_mem hz;exact hnk j z (by have:=(List.getElem?_eq_some_iff.1 hj).1;omega) hj⟩).symm,rfl,rfl⟩ nS (fun _ h=>by cases h)
end Go.Jw

namespace Go.Jw
open Go Go.RowKit
abbrev bl(s:ByteArray):List UInt8:=s.data.toList
theorem oh{s t:ByteArray}(h:bl s=bl t):s=t:=by
 obtain⟨⟨a⟩⟩:=s
 obtain⟨⟨b⟩⟩:=t
 have:a=b:=h
 rw [this]
theorem qH(s:ByteArray):(bl s).length=s.size:=by
 show s.data.toList.length=s.data.size
 rw [Array.length_toList]
theorem fG(s t:ByteArray):bl (s++t)=bl s++bl t:=by
 show(s++t).data.toList=_
 rw [ByteArray.data_append,Array.toList_append]
theorem CS{l l':List ByteArray}(h:l.map bl=l'.map bl):l=l':=by
  induction l generalizing l' with
  |nil=>cases l' with
    |nil=>rfl
    |cons y l'=>cases h
  |cons x l ih=>cases l' with
    |nil=>cases h
    |cons y l'=>
      simp only [List.map_cons,List.cons.injEq]at h
      rw [oh h.1,ih h.2]
theorem sL(s:ByteArray)(i j:Nat):bl (s.extract i j)=((bl s).take j).drop i:=by simp [bl,List.drop_take]
theorem mR(s:ByteArray)(i:Nat)(h:i<s.size):(bl s)[i]? =some s[i]:=by
 have h2:i<s.data.size:=h
 simp only [bl]
 rw [Array.getElem?_toList,Array.getElem?_eq_getElem h2]
 rfl
inductive SplL (c:UInt8):List UInt8→List (List UInt8)→Prop
  |last {s:List UInt8} (h:c∉s):SplL c s [s]
  |cut {a b:List UInt8} {l:List (List UInt8)} (h:c∉a) (t:SplL c b l):SplL c (a++c::b) (a::l)
theorem xb{c:UInt8}: ∀ {a a' b b':List UInt8},c∉a→c∉a'→a++c::b=a'++c::b'→a=a'∧b=b'
  |[],[],b,b',_,_,h=>⟨rfl,by injection h⟩
  |[],x::a',b,b',_,h2,h=>by injection h with h _;subst h;exact absurd List.mem_cons_self h2
  |x::a,[],b,b',h1,_,h=>by injection h with h _;subst h;exact absurd List.mem_cons_self h1
  |x::a,y::a',b,b',h1,h2,h=>by
    injection h with h h'
    obtain⟨e1,e2⟩:=xb (fun hm=>h1 (List.mem_cons_of_mem _ hm)) (fun hm=>h2 (List.mem_cons_of_mem _ hm)) h'
    exact⟨by rw [h,e1],e2⟩
theorem SplL.no{c:UInt8}{s:List UInt8}{l:List (List UInt8)}(h:SplL c s l)(hn:c∉s):l=[s]:=by
  cases h with
  |last _=>rfl
  |cut h t=>exact absurd aJ hn
theorem SplL.at{c:UInt8}{a b:List UInt8}{l:List (List UInt8)}(h:SplL c (a++c::b) l)(hn:c∉a): ∃l',l=a::l'∧SplL c b l':=by
  generalize hs:a++c::b=s at h
  cases h with
  |last h=>exact absurd (by rw [←hs];simp) h
  |cut h t=>
    obtain⟨rfl,rfl⟩:=xb hn h hs
    exact⟨_,rfl,t⟩
def rp(c:UInt8)(s:ByteArray)(l:List ByteArray):Prop:=SplL c (bl s) (l.map bl)
theorem EP{c:UInt8}{s a b:ByteArray}{l:List ByteArray}(h:rp c s l)(hs:bl s=bl a++c::bl b)(ha:c∉bl a)(hb:c∉bl b):l=[a,b]:=by
 unfold rp at h
 rw [hs]at h
 obtain⟨l',h1,h2⟩:=h.at ha
 have h3:=h2.no hb
 subst h3
 exact CS (l':=[a,b]) h1
theorem zk{c:UInt8}{s a b d:ByteArray}{l:List ByteArray}(h:rp c s l)(hs:bl s=bl a++c::(bl b++c::bl d))(ha:c∉bl a)(hb:c∉bl b)(hd:c∉bl d):l=[a,b,d]:=by
 unfold rp at h
 rw [hs]at h
 obtain⟨l',h1,h2⟩:=h.at ha
 obtain⟨l2,rfl,h3⟩:=h2.at hb
 have h4:=h3.no hd
 subst h4
 exact CS (l':=[a,b,d]) h1
def SplK(c:UInt8)(s0:ByteArray)(acc:List ByteArray)(s:ByteArray):Prop:= ∀ l:List (List UInt8),SplL c (bl s) l→SplL c (bl s0) (acc.map bl++l)
theorem SplK.zero(c:UInt8)(s:ByteArray):SplK c s [] s:=fun l h=>h
theorem fZ{c:UInt8}{s:ByteArray}{i:Nat}(h: ∀ j (h:j<s.size),j<i→s[j]≠c):c∉(bl s).take i:=fun hm=>by
 obtain⟨j,hj⟩:=List.getElem?_of_mem hm
 rw [List.getElem?_take]at hj
 split at hj
 ·rename_i hlt
  have hs:j<s.size:=by
   have:=(List.getElem?_eq_some_iff.1 hj).1
   rwa [qH]at this
  rw [mR s j hs]at hj
  injection hj with hj
  exact h j hs hlt hj
 ·cases hj
theorem SplK.cut{c:UInt8}{s0 s:ByteArray}{acc:List ByteArray}{i:Nat}(h:SplK c s0 acc s)(hi:i<s.size)(hc:s[i]=c)(hno: ∀ j (h:j<s.size),j<i→s[j]≠c):SplK c s0 (acc++[s.extract 0 i]) (s.extract (i+1) s.size):=fun l hl=>by
  have e:bl s=bl (s.extract 0 i)++c::bl (s.extract (i+1) s.size):=by
    rw [sL,sL,List.drop_zero,←qH,List.take_length]
    have h1:(bl s)[i]'(by rw [qH];exact hi)=c:=by
      have:=mR s i hi
      rw [List.getElem?_eq_getElem (by rw [qH];exact hi)]at this
      injection this with this
    first|rw [←h1,List.getElem_cons_drop,List.take_append_drop]|rw [←h1,List.getElem_cons_drop]
  have h2:=h (bl (s.extract 0 i)::l) (by
    rw [e]
    refine SplL.cut ?_ hl
    rw [sL,List.drop_zero]
    exact fZ hno)
  simpa using h2
theorem SplK.done{c:UInt8}{s0 s:ByteArray}{acc:List ByteArray}(h:SplK c s0 acc s)(hno: ∀ j (h:j<s.size),s[j]≠c):rp c s0 (acc++[s]):=by
 have:=h [bl s] (SplL.last fun hm=>by
  have:=fZ (c:=c) (s:=s) (i:=s.size) (fun j hj _=>hno j hj)
  rw [←qH,List.take_length]at this
  exact this hm)
 unfold rp
 simpa using this
end Go.Jw

namespace Go.Jw
open Go Go.RowKit Go.Proofs
set_option maxRecDepth 8000
theorem xc{s:ByteArray}{c:UInt8}{i:Nat}(hi:i<s.size):s.extract i (i+1)=⟨#[c]⟩↔s[i]=c:=by
 have h1:bl (s.extract i (i+1))=[s[i]]:=by
  rw [sL]
  have hl:i<(bl s).length:=by rw [qH];exact hi
  have hg:(bl s)[i]=s[i]:=by
   have:=mR s i hi
   rw [List.getElem?_eq_getElem hl]at this
   injection this
  rw [List.drop_take,Nat.add_sub_cancel_left,List.drop_eq_getElem_cons hl,hg]
  rfl
 constructor
 ·intro h
  rw [h]at h1
  have:[c]=[s[i]]:=h1
  injection this with this
  exact this.symm
 ·intro h
  refine oh ?_
  rw [h1,h]
abbrev Lx(c0:UInt8)(s:ByteArray)(i:Nat)(s1:ByteArray)(n:Nat)(xs:List Value)(acc:List ByteArray):Prop:=i≤s1.size∧s1.size≤2147483648∧n=acc.length∧xs=acc.map Value.string∧SplK c0 s acc s1∧(∀ j (h:j<s1.size),j<i→s1[j]≠c0)∧n+s1.size≤2147483648∧ ∀ p∈acc,p.size≤maxLen

theorem EQ(s:ByteArray)(c0:UInt8)(hs:s.size≤2147483648):CtR Tryz.prog 168 #[.string s, .string ⟨#[c0]⟩] [] (fun u D'=> ∃A cap l,u= .slice A l.length cap∧D'=[.strs u l]∧rp c0 s l):=by
 refine Ct.of_run (args:=[.string s, .string ⟨#[c0]⟩]) Tryz.func168 aF Z Tryz.ntmps168 Z (fun c=>?_)
 refine rK 17 [0,5,6,1] Z Z (wZ 9 1 ?_)
 refine yR 3 (fun(⟨i,s1,n,A,ca,xs,acc⟩:Nat×ByteArray×Nat×Option Addr×Nat×List Value×List ByteArray)=>Lx c0 s i s1 n xs acc) (fun(⟨i,s1,n,A,ca,xs,acc⟩:Nat×ByteArray×Nat×Option Addr×Nat×List Value×List ByteArray)=>[(0, .string s1),(5, .slice A n ca),(6, .int .i64 ((i:Nat):Int))]) (fun(⟨i,s1,n,A,ca,xs,acc⟩:Nat×ByteArray×Nat×Option Addr×Nat×List Value×List ByteArray)=>HA.row A n ca 9 1 xs::[]) (fun(⟨i,s1,n,A,ca,xs,acc⟩:Nat×ByteArray×Nat×Option Addr×Nat×List Value×List ByteArray)=>([]:List DA)) (fun(⟨i,s1,n,A,ca,xs,acc⟩:Nat×ByteArray×Nat×Option Addr×Nat×List Value×List ByteArray)=>s1.size - i) (0,s,0,none,0,[],[]) (show Lx c0 s 0 s 0 [] []from⟨Nat.zero_le _,hs,rfl,rfl,SplK.zero _ _,fun j h hj=>absurd hj (Nat.not_lt_zero _),(by show 0+s.size≤_;omega),fun p hp=>(by cases hp)⟩) (eC Z (eC Z (eC Z (eN _)))) Z Z ?_ (eC Z (eN _))
 intro ⟨i,s1,n,A,ca,xs,acc⟩ hI K hK
 change Run _ _ _ _ _ [(0,_),(5,_),(6,_),(1,_)] [_] (([]:List DA))
 obtain⟨hi,hs1,hn,hxs,hK0,hno,hb,hsz⟩:=hI
 refine rO 8 Z (xS eA Z Z ?_)
 refine zA (xL (s:=((i+1:Nat):Int)) Z Z Z bF aC aC ?_)
 refine oO 3 Z (xS eA Z Z ?_)
 refine zA (f7 Z Z Z ?_)
 refine zY (zK Z (fun h13=>?_) (fun h13=>?_))
 ·have hlt:i<s1.size:=by omega
  refine rO 14 Z (xS eA Z Z ?_)
  refine zA (xL (s:=((i+1:Nat):Int)) Z Z Z bF aC aC ?_)
  refine zA (oz eA Z Z Z Z aC aC ?_)
  refine oK 5 [22,0,5,6,1] Z Z (zK Z (fun h22=>?_) (fun h22=>?_))
  ·have heq:s1[i]=c0:=(xc hlt).1 h22
   have hse:(s1.extract (i+1) s1.size).size=s1.size - (i+1):=by rw [ByteArray.size_extract];omega
   refine rO 9 Z (iA eA Z Z Z aC ?_)
   refine zA (zM cG Z Z Z Z Z (fun b27=>?_))
   refine zA ?_
   refine cO 1 0 cG (fun A28 c28=>?_)
   refine oO 12 Z (xS eA Z Z ?_)
   refine zA (xL (s:=((i+1:Nat):Int)) Z Z Z bF aC aC ?_)
   refine zA (pP eA Z Z Z aC ?_)
   refine oK 5 [6,0,5,1] Z Z (tB Z ?_)
   exact kQ (hK (0,s1.extract (i+1) s1.size,n+1,_,_,xs++[.string (s1.extract 0 i)],acc++[s1.extract 0 i]) (⟨Nat.zero_le _,(by rw [hse];omega),(by rw [List.length_append,←hn];rfl),(by rw [List.map_append,hxs];rfl),hK0.cut hlt heq hno,fun j h hj=>absurd hj (Nat.not_lt_zero _),(by rw [hse];omega),fun p hp=>(List.mem_append.1 hp).elim (hsz p) (fun e=>by rw [List.mem_singleton.1 e,ByteArray.size_extract];unfold maxLen;omega)⟩) (by first|(show s1.size - (i+1)<s1.size - i;omega)|(show(s1.extract (i+1) s1.size).size - 0<s1.size - i;rw [hse];omega))) (eC Z (eC Z (eC Z (eC Z (eN _))))) (hD:=(fun _ h=>by cases h))
  refine rO 5 Z (yD Z Z aC ?_)
  refine oR 4 Z ?_
  exact kQ (hK (i+1,s1,n,A,ca,xs,acc) (⟨aC,hs1,hn,hxs,hK0,oe (p:=fun b=>b≠c0) hno hlt (fun e=>h22 ((xc hlt).2 e)),hb,hsz⟩) (by first|(show s1.size - (i+1)<s1.size - i;omega)|(show(s1.extract (i+1) s1.size).size - 0<s1.size - i;rw [hse];omega))) (hD:=(fun _ h=>by cases h))
 have hie:i=s1.size:=by omega
 refine rO 8 Z (zM cG Z Z Z Z Z (fun b39=>?_))
 refine zA ?_
 refine cO 1 0 cG (fun A40 c40=>?_)
 refine oK 3 [4] Z Z (vI 1 (acc++[s1]) Z aG (by rw [hxs,List.map_append];rfl) (fun p hp=>(List.mem_append.1 hp).elim (hsz p) (fun e=>by rw [List.mem_singleton.1 e];unfold maxLen;omega)) ?_)
 exact zD Tryz.results168 Z ⟨rfl,_,_,acc++[s1],by rw [List.length_append,←hn];rfl,rfl,hK0.done (fun j hj=>hno j hj aC)⟩ nS (cC 0 Z)
end Go.Jw

namespace Go.Jw
open Go Go.RowKit
theorem CT{s:ByteArray}(h:od s){c:UInt8}(hc:c∈bl s):FW c:=by
 obtain⟨j,hj⟩:=List.getElem?_of_mem hc
 have hs:j<s.size:=by
  have:=(List.getElem?_eq_some_iff.1 hj).1
  rwa [qH]at this
 rw [mR s j hs]at hj
 injection hj with hj
 rw [←hj]
 exact h.1 j hs
theorem Gz{c:UInt8}(h:FW c):c≠35∧c≠47:=by
 constructor
 ·intro e;subst e;unfold FW at h;revert h;decide
 ·intro e;subst e;unfold FW at h;revert h;decide
theorem G3{ref base part:ByteArray}(h:Gy ref base part):bl ref=bl base++47::(bl part++47::bl (mY ref base part)):=by
 have h1:(bl ref).take (zz base part).size=bl (zz base part):=by
  have:=congrArg bl h.2.1
  rw [sL,List.drop_zero]at this
  exact this
 have h2:(bl ref).drop (zz base part).size=bl (mY ref base part):=by
  unfold mY
  rw [sL,←qH ref,List.take_length]
 have h3:bl (zz base part)=bl base++[47]++bl part++[47]:=by
  unfold zz
  rw [fG,fG,fG]
 rw [←List.take_append_drop (zz base part).size (bl ref),h1,h2,h3]
 simp
theorem zm{ref base part p0:ByteArray}(hm:Gy ref base part)(hb:bl base=bl p0++[35])(h0:(35:UInt8)∉bl p0)(hpt:part=kDefs∨part=kProps):
    ∃rest:ByteArray,(∀ l,rp 35 ref l→l=[p0,rest])∧(∀ l,rp 47 rest l→l=[⟨#[]⟩,part,mY ref base part])∧rest.size≤ref.size:=by
  have e:=G3 hm
  have hn: ∀ c∈bl (mY ref base part),c≠35∧c≠47:=fun c hc=>Gz (CT hm.2.2 hc)
  have hp: ∀ c∈bl part,c≠35∧c≠47:=by
    rcases hpt with rfl|rfl
    · decide
    · decide
  refine⟨⟨(47::(bl part++47::bl (mY ref base part))).toArray⟩,fun l hl=>?_,fun l hl=>?_,?_⟩
  · refine EP hl ?_ h0 ?_
    · rw [e,hb];simp
    · intro hc
      have hc':(35:UInt8)∈47::(bl part++47::bl (mY ref base part)):=by simpa using hc
      rcases List.mem_cons.1 hc' with h|h
      · revert h;decide
      · rcases List.mem_append.1 h with h|h
        · exact(hp _ h).1 Z
        · rcases List.mem_cons.1 h with h|h
          · revert h;decide
          · exact(hn _ h).1 Z
  · refine zk hl ?_ aE (fun h=>(hp _ h).2 Z) (fun h=>(hn _ h).2 Z)
    simp
  · have h1:=congrArg List.length e
    rw [qH]at h1
    have h2:(⟨(47::(bl part++47::bl (mY ref base part))).toArray⟩:ByteArray).size=(47::(bl part++47::bl (mY ref base part))).length:=by
      rw [←qH]
    rw [h2]
    simp only [List.length_append,List.length_cons]at h1⊢
    omega
def JJ(s:ByteArray):Prop:=2≤s.size∧(∀ h:s.size - 1<s.size,s[s.size - 1]=35)∧ ∀ j (h:j<s.size),j<s.size - 1→s[j]≠35
theorem uq{s:ByteArray}(h:JJ s):bl s=bl (s.extract 0 (s.size - 1))++[35]∧(35:UInt8)∉bl (s.extract 0 (s.size - 1)):=by
 obtain⟨h1,h2,h3⟩:=h
 have hlt:s.size - 1<s.size:=by omega
 rw [sL,List.drop_zero]
 refine⟨?_,fZ h3⟩
 have hg:(bl s)[s.size - 1]? =some 35:=by rw [mR s _ hlt,h2 hlt]
 have hl:(bl s).drop (s.size - 1)=[35]:=by
  have hlen:s.size - 1<(bl s).length:=by rw [qH];exact hlt
  rw [List.drop_eq_getElem_cons hlen]
  rw [List.getElem?_eq_getElem hlen]at hg
  injection hg with hg
  rw [hg,List.drop_eq_nil_of_le (by rw [qH];omega)]
 conv=>lhs;rw [←List.take_append_drop (s.size - 1) (bl s),hl]
theorem CU{p0 base:ByteArray}(h:bl base=bl p0++[35]):p0++kHash=base:=oh (by rw [fG,h])
end Go.Jw

