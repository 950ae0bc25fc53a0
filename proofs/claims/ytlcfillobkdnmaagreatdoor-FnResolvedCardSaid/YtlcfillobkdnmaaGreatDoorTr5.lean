/- Part 5 of the proof's texts, made small by a program. -/
import Derived.Test.YtlcfillobkdnmaaGreatDoorTr4
set_option linter.unusedVariables false
set_option linter.unusedSimpArgs false
set_option maxHeartbeats 4000000
namespace Go.Jw
open Go Go.RowKit Go.Proofs
set_option maxRecDepth 8000
open Go.Sort (SWO)
section rules
variable {P:Program} {n:Nat} {F:List Nat} {c:Ctx F} {ops:Array Oper} {d:Nat} {T:TypeId} {l:List Oper} {k:List KI} {Q:Post} {e:cg} {M:List HA} {D:List DA}
theorem gY(i:Nat){b:Nat}{cs:List Value}{U:TypeId}(hi:M[i]? =some (.blk b cs U))(hF:F=[])(next:bu P n c ops l k Q e (M.eraseIdx i) (.dblk b cs U::D)):bu P n c ops l k Q e M D:=
  gk (h:= .blk b cs U) [.dblk b cs U] (fun x _ h=>by rw [hF]at h;cases h) (vC hi) (fun w ok h hok hD d hd=>by
    rcases List.mem_singleton.1 hd with rfl
    exact⟨hok _ bf,h⟩) next
theorem nD(i:Nat){x y:Operand}{A:Option Addr}{m cap j:Nat}{kd:IntKind}{S E sz by_ U:Nat}{xs:List Value}(hS:cL P S E sz by_)(hd:Nat.blt d n=true)(hx:ev e x=some (.slice A m cap))(hy:ev e y=some (.int kd (j:Nat)))(hi:M[i]? =some (.row A m cap U 1 xs))(hj:j<m)
  (next:bu P n c ops l k Q ((d, .pointer (some (At A (j*sz))))::e) M D):b0 P n c ops (some d) (.indexAddr S x y) T l k Q e M D:=by
 intro a w hf
 obtain⟨_,_,h3⟩:=uS (hf.toFitsW.mem hi)
 have hl:xs.length=m:=by have:=(hf.toFitsW.mem hi:(HA.row A m cap U 1 xs).holds w).1;omega
 obtain⟨a',ha,_⟩:=h3 j xs[j] (List.getElem?_eq_getElem aC)
 subst ha
 exact wD hS hd hx hy hj next a w hf
end rules
abbrev s6(x:Nat):Value:=encN (2*x)
def vals(ys:List Y):List ByteArray:=ys.map Y.val
theorem qg(i:Nat):(List.range i).map s6++[s6 i]=(List.range (i+1)).map s6:=by rw [List.range_succ,List.map_append];rfl
theorem F6(n:Nat):(List.range n).map s6=((List.range n).map (2* ·)).map encN:=by rw [List.map_map];rfl
theorem oE{ks:List ByteArray}{us:List V}(hl:ks.length=us.length):(ks.zip (us.map dC)).length=us.length:=by rw [List.length_zip,List.length_map];omega
theorem vq{ks:List ByteArray}{us:List V}(hl:ks.length=us.length){i:Nat}(h:i<us.length):((ks.zip (us.map dC)).flatMap dm)[2*i]? =some (cK dB (ks.getD i ⟨#[]⟩)):=by
 rw [mn (by rw [oE hl];exact h),List.getElem_zip,uW aC]
theorem Db{ks:List ByteArray}{us:List V}(hl:ks.length=us.length){i:Nat}(h:i<us.length):((ks.zip (us.map dC)).flatMap dm)[2*i+1]? =some (dC (us[i])):=by
 rw [mo (by rw [oE hl];exact h),List.getElem_zip,List.getElem_map]
theorem F7{ks:List ByteArray}{us:List V}(hl:ks.length=us.length){ds:List Nat}(hp:ds.Perm ((List.range us.length).map (2* ·)))(hs:ds.Pairwise (fun x y=>CT (vals ((ks.zip (us.map dC)).flatMap dm)) y x=false)):
  ∃es:List Nat,es.Perm (List.range us.length)∧es.Pairwise (fun x y=>CT ks y x=false)∧ds.map encN=es.map s6:=by
 have hev: ∀ x∈ds,∃y,y<us.length∧x=2*y:=fun x hx=>by
  obtain⟨y,hy,rfl⟩:=List.mem_map.1 (hp.mem_iff.1 hx)
  exact⟨y,List.mem_range.1 hy,rfl⟩
 have hkey: ∀ y,y<us.length→(vals ((ks.zip (us.map dC)).flatMap dm)).getD (2*y) ⟨#[]⟩=ks.getD y ⟨#[]⟩:=fun y hy=>by
  unfold vals
  rw [List.getD_eq_getElem?_getD,List.getElem?_map,vq hl hy]
  rfl
 refine⟨ds.map (· /2),?_,?_,?_⟩
 ·have:=hp.map (· /2)
  rw [List.map_map]at this
  have e:((fun x=>x/2)∘fun x=>2*x)=(id:Nat→Nat):=by funext x;simp only [Function.comp,id];omega
  rwa [e,List.map_id]at this
 ·rw [List.pairwise_map]
  refine hs.imp_of_mem fun {x y} hx hy h=>?_
  obtain⟨a,ha,rfl⟩:=hev x hx
  obtain⟨b,hb,rfl⟩:=hev y hy
  unfold CT at h⊢
  rw [hkey a ha,hkey b hb]at h
  rw [show 2*a/2=a by omega,show 2*b/2=b by omega]
  exact h
 ·rw [List.map_map]
  refine List.map_congr_left fun x hx=>?_
  obtain⟨y,_,rfl⟩:=hev x hx
  show encN (2*y)=encN (2*(2*y/2))
  congr 1
  omega
set_option maxHeartbeats 2000000 in
theorem Dc(W:World)(keys:List ByteArray)(dk:List Nat)(b1 nb b9 b n c m:Nat)(ka:Addr)(kc:Nat)(hn1:W.cell? ⟨b1,0,none⟩=some (cD nb))(hks:W.cell? ⟨nb,6,none⟩=some (.slice (some ka) m kc))(hm:m=keys.length)(hps:W.cell? ⟨b9,0,none⟩=some (.slice (some ⟨b,0,none⟩) n c))(hn:dk.length=n)
  (hdk: ∀ j x,dk[j]? =some x→W.cell? ⟨b,j,none⟩=some (encN x)) (hkk: ∀ j s,keys[j]? =some s→ ∃q,W.cell? (ka.add j)=some (cD q)∧W.cell? ⟨q,3,none⟩=some (.string s)) (hlt: ∀ x∈dk,x<keys.length) (i j:Nat) (hi:i<dk.length) (hj:j<dk.length):
  Calls Tryz.prog 167 #[.int .i64 i, .int .i64 j,cD b1,cD b9] W fun e w'=>e= .returned (.bool (CT keys dk[i] dk[j]))∧ ∃q,w'=W.drewN q:=by
 have hxi:=hlt _ (List.getElem_mem hi)
 have hxj:=hlt _ (List.getElem_mem hj)
 have ci:=hdk i _ (List.getElem?_eq_getElem hi)
 have cj:=hdk j _ (List.getElem?_eq_getElem hj)
 obtain⟨qi,ki,vi⟩:=hkk _ _ (List.getElem?_eq_getElem hxi)
 obtain⟨qj,kj,vj⟩:=hkk _ _ (List.getElem?_eq_getElem hxj)
 have hin:i<n:=by omega
 have hjn:j<n:=by omega
 have him:dk[i]<m:=by omega
 have hjm:dk[j]<m:=by omega
 have hlk:CT keys dk[i] dk[j]=Op.bytesLess keys[dk[i]].toList keys[dk[j]].toList:=by
  unfold CT
  rw [gQ,uW hxi,uW hxj,qI,qI]
 go_enter Tryz.func167,Tryz.ntmps167
 go_wp2
 go_quiet (fail)
 go_wp2
 go_ret
 refine⟨?_,nq,rfl⟩
 rw [hlk]
 rfl
theorem F8:rk Tryz.prog 167:=⟨_,Tryz.func167,by kernel_rfl,rfl⟩
theorem BQ(ys:List Y)(A:Option Addr)(m ca nb b1 b9 pb n c9:Nat)(t v:ByteArray)(k:Int)(hm:m=ys.length): ∀ (W:World) (dk:List Nat),dk.length=n→(∀ x∈dk,x<ys.length)→(∀ x∈[HA.blk b9 [.slice (some ⟨pb,0,none⟩) n c9] 139],x.holds W)→(∀ j x,dk[j]? =some x→W.cell? ⟨pb,j,none⟩=some (encN x))→
  (∃ok,∀ d∈[DA.dblk b1 [cD nb] 102, .dblk nb (dH k t v A m ca) 150, .kids (.slice A m ca) ys],d.p W ok)→ ∀ (i j:Nat) (hi:i<dk.length) (hj:j<dk.length),
   Calls Tryz.prog 167 (#[.int .i64 i, .int .i64 j]++ #[cD b1,cD b9]) W fun e w'=>e= .returned (.bool (CT (vals ys) dk[i] dk[j]))∧ ∃q,w'=W.drewN q:=by
 intro W dk hn hlt hM hdk hD i j hi hj
 obtain⟨ok,hD⟩:=hD
 have h1:BlkP W ok b1 [cD nb] 102:=hD _ List.mem_cons_self
 have h2:BlkP W ok nb (dH k t v A m ca) 150:=hD _ (List.mem_cons_of_mem _ List.mem_cons_self)
 obtain⟨A',c',hv,_,_,hk⟩:KidsV W ok (.slice A m ca) ys:=hD _ (List.mem_cons_of_mem _ (List.mem_cons_of_mem _ List.mem_cons_self))
 injection hv with e1 e2 e3
 subst e1;subst e3
 have hkid: ∀ (x:Nat) (y:Y),ys[x]? =some y→ ∃a b,A=some a∧ok a.block∧W.cell? (a.add x)=some (cD b)∧NodeP W ok y b:=fun x y hx=>by
  have:=hk.get hx
  simpa using this
 obtain⟨a,_,rfl,_⟩:=hkid _ _ (List.getElem?_eq_getElem (hlt _ (List.getElem_mem hi)))
 refine Dc W (vals ys) dk b1 nb b9 pb n c9 m a ca ?_ ?_ (by unfold vals;rw [List.length_map];exact hm) ?_ hn hdk (fun j s hj=>?_) (fun x hx=>by unfold vals;rw [List.length_map];exact hlt x hx) i j hi hj
 ·rw [uL h1.2];rfl
 ·rw [uL h2.2];rfl
 ·have:=hM _ List.mem_cons_self
  rw [uL this];rfl
 ·unfold vals at hj
  rw [List.getElem?_map]at hj
  obtain⟨y,hy,rfl⟩:=Option.map_eq_some_iff.1 hj
  obtain⟨a',b',ha,_,hc,hnode⟩:=hkid _ _ hy
  cases ha
  refine⟨b',hc,?_⟩
  obtain⟨q,tt,vv,zs⟩:=y
  obtain⟨_,_,_,A2,c2,hb,_⟩:=hnode
  rw [uL hb]
  rfl
def Dd(fb:Addr)(u:V):Prop:= ∀ b,CtR Tryz.prog 107 #[cD b] [.node b (dC u),jB fb] (vp (cW u))

theorem IV(fb:Addr)(b:Nat)(y:Y)(v:V)(hk:y.kind=8)(H:CtR Tryz.prog 166 #[cD b] [.node b y,jB fb] (vp v)):CtR Tryz.prog 107 #[cD b] [.node b y,jB fb] (vp v):=by
 refine Ct.of_run (args:=[cD b]) Tryz.func107 aF Z Tryz.ntmps107 Z (fun c=>?_)
 refine ip 0 Z (fun A0 cap0 ht0 hv0 hl0 hc0=>?_)
 refine rO 3 Z (yM Z Z Z (fun b1=>?_))
 refine gY 0 Z Z (zA ?_)
 refine zT cf Z (fun b2=>?_)
 change bu _ _ _ _ _ _ _ _ (HA.blk _ [_,_,_,_,_] _::_) _
 refine oO 7 Z (zH 0 dA Z Z Z Z ?_)
 refine zA (tQ pZ Z Z ?_)
 refine oO 7 Z (zH 0 dA Z Z Z Z ?_)
 refine oO 3 Z (zC wE Z Z ?_)
 refine zA (zH 1 dG Z Z Z Z ?_)
 refine oR 9 Z (wU Z (decide_eq_true (by exact_mod_cast hk)) ?_)
 refine rO 3 Z (zH 0 dA Z Z Z Z ?_)
 refine zA (zX Z Z Z H (ce 3 4 Z Z) (fun u27 D27 hv27=>?_))
 obtain⟨_,rfl,A27,c27,B27,d27,rfl,rfl⟩:=hv27
 refine oO 5 Z (zF 0 (M':=[HA.blk _ [_,_,_,_,_] _]) Z Z Z Z cM Z Z Z ?_)
 refine oK 3 [3,2] Z Z ?_
 refine yV (M':=[HA.blk b2 [_,_,_,_,_] 25]) (by repeat (first|exact zN _|refine zB 0 Z ?_|refine zB 1 Z ?_|refine zB 2 Z ?_|refine zB 3 Z ?_|refine zB 4 Z ?_)) ?_
 exact wI 0 Tryz.results107 Z Z Z cA ⟨rfl,_,rfl,_,_,_,_,rfl,rfl⟩ nS (cC 0 Z)
theorem IW(fb:Addr)(b:Nat)(us:List V)(h60:us.length≤60)(H: ∀ x∈us,Dd fb x):CtR Tryz.prog 107 #[cD b] [.node b (cd 2 (us.map dC)),jB fb] (vp (.mk 4 0 ⟨#[]⟩ [] (us.map cW))):=by
 refine Ct.of_run (args:=[cD b]) Tryz.func107 aF Z Tryz.ntmps107 Z (fun c=>?_)
 refine xU 0 Z (fun A0 cap0 ht0 hv0 hl0 hc0=>?_)
 rw [List.length_map]
 rw [List.length_map]at hl0
 unfold maxLen at hc0
 refine rO 3 Z (yM Z Z Z (fun b1=>?_))
 refine gY 0 Z Z (zA ?_)
 refine zT cf Z (fun b2=>?_)
 change bu _ _ _ _ _ _ _ _ (HA.blk _ [_,_,_,_,_] _::_) _
 refine oO 7 Z (zH 0 dA Z Z Z Z ?_)
 refine zA (tQ pZ Z Z ?_)
 refine oO 7 Z (zH 0 dA Z Z Z Z ?_)
 refine oO 3 Z (zC wE Z Z ?_)
 refine zA (zH 1 dG Z Z Z Z ?_)
 refine oK 17 [30,23,2,1] Z Z (rO 4 Z ?_)
 refine yX Z Z (nY ..) (zA ?_)
 refine zT cf Z (fun b4=>?_)
 change bu _ _ _ _ _ _ _ _ (HA.blk _ [_,_,_,_,_] _::_) _
 refine zA (zF 0 (M':=[HA.blk _ [_,_,_,_,_] _,_]) Z Z Z Z cM Z Z Z ?_)
 refine oO 5 Z (zH 0 dA Z Z Z Z ?_)
 refine oO 3 Z (zC wF Z Z ?_)
 refine zA (zH 1 dQ Z Z Z Z ?_)
 refine zA (zW cV Z Z ?_)
 refine oK 4 [38,37,36,4,2] Z Z (wV 25 5 ?_)
 refine rX ?_
 refine yQ 1 (fun(⟨i,A,ca,xs⟩:Nat×Option Addr×Nat×List Value)=>i≤us.length) (fun(⟨i,A,ca,xs⟩:Nat×Option Addr×Nat×List Value)=>[(38, .int .i64 ((i:Nat):Int))]) (fun(⟨i,A,ca,xs⟩:Nat×Option Addr×Nat×List Value)=>HA.row A i ca 25 5 xs::HA.blk b4 [.int .i64 4, .int .i64 0, .string ⟨#[]⟩, .slice none 0 0, .slice A i ca] 25::HA.blk b2 [.int .i64 0, .int .i64 0, .string ⟨#[]⟩, .slice none 0 0, .slice none 0 0] 25::[]) (fun(⟨i,A,ca,xs⟩:Nat×Option Addr×Nat×List Value)=> .its xs ((us.take i).map cW):: .dblk b1 [cD b] 102:: .dblk b (dH 2 ⟨#[]⟩ ⟨#[]⟩ A0 us.length cap0) 150:: .kids (.slice A0 us.length cap0) (us.map dC):: .node b (cd 2 (us.map dC))::jB fb::[]) (fun(⟨i,A,ca,xs⟩:Nat×Option Addr×Nat×List Value)=>us.length - i) (0,none,0,[]) bX (eC Z (eN _)) Z Z ?_ (eC Z (eC Z (eC Z (eC Z (eN _)))))
 intro ⟨i,A,ca,xs⟩ hI K hK
 change Run _ _ _ _ _ [(38,_),(37,_),(36,_),(4,_),(2,_)] [_,_,_] [_,_,_,_,_,_]
 have hi:i≤us.length:=hI
 refine rO 3 Z (yJ Z Z Z ?_)
 refine oR 2 Z (zK Z (fun h39=>?_) (fun h39=>?_))
 ·refine rO 6 Z (wL 3 cV Z Z Z Z h39 ?_)
  refine uJ 3 i Z (ey h39) (fun bk=>?_)
  refine zA (yE dA Z Z (fun _ h=>uK h (j:=0) Z) ?_)
  refine oO 8 Z (zX Z Z Z (H _ (List.getElem_mem h39) bk) (ce 1 7 Z Z) (fun u44 D44 hv44=>?_))
  obtain⟨_,rfl,A44,c44,B44,d44,rfl,rfl⟩:=hv44
  refine oO 7 Z (zT cf Z (fun b7=>?_))
  change bu _ _ _ _ _ _ _ _ (HA.blk _ [_,_,_,_,_] _::_) _
  refine zA (zF 0 (M':=[HA.blk _ [_,_,_,_,_] _,_,_,_]) Z Z Z Z cM Z Z Z ?_)
  refine oK 3 [8,7,38,37,36,4,2] Z Z (rO 12 Z ?_)
  refine zC xG Z Z (zA ?_)
  refine zG 2 dJ Z Z Z Z (zA ?_)
  refine zL 0 Z cA Z Z (zA ?_)
  refine zM cU Z Z Z Z Z (fun b53=>?_)
  refine zA ?_
  refine cN 2 0 cU (fun A54 c54=>?_)
  refine zA (zC xG Z Z ?_)
  refine zA (zF 3 (M':=[_,_,_,HA.blk _ [_,_,_,_,_] _,_]) Z Z Z Z fT Z Z Z ?_)
  refine oK 1 [38,37,36,4,2] Z Z (rO 3 Z ?_)
  refine yD Z Z aC (oR 3 Z ?_)
  refine wX 3 0 Z Z Z ?_
  rw [tY (f:=cW) h39]
  exact kQ (hK (i+1,_,_,_) bQ (by show us.length - (i+1)<us.length - i;omega)) (eC Z (eC Z (eC Z (eC Z (eC Z (eN _)))))) (hD:=(cQ 0 Z sQ))
 obtain rfl:i=us.length:=by omega
 rw [List.take_length]
 refine rO 4 Z (zL 1 Z cA Z Z ?_)
 refine zA (zF 2 (M':=[_,_,HA.blk _ [_,_,_,_,_] _]) Z Z Z Z cM Z Z Z ?_)
 refine oR 3 Z (rH ?_)
 refine rG 0 1 (us.map cW) Z Z bP (by rw [List.length_map]) (vM 1 0 Z Z (s:=⟨#[]⟩) (q:=4) (m:=0) aE ?_)
 refine yV (M':=[HA.blk b2 [_,_,_,_,_] 25]) (by repeat (first|exact zN _|refine zB 0 Z ?_|refine zB 1 Z ?_|refine zB 2 Z ?_|refine zB 3 Z ?_|refine zB 4 Z ?_)) ?_
 exact wI 0 Tryz.results107 Z Z Z cA ⟨rfl,_,rfl,none,0,_,_,by simp only [V.kind,V.num,V.text,V.keys,V.items,List.length_map,List.length_nil];rfl,rfl⟩ nS (cC 0 Z)
theorem sK{M M2:List HA}(h:fe M2 M:=by repeat (first|exact wN _|exact zN _|refine zB 0 rfl ?_|refine zB 1 rfl ?_|refine zB 2 rfl ?_|refine zB 3 rfl ?_|refine zB 4 rfl ?_|refine zB 5 rfl ?_|refine zB 6 rfl ?_|refine zB 7 rfl ?_|refine zB 8 rfl ?_)):fe M2 M:=h
set_option maxHeartbeats 4000000 in
theorem IX(fb:Addr)(b:Nat)(ks:List ByteArray)(us:List V)(hl:ks.length=us.length)(h60:us.length≤60)(hnd:ks.Nodup)(hszs: ∀ s∈ks,s.size≤maxLen)(H: ∀ x∈us,Dd fb x)(ys:List Y)(hys:ys=(ks.zip (us.map dC)).flatMap dm):CtR Tryz.prog 107 #[cD b] [.node b (cd 4 ys),jB fb] (vp (cW (.mk 5 0 ⟨#[]⟩ ks us))):=by
 refine Ct.of_run (args:=[cD b]) Tryz.func107 aF Z Tryz.ntmps107 Z (fun c=>?_)
 have hfl:ys.length=2*us.length:=by rw [hys,o0,oE hl]
 have hk0: ∀ x,x<us.length→ys[2*x]? =some (cK dB (ks.getD x ⟨#[]⟩)):=fun x hx=>by rw [hys];exact vq hl hx
 have hk1: ∀ x (h:x<us.length),ys[2*x+1]? =some (dC us[x]):=fun x hx=>by rw [hys];exact Db hl hx
 have h2t:((2*us.length:Nat):Int).tmod 2=0:=by rw [show((2*us.length:Nat):Int)=2*(us.length:Int)by omega];exact Int.mul_tmod_right _ _
 refine xU 0 Z (fun A0 cap0 ht0 hv0 hl0 hc0=>?_)
 rw [hfl]
 rw [hfl]at hl0
 unfold maxLen at hc0
 refine rO 3 Z (yM Z Z Z (fun b1=>?_))
 refine gY 0 Z Z (zA ?_)
 refine zT cf Z (fun b2=>?_)
 change bu _ _ _ _ _ _ _ _ (HA.blk _ [_,_,_,_,_] _::_) _
 refine oO 7 Z (zH 0 dA Z Z Z Z ?_)
 refine zA (tQ pZ Z Z ?_)
 refine oO 7 Z (zH 0 dA Z Z Z Z ?_)
 refine oO 3 Z (zC wE Z Z ?_)
 refine zA (zH 1 dG Z Z Z Z ?_)
 refine oK 17 [30,23,2,1] Z Z (rO 13 Z ?_)
 refine zH 0 dA Z Z Z Z (oO 3 Z ?_)
 refine zC wF Z Z (zA ?_)
 refine zH 1 dQ Z Z Z Z (zA ?_)
 refine zW cV Z Z (zA ?_)
 refine y9 Z Z Z aE ?_
 rw [h2t]
 refine zA (tV Z Z Z ?_)
 refine oK 1 [66,2,1] Z Z (rO 5 Z ?_)
 refine uB pe Z (fun b68=>?_)
 refine zA (zT Hr Z (fun b9=>?_))
 change bu _ _ _ _ _ _ _ _ (HA.blk _ [_] _::_) _
 refine zA (zF 0 (M':=[HA.blk _ [_] _,_,_]) Z Z Z Z Ec Z Z Z ?_)
 refine oK 8 [10,9,2,1] Z Z ?_
 refine yQ 1 (fun(⟨i,pb,c9⟩:Nat×Nat×Nat)=>i≤us.length) (fun(⟨i,pb,c9⟩:Nat×Nat×Nat)=>[(10, .int .i64 ((2*i:Nat):Int))]) (fun(⟨i,pb,c9⟩:Nat×Nat×Nat)=>HA.blk b9 [.slice (some ⟨pb,0,none⟩) i c9] 139::HA.row (some ⟨pb,0,none⟩) i c9 3 1 ((List.range i).map s6)::HA.blk b2 [.int .i64 0, .int .i64 0, .string ⟨#[]⟩, .slice none 0 0, .slice none 0 0] 25::[]) (fun(⟨i,pb,c9⟩:Nat×Nat×Nat)=> .dblk b1 [cD b] 102:: .dblk b (dH 4 ⟨#[]⟩ ⟨#[]⟩ A0 (2*us.length) cap0) 150:: .kids (.slice A0 (2*us.length) cap0) ys:: .node b (cd 4 ys)::jB fb::[]) (fun(⟨i,pb,c9⟩:Nat×Nat×Nat)=>us.length - i) (0,_,_) bX (eC Z (eN _)) Z Z ?_ (eC Z (eC Z (eC Z (eN _))))
 intro ⟨i,pb,c9⟩ hI K hK
 change Run _ _ _ _ _ [(10,_),(9,_),(2,_),(1,_)] [_,_,_] [_,_,_,_,_]
 have hi:i≤us.length:=hI
 refine rO 6 Z (zH 0 dA Z Z Z Z ?_)
 refine oO 3 Z (zC wF Z Z ?_)
 refine zA (zH 1 dQ Z Z Z Z ?_)
 refine zA (zW cV Z Z ?_)
 refine zA (yJ Z Z Z ?_)
 refine zY (zK Z (fun h75=>?_) (fun h75=>?_))
 ·refine rO 5 Z (zG 0 Am Z Z Z Z ?_)
  refine oO 3 Z (zM pe Z Z Z Z Z (fun b80=>?_))
  refine zA ?_
  refine cN 2 0 pe (fun A81 c81=>?_)
  refine zA (zF 1 (M':=[_,HA.blk _ [_] _,_,_]) Z Z Z Z Ec Z Z Z ?_)
  refine oK 1 [10,9,2,1] Z Z (rO 5 Z ?_)
  refine xL (s:=((2*(i+1):Nat):Int)) Z Z Z aC aC aC (oR 3 Z ?_)
  refine Ay 2 Z aC (fun pb1 hpb=>?_)
  subst hpb
  rw [qg]
  exact kQ (hK (i+1,pb1,_) bQ (by show us.length - (i+1)<us.length - i;omega)) (eC Z (eC Z (eC Z (eC Z (eN _)))))
 obtain rfl:i=us.length:=by omega
 rw [F6]
 refine rO 4 Z (zG 0 Am Z Z Z Z ?_)
 refine zA (jA aF Z Z ?_)
 refine zA (rT Z Z Z ?_)
 refine zA ?_
 refine rA 1 0 Z Z Z (J1 167 #[cD b1,cD b9] pb us.length c9 ys.length ((List.range us.length).map (2* ·)) (fun x hx=>by obtain⟨z,hz,rfl⟩:=List.mem_map.1 hx;have:=List.mem_range.1 hz;omega) (CT (vals ys)) (DH _) [HA.blk b9 [.slice (some ⟨pb,0,none⟩) us.length c9] 139] [.dblk b1 [cD b] 102, .dblk b (dH 4 ⟨#[]⟩ ⟨#[]⟩ A0 (2*us.length) cap0) 150, .kids (.slice A0 (2*us.length) cap0) ys] aC (fun args w=>en F8 args w) (fun W dk h1 h2=>BQ ys A0 (2*us.length) cap0 b b1 b9 pb us.length c9 _ _ _ hfl.symm W dk h1 h2)) Z Z (cQ 0 Z (ce 1 2 Z Z)) (fun u85 M85 D85 hv85=>?_)
 obtain⟨rfl,⟨ds,hdp,hds,rfl⟩,rfl⟩:=hv85
 rw [hys]at hds
 obtain⟨es,hep,hes,hee⟩:=F7 hl hdp hds
 rw [hee]
 have hel:es.length=us.length:=by rw [hep.length_eq,List.length_range]
 have hep2:es.Perm (List.range ks.length):=by rw [hl];exact hep
 refine oK 1 [9,2,1] Z Z (rO 3 Z ?_)
 refine yX Z Z (nY ..) (zA ?_)
 refine zT cf Z (fun b11=>?_)
 change bu _ _ _ _ _ _ _ _ (HA.blk _ [_,_,_,_,_] _::_) _
 refine zA (zF 0 (M':=[HA.blk _ [_,_,_,_,_] _,_,_,_]) Z Z Z Z cM Z Z Z ?_)
 refine oO 5 Z (zG 2 Am Z Z Z Z ?_)
 refine zA (zW pe Z Z ?_)
 refine oK 4 [89,88,87,11,2,1] Z Z (wV 25 5 ?_)
 refine wV 9 1 (rX ?_)
 refine yQ 1 (fun(⟨i3,KA,kc,KI,ic,xv⟩:Nat×Option Addr×Nat×Option Addr×Nat×List Value)=>i3≤us.length) (fun(⟨i3,KA,kc,KI,ic,xv⟩:Nat×Option Addr×Nat×Option Addr×Nat×List Value)=>[(89, .int .i64 ((i3:Nat):Int))]) (fun(⟨i3,KA,kc,KI,ic,xv⟩:Nat×Option Addr×Nat×Option Addr×Nat×List Value)=>HA.row KA i3 kc 9 1 ((es.take i3).map (fun x=>Value.string (ks.getD x ⟨#[]⟩)))::HA.row KI i3 ic 25 5 xv::HA.blk b11 [.int .i64 5, .int .i64 0, .string ⟨#[]⟩, .slice KA i3 kc, .slice KI i3 ic] 25::HA.row (some ⟨pb,0,none⟩) us.length c9 3 1 (es.map s6)::HA.blk b9 [.slice (some ⟨pb,0,none⟩) us.length c9] 139::HA.blk b2 [.int .i64 0, .int .i64 0, .string ⟨#[]⟩, .slice none 0 0, .slice none 0 0] 25::[]) (fun(⟨i3,KA,kc,KI,ic,xv⟩:Nat×Option Addr×Nat×Option Addr×Nat×List Value)=> .its xv ((es.take i3).map (fun x=>(us.map cW).getD x Aw)):: .dblk b1 [cD b] 102:: .dblk b (dH 4 ⟨#[]⟩ ⟨#[]⟩ A0 (2*us.length) cap0) 150:: .kids (.slice A0 (2*us.length) cap0) ys:: .node b (cd 4 ys)::jB fb::[]) (fun(⟨i3,KA,kc,KI,ic,xv⟩:Nat×Option Addr×Nat×Option Addr×Nat×List Value)=>us.length - i3) (0,none,0,none,0,[]) bX (eC Z (eN _)) Z Z ?_ (eC Z (eC Z (eC Z (eC Z (eC Z (eN _))))))
 intro ⟨i3,KA,kc,KI,ic,xv⟩ hI K hK1
 change Run _ _ _ _ _ [(89,_),(88,_),(87,_),(11,_),(2,_),(1,_)] [_,_,_,_,_,_] [_,_,_,_,_,_]
 have hi3:i3≤us.length:=hI
 refine rO 3 Z (yJ Z Z Z ?_)
 refine oR 2 Z (zK Z (fun h90=>?_) (fun h90=>?_))
 ·have hld:i3<es.length:=by omega
  have hde:es[i3]<us.length:=gV hep _ (List.getElem_mem hld)
  have hdk:es[i3]<ks.length:=by omega
  have hdv:es[i3]<(us.map cW).length:=by rw [List.length_map];exact hde
  refine rO 8 Z (wD pe Z Z Z h90 ?_)
  refine zA ?_
  refine yE Gw Z Z (fun _ h=>Fh h (i:=3) Z (by rw [List.getElem?_map,List.getElem?_eq_getElem hld];rfl)) ?_
  refine oO 8 Z (zH 1 dA Z Z Z Z ?_)
  refine oO 3 Z (zC wF Z Z ?_)
  refine zA (zH 2 dQ Z Z Z Z ?_)
  refine oO 3 Z (wL (i:=2*es[i3]) 3 cV Z Z Z Z aC ?_)
  refine uJ 3 (2*es[i3]) Z (hk0 _ hde) (fun bk=>?_)
  refine sM 1 Z (fun A1 cap1 ht1 hv1 hl1 hc1=>?_)
  refine zA (yE dA Z Z (fun _ h=>uK h (j:=2) Z) ?_)
  refine oO 3 Z (zC wQ Z Z ?_)
  refine zA (zH 0 co Z Z Z Z ?_)
  refine oK 3 [14,13,12,89,88,87,11,2,1] Z Z (rO 3 Z ?_)
  refine zH 5 dA Z Z Z Z (oO 3 Z ?_)
  refine zC wF Z Z (zA ?_)
  refine zH 6 dQ Z Z Z Z (oO 3 Z ?_)
  refine yD Z Z aC (zA ?_)
  refine wL (i:=2*es[i3]+1) 7 cV Z Z Z Z aC (uJ 7 (2*es[i3]+1) Z (hk1 _ hde) (fun bv=>?_))
  refine zA (yE dA Z Z (fun _ h=>uK h (j:=0) Z) ?_)
  refine zA (zX Z Z Z (H _ (List.getElem_mem hde) bv) (ce 1 11 Z Z) (fun u113 D113 hv113=>?_))
  obtain⟨_,rfl,A113,c113,B113,d113,rfl,rfl⟩:=hv113
  refine oO 7 Z (zT cf Z (fun b15=>?_))
  change bu _ _ _ _ _ _ _ _ (HA.blk _ [_,_,_,_,_] _::_) _
  refine zA (zF 0 (M':=[HA.blk _ [_,_,_,_,_] _,_,_,_,_,_,_]) Z Z Z Z cM Z Z Z ?_)
  refine oK 3 [16,15,14,12,89,88,87,11,2,1] Z Z (rS 9 Z ?_)
  refine vB (s:=118) Z (rfl) (oO 3 Z ?_)
  refine wR Z Z Z (oS 2 Z ?_)
  refine yC (s:=121) Z (fun h121=>?_) (fun h121=>?_)
  ·refine zI Z Z (zC xS Z Z ?_)
   refine zI Z Z (zG 3 dD Z Z Z Z ?_)
   refine oO 3 Z (xO (s:=((i3 - 1:Nat):Int)) Z Z Z aC aC aC ?_)
   refine zI Z Z (nD 1 cH Z Z Z Z aC ?_)
   refine zI Z Z (yE (v:= .string (ks.getD (es[i3 - 1]'aC) ⟨#[]⟩)) co Z Z (fun _ h=>va h (i:=1) Z (Az aC aC)) ?_)
   refine oK 9 [131,15,14,89,88,87,11,2,1] Z Z (xH Z (decide_eq_false (fun he=>xq hnd hep2 (i:=i3 - 1) (j:=i3) aC aC he)) ?_)
   refine xY (yW yH ?_)
   refine zS (tP 0 Z br (yB xS Z) ?_)
   refine tP 2 Z br (zZ Z) (tP 5 Z br (yB xG Z) ?_)
   refine tA (zB 0 Z (zB 2 Z (zN _))) (wB (zB 0 Z (zB 2 Z (zN _))) 1 (yR _ _ _ _) Z br aD aD aD Z (xD 1 dD Z Z Z) ?_)
   refine wB (zB 0 Z (zB 2 Z (zN _))) 6 (yR _ _ _ _) Z br aD aD aD Z (xD 1 dJ Z Z Z) (wB (zB 0 Z (zB 2 Z (zN _))) 7 (yR _ _ _ _) Z br aD aD aD Z (sX 0 Z cA Z) ?_)
   refine tN (rs:=[3,8]) aD aJ ?_
   intro j hj
   simp only [List.mem_cons,List.not_mem_nil,or_false]at hj
   rcases hj with rfl|rfl
   ·refine zQ (I2:=[[7,6,1],[5,0],[]]) Z br aD (fun Kd hKd=>?_)
    refine zM cH Z Z Z Z Z (fun b136=>?_)
    refine hKd _ _ _ (vW sK sQ (hC (zE (zR)))) ?_
    refine tN (rs:=[4,8]) aD aJ ?_
    intro j hj
    simp only [List.mem_cons,List.not_mem_nil,or_false]at hj
    rcases hj with rfl|rfl
    ·refine zQ (I2:=[[7,6],[5],[]]) Z br aD (fun Kd hKd=>?_)
     refine cN 2 0 cH (fun A137 c137=>?_)
     refine hKd _ _ _ (vW sK sQ (hC (zE (zR)))) ?_
     refine zS (tP 10 Z br (yB xS Z) ?_)
     refine zO 8 aD ?_
     refine zQ (I2:=[[10],[6],[5],[]]) Z br aD (fun Kd hKd=>?_)
     refine zM cU Z Z Z Z Z (fun b141=>?_)
     refine hKd _ _ _ (hC (vW sK sQ (hC (zE (zR))))) ?_
     refine zO 9 aD ?_
     refine zQ (I2:=[[10],[],[],[]]) Z br aD (fun Kd hKd=>?_)
     refine cN 4 0 cU (fun A142 c142=>?_)
     refine hKd _ _ _ (hC (zE (zE (zE (zR))))) (zO 11 aD ?_)
     refine zQ (I2:=[[],[],[],[]]) Z br aD (fun Kd hKd=>?_)
     refine zF 5 (M':=[_,_,_,_,_,HA.blk _ [_,_,_,_,_] _,_,_,_]) Z Z Z Z fS Z Z Z (hKd _ _ _ (zE (zE (zE (zE (zR))))) ?_)
     refine tP 12 Z br (yB xG Z) (zO 13 aD ?_)
     refine zQ (I2:=[[],[],[],[]]) Z br aD (fun Kd hKd=>?_)
     refine zF 5 (M':=[_,_,_,_,_,HA.blk _ [_,_,_,_,_] _,_,_,_]) Z Z Z Z fT Z Z Z (hKd _ _ _ (zE (zE (zE (zE (zR))))) ?_)
     refine yG aD (rK 0 [89,88,87,11,2,1] Z Z ?_)
     refine rO 3 Z (yD Z Z aC ?_)
     refine oR 3 Z (wX 7 0 Z Z Z ?_)
     rw [vS (f:=fun x=>(us.map cW).getD x Aw) hld bD,vS (f:=fun x=>Value.string (ks.getD x ⟨#[]⟩)) hld rfl]
     exact kQ (hK1 (i3+1,_,_,_,_,_) bO au) (eC Z (eC Z (eC Z (eC Z (eC Z (eC Z (eN _))))))) (hD:=(cQ 0 Z sQ))
    refine zQ (I2:=[[6,1],[5,0],[]]) Z br aD (fun Kd hKd=>?_)
    refine zM cU Z Z Z Z Z (fun b141=>?_)
    refine hKd _ _ _ (vW sK sQ (hC (zE (zR)))) ?_
    refine zO 4 aD ?_
    refine zQ (I2:=[[6],[5],[]]) Z br aD (fun Kd hKd=>?_)
    refine cN 3 1 cH (fun A137 c137=>?_)
    refine hKd _ _ _ (vW sK sQ (hC (zE (zR)))) ?_
    refine zS (tP 10 Z br (yB xS Z) ?_)
    refine zO 9 aD ?_
    refine zQ (I2:=[[10],[],[],[]]) Z br aD (fun Kd hKd=>?_)
    refine cN 4 0 cU (fun A142 c142=>?_)
    refine hKd _ _ _ (hC (zE (zE (zE (zR))))) (zO 11 aD ?_)
    refine zQ (I2:=[[],[],[],[]]) Z br aD (fun Kd hKd=>?_)
    refine zF 5 (M':=[_,_,_,_,_,HA.blk _ [_,_,_,_,_] _,_,_,_]) Z Z Z Z fS Z Z Z (hKd _ _ _ (zE (zE (zE (zE (zR))))) ?_)
    refine tP 12 Z br (yB xG Z) (zO 13 aD ?_)
    refine zQ (I2:=[[],[],[],[]]) Z br aD (fun Kd hKd=>?_)
    refine zF 5 (M':=[_,_,_,_,_,HA.blk _ [_,_,_,_,_] _,_,_,_]) Z Z Z Z fT Z Z Z (hKd _ _ _ (zE (zE (zE (zE (zR))))) ?_)
    refine yG aD (rK 0 [89,88,87,11,2,1] Z Z ?_)
    refine rO 3 Z (yD Z Z aC ?_)
    refine oR 3 Z (wX 7 0 Z Z Z ?_)
    rw [vS (f:=fun x=>(us.map cW).getD x Aw) hld bD,vS (f:=fun x=>Value.string (ks.getD x ⟨#[]⟩)) hld rfl]
    exact kQ (hK1 (i3+1,_,_,_,_,_) bO au) (eC Z (eC Z (eC Z (eC Z (eC Z (eC Z (eN _))))))) (hD:=(cQ 0 Z sQ))
   refine zQ (I2:=[[6,1],[5,2,0],[]]) Z br aD (fun Kd hKd=>?_)
   refine zM cU Z Z Z Z Z (fun b141=>?_)
   refine hKd _ _ _ (vW sK sQ (hC (zE (zR)))) ?_
   refine zO 3 aD ?_
   refine zQ (I2:=[[6,1],[5,0],[]]) Z br aD (fun Kd hKd=>?_)
   refine zM cH Z Z Z Z Z (fun b136=>?_)
   refine hKd _ _ _ (vW sK sQ (hC (zE (zR)))) ?_
   refine zO 4 aD ?_
   refine zQ (I2:=[[6],[5],[]]) Z br aD (fun Kd hKd=>?_)
   refine cN 3 0 cH (fun A137 c137=>?_)
   refine hKd _ _ _ (vW sK sQ (hC (zE (zR)))) ?_
   refine zS (tP 10 Z br (yB xS Z) ?_)
   refine zO 9 aD ?_
   refine zQ (I2:=[[10],[],[],[]]) Z br aD (fun Kd hKd=>?_)
   refine cN 4 1 cU (fun A142 c142=>?_)
   refine hKd _ _ _ (hC (zE (zE (zE (zR))))) (zO 11 aD ?_)
   refine zQ (I2:=[[],[],[],[]]) Z br aD (fun Kd hKd=>?_)
   refine zF 5 (M':=[_,_,_,_,_,HA.blk _ [_,_,_,_,_] _,_,_,_]) Z Z Z Z fS Z Z Z (hKd _ _ _ (zE (zE (zE (zE (zR))))) ?_)
   refine tP 12 Z br (yB xG Z) (zO 13 aD ?_)
   refine zQ (I2:=[[],[],[],[]]) Z br aD (fun Kd hKd=>?_)
   refine zF 5 (M':=[_,_,_,_,_,HA.blk _ [_,_,_,_,_] _,_,_,_]) Z Z Z Z fT Z Z Z (hKd _ _ _ (zE (zE (zE (zE (zR))))) ?_)
   refine yG aD (rK 0 [89,88,87,11,2,1] Z Z ?_)
   refine rO 3 Z (yD Z Z aC ?_)
   refine oR 3 Z (wX 7 0 Z Z Z ?_)
   rw [vS (f:=fun x=>(us.map cW).getD x Aw) hld bD,vS (f:=fun x=>Value.string (ks.getD x ⟨#[]⟩)) hld rfl]
   exact kQ (hK1 (i3+1,_,_,_,_,_) bO au) (eC Z (eC Z (eC Z (eC Z (eC Z (eC Z (eN _))))))) (hD:=(cQ 0 Z sQ))
  refine oK 13 [131,15,14,89,88,87,11,2,1] Z Z (rR 2 Z ?_)
  refine yW yH (zS ?_)
  refine tP 0 Z br (yB xS Z) (tP 2 Z br (zZ Z) ?_)
  refine tP 5 Z br (yB xG Z) (tA (zB 0 Z (zB 2 Z (zN _))) ?_)
  refine wB (zB 0 Z (zB 2 Z (zN _))) 1 (yR _ _ _ _) Z br aD aD aD Z (xD 1 dD Z Z Z) (wB (zB 0 Z (zB 2 Z (zN _))) 6 (yR _ _ _ _) Z br aD aD aD Z (xD 1 dJ Z Z Z) ?_)
  refine wB (zB 0 Z (zB 2 Z (zN _))) 7 (yR _ _ _ _) Z br aD aD aD Z (sX 0 Z cA Z) (tN (rs:=[3,8]) aD aJ ?_)
  intro j hj
  simp only [List.mem_cons,List.not_mem_nil,or_false]at hj
  rcases hj with rfl|rfl
  ·refine zQ (I2:=[[7,6,1],[5,0],[]]) Z br aD (fun Kd hKd=>?_)
   refine zM cH Z Z Z Z Z (fun b136=>?_)
   refine hKd _ _ _ (vW sK sQ (hC (zE (zR)))) ?_
   refine tN (rs:=[4,8]) aD aJ ?_
   intro j hj
   simp only [List.mem_cons,List.not_mem_nil,or_false]at hj
   rcases hj with rfl|rfl
   ·refine zQ (I2:=[[7,6],[5],[]]) Z br aD (fun Kd hKd=>?_)
    refine cN 2 0 cH (fun A137 c137=>?_)
    refine hKd _ _ _ (vW sK sQ (hC (zE (zR)))) ?_
    refine zS (tP 10 Z br (yB xS Z) ?_)
    refine zO 8 aD ?_
    refine zQ (I2:=[[10],[6],[5],[]]) Z br aD (fun Kd hKd=>?_)
    refine zM cU Z Z Z Z Z (fun b141=>?_)
    refine hKd _ _ _ (hC (vW sK sQ (hC (zE (zR))))) ?_
    refine zO 9 aD ?_
    refine zQ (I2:=[[10],[],[],[]]) Z br aD (fun Kd hKd=>?_)
    refine cN 4 0 cU (fun A142 c142=>?_)
    refine hKd _ _ _ (hC (zE (zE (zE (zR))))) (zO 11 aD ?_)
    refine zQ (I2:=[[],[],[],[]]) Z br aD (fun Kd hKd=>?_)
    refine zF 5 (M':=[_,_,_,_,_,HA.blk _ [_,_,_,_,_] _,_,_,_]) Z Z Z Z fS Z Z Z (hKd _ _ _ (zE (zE (zE (zE (zR))))) ?_)
    refine tP 12 Z br (yB xG Z) (zO 13 aD ?_)
    refine zQ (I2:=[[],[],[],[]]) Z br aD (fun Kd hKd=>?_)
    refine zF 5 (M':=[_,_,_,_,_,HA.blk _ [_,_,_,_,_] _,_,_,_]) Z Z Z Z fT Z Z Z (hKd _ _ _ (zE (zE (zE (zE (zR))))) ?_)
    refine yG aD (rK 0 [89,88,87,11,2,1] Z Z ?_)
    refine rO 3 Z (yD Z Z aC ?_)
    refine oR 3 Z (wX 7 0 Z Z Z ?_)
    rw [vS (f:=fun x=>(us.map cW).getD x Aw) hld bD,vS (f:=fun x=>Value.string (ks.getD x ⟨#[]⟩)) hld rfl]
    exact kQ (hK1 (i3+1,_,_,_,_,_) bO au) (eC Z (eC Z (eC Z (eC Z (eC Z (eC Z (eN _))))))) (hD:=(cQ 0 Z sQ))
   refine zQ (I2:=[[6,1],[5,0],[]]) Z br aD (fun Kd hKd=>?_)
   refine zM cU Z Z Z Z Z (fun b141=>?_)
   refine hKd _ _ _ (vW sK sQ (hC (zE (zR)))) ?_
   refine zO 4 aD ?_
   refine zQ (I2:=[[6],[5],[]]) Z br aD (fun Kd hKd=>?_)
   refine cN 3 1 cH (fun A137 c137=>?_)
   refine hKd _ _ _ (vW sK sQ (hC (zE (zR)))) ?_
   refine zS (tP 10 Z br (yB xS Z) ?_)
   refine zO 9 aD ?_
   refine zQ (I2:=[[10],[],[],[]]) Z br aD (fun Kd hKd=>?_)
   refine cN 4 0 cU (fun A142 c142=>?_)
   refine hKd _ _ _ (hC (zE (zE (zE (zR))))) (zO 11 aD ?_)
   refine zQ (I2:=[[],[],[],[]]) Z br aD (fun Kd hKd=>?_)
   refine zF 5 (M':=[_,_,_,_,_,HA.blk _ [_,_,_,_,_] _,_,_,_]) Z Z Z Z fS Z Z Z (hKd _ _ _ (zE (zE (zE (zE (zR))))) ?_)
   refine tP 12 Z br (yB xG Z) (zO 13 aD ?_)
   refine zQ (I2:=[[],[],[],[]]) Z br aD (fun Kd hKd=>?_)
   refine zF 5 (M':=[_,_,_,_,_,HA.blk _ [_,_,_,_,_] _,_,_,_]) Z Z Z Z fT Z Z Z (hKd _ _ _ (zE (zE (zE (zE (zR))))) ?_)
   refine yG aD (rK 0 [89,88,87,11,2,1] Z Z ?_)
   refine rO 3 Z (yD Z Z aC ?_)
   refine oR 3 Z (wX 7 0 Z Z Z ?_)
   rw [vS (f:=fun x=>(us.map cW).getD x Aw) hld bD,vS (f:=fun x=>Value.string (ks.getD x ⟨#[]⟩)) hld rfl]
   exact kQ (hK1 (i3+1,_,_,_,_,_) bO au) (eC Z (eC Z (eC Z (eC Z (eC Z (eC Z (eN _))))))) (hD:=(cQ 0 Z sQ))
  refine zQ (I2:=[[6,1],[5,2,0],[]]) Z br aD (fun Kd hKd=>?_)
  refine zM cU Z Z Z Z Z (fun b141=>?_)
  refine hKd _ _ _ (vW sK sQ (hC (zE (zR)))) ?_
  refine zO 3 aD ?_
  refine zQ (I2:=[[6,1],[5,0],[]]) Z br aD (fun Kd hKd=>?_)
  refine zM cH Z Z Z Z Z (fun b136=>?_)
  refine hKd _ _ _ (vW sK sQ (hC (zE (zR)))) ?_
  refine zO 4 aD ?_
  refine zQ (I2:=[[6],[5],[]]) Z br aD (fun Kd hKd=>?_)
  refine cN 3 0 cH (fun A137 c137=>?_)
  refine hKd _ _ _ (vW sK sQ (hC (zE (zR)))) ?_
  refine zS (tP 10 Z br (yB xS Z) ?_)
  refine zO 9 aD ?_
  refine zQ (I2:=[[10],[],[],[]]) Z br aD (fun Kd hKd=>?_)
  refine cN 4 1 cU (fun A142 c142=>?_)
  refine hKd _ _ _ (hC (zE (zE (zE (zR))))) (zO 11 aD ?_)
  refine zQ (I2:=[[],[],[],[]]) Z br aD (fun Kd hKd=>?_)
  refine zF 5 (M':=[_,_,_,_,_,HA.blk _ [_,_,_,_,_] _,_,_,_]) Z Z Z Z fS Z Z Z (hKd _ _ _ (zE (zE (zE (zE (zR))))) ?_)
  refine tP 12 Z br (yB xG Z) (zO 13 aD ?_)
  refine zQ (I2:=[[],[],[],[]]) Z br aD (fun Kd hKd=>?_)
  refine zF 5 (M':=[_,_,_,_,_,HA.blk _ [_,_,_,_,_] _,_,_,_]) Z Z Z Z fT Z Z Z (hKd _ _ _ (zE (zE (zE (zE (zR))))) ?_)
  refine yG aD (rK 0 [89,88,87,11,2,1] Z Z ?_)
  refine rO 3 Z (yD Z Z aC ?_)
  refine oR 3 Z (wX 7 0 Z Z Z ?_)
  rw [vS (f:=fun x=>(us.map cW).getD x Aw) hld bD,vS (f:=fun x=>Value.string (ks.getD x ⟨#[]⟩)) hld rfl]
  exact kQ (hK1 (i3+1,_,_,_,_,_) bO au) (eC Z (eC Z (eC Z (eC Z (eC Z (eC Z (eN _))))))) (hD:=(cQ 0 Z sQ))
 obtain rfl:i3=us.length:=by omega
 have het:es.take us.length=es:=by rw [←hel];exact List.take_length
 rw [het]
 refine vD 0 (es.map fun x=>ks.getD x ⟨#[]⟩) Z bP (by rw [List.map_map];rfl) (by intro s hs;obtain⟨x,hx,rfl⟩:=List.mem_map.1 hs;rw [uW (gV hep2 _ hx)];exact hszs _ (List.getElem_mem _)) (rG 0 1 (es.map fun x=>(us.map cW).getD x Aw) Z Z bP (by rw [List.length_map,hel]) ?_)
 refine vM 1 0 Z Z (s:=⟨#[]⟩) (q:=5) (m:=0) aE (rO 4 Z ?_)
 refine zL 0 Z cA Z Z (zA ?_)
 refine zF 3 (M':=[_,_,_,HA.blk _ [_,_,_,_,_] _]) Z Z Z Z cM Z Z Z (oR 3 Z ?_)
 have hsv:cW (.mk 5 0 ⟨#[]⟩ ks us)= .mk 5 0 ⟨#[]⟩ (es.map fun x=>ks.getD x ⟨#[]⟩) (es.map fun x=>(us.map cW).getD x Aw):=by
  rw [i7 (sq Aw ks (us.map cW) es (by rw [List.length_map];exact hl) hnd hep2 hes),List.map_map,List.map_map]
  rfl
 rw [hsv]
 refine yV (M':=[HA.blk b2 [_,_,_,_,_] 25]) (by repeat (first|exact zN _|refine zB 0 Z ?_|refine zB 1 Z ?_|refine zB 2 Z ?_|refine zB 3 Z ?_|refine zB 4 Z ?_)) ?_
 exact wI 0 Tryz.results107 Z Z Z cA ⟨rfl,_,rfl,KA,kc,KI,ic,by simp only [V.kind,V.num,V.text,V.keys,V.items,List.length_map,hel],rfl⟩ nS (cC 0 Z)
theorem KU(fb:Addr)(u:V):Pl (cW u)→Eql u→Dd fb u:=by
  refine V.indS (p:=fun u=>Pl (cW u)→Eql u→Dd fb u) (fun u IH hp he=>?_) u
  have hk:=DG hp
  have hD: ∀ {b:Nat} {y:Y} {v:V},CtR Tryz.prog 166 #[cD b] [.node b y] (vp v)→CtR Tryz.prog 166 #[cD b] [.node b y,jB fb] (vp v):=fun h=>Ct.data h (fun d hd=>by rw [List.mem_singleton.1 hd];exact List.mem_cons_self)
  intro b
  by_cases h4:u.kind=4
  · obtain⟨hu,h60,hit⟩:=Jy hp he h4
    have h1:=IW fb b u.items h60 (fun x hx=>IH x (yU hx) (hit x hx).1 (hit x hx).2)
    rw [←so,←kT (q:=4) (n:=0) (s:=⟨#[]⟩) (ks:=[]) aE,←hu]at h1
    exact h1
  by_cases h5:u.kind=5
  · obtain⟨hu,hl,h60,hnd,hkw,hit⟩:=Jz hp he h5
    have h1:=IX fb b u.keys u.items hl h60 hnd (fun k hk=>by have:=(hkw k hk).1.2;unfold maxLen;omega) (fun x hx=>IH x (yU hx) (hit x hx).1 (hit x hx).2) _ rfl
    rw [←nu,←hu]at h1
    exact h1
  obtain⟨hpu,hu⟩:=DF hp h4 h5
  rw [hu]
  have hk8:(dC u).kind=8:=by rw [xo hk.1 hk.2,if_neg h4,if_neg h5]
  refine IV fb b _ u hk8 ?_
  have hnum:=hpu.num
  rcases(by omega:u.kind=0∨u.kind=1∨u.kind=2∨u.kind=3∨u.kind=6)with h|h|h|h|h
  · have hs:=fD hpu aC aC
    obtain⟨q,m,s,ks,ts⟩:=u
    simp only [V.kind]at h
    subst h
    simp only [V.kind,V.num,V.text,V.keys,V.items]at hs
    have e:V.mk 0 m s ks ts= .mk 0 0 ⟨#[]⟩ [] []:=by
      unfold cy at hs
      simp at hs
      simp [hs]
    rw [e,qE]
    exact hD (IS b)
  · obtain⟨hl,hn⟩:=gS hpu h
    rw [hl,gT]
    rcases hn with hn|hn
    · rw [hn];exact hD (IR b)
    · rw [hn];exact hD (IQ b)
  · have hl:=ld hpu h
    obtain⟨a1,a2⟩:=hnum.num aC
    rw [hl,lg]
    exact hD (IT b _ a1 a2)
  · have hl:=eW hpu h
    rw [hl,eX]
    exact hD (IP b _)
  · have hl:=Au hpu h
    obtain⟨a1,a2⟩:=hnum.num aC
    have h0:=hpu.frac h
    rw [hl,Av]
    exact IU fb b _ h0 a1 a2
end Go.Jw

namespace Go.Jw
open Go Go.RowKit Go.Proofs
set_option maxRecDepth 8000
section rules
variable {P:Program} {n:Nat} {F:List Nat} {c:Ctx F} {ops:Array Oper} {d:Nat} {T:TypeId} {l:List Oper} {k:List KI} {Q:Post} {e:cg} {M:List HA} {D:List DA}
theorem s7(i j:Nat){mb:Nat}{G:Gr}(hi:M[i]? =some (.many 124 (Gr.blks G)))(hj:D[j]? =some (.graph mb G))(hF:F=[])(next:bu P n c ops l k Q e (M.eraseIdx i) (.gr mb G::D)):bu P n c ops l k Q e M D:=
  gk (h:= .many 124 (Gr.blks G)) [.gr mb G] (fun x _ h=>by rw [hF]at h;cases h) (vC hi) (fun w ok h hok hD d hd=>by
    rcases List.mem_singleton.1 hd with rfl
    intro g hg
    have hm:(g.1,g.2.1)∈Gr.blks G:=List.mem_map.2 ⟨g,hg,rfl⟩
    refine⟨⟨hok _ ?_,h _ hm⟩,mb,(dget hD j hj:(DA.graph mb G).p w ok) g hg⟩
    simp only [HA.foot,List.mem_map]
    exact⟨_,hm,rfl⟩) next
end rules
def LF(t:V)(u:Value)(D':List DA):Prop:= ∃A1 c1 A2 c2,u= .agg #[.int .i64 0, .int .i64 t.kind, .int .i64 t.num, .string t.text, .slice A1 t.keys.length c1, .slice A2 t.items.length c2]∧D'=[.val (.agg #[.int .i64 t.kind, .int .i64 t.num, .string t.text, .slice A1 t.keys.length c1, .slice A2 t.items.length c2]) t]
theorem IY(fb:Addr){u:V}(hp:Pl (cW u))(he:Eql u)(b:Nat):CtR Tryz.prog 107 #[cD b] [.node b (dC u),sy fb] (vp (cW u)):=Ct.wide (KU fb u hp he b) (fun w ok h d hd=>by
 have h4:=h (sy fb) aJ
 simp only [List.mem_cons,List.not_mem_nil,or_false]at hd
 rcases hd with rfl|rfl
 ·exact h _ List.mem_cons_self
 ·exact h4.2)

theorem KV(ft:DA)(mb:Nat)(G:Gr)(v:V)(b:Nat)(hU:Unf G v b)(hC:mN ft mb G v):CtR Tryz.prog 108 #[cD b] [.gr mb G, .tab,ft] (fun u D'=> ∃y,df v y∧RN y u D'):=by
 refine Ct.of_run (args:=[cD b]) Tryz.func108 aF Z Tryz.ntmps108 Z (fun c=>?_)
 refine rO 10 Z (zX Z Z Z (hC b hU) (cQ 0 Z (ce 1 2 Z Z)) (fun u4 D4 hv4=>?_))
 obtain⟨y4,hy4,b4,rfl,rfl⟩:=hv4
 exact oR 3 Z (zD Tryz.results108 Z ⟨rfl,y4,hy4,b4,rfl,rfl⟩ nS (cC 0 Z))
theorem ML(fb:Addr)(mb:Nat)(G:Gr)(v:V)(b:Nat)(hU:Unf G v b)(hp:Pl v)(hs:IsShape v):CtR Tryz.prog 60 #[cD b] [.gr mb G, .tab,sy fb] (LF (wr v)):=by
 refine Ct.of_run (args:=[cD b]) Tryz.func60 aF Z Tryz.ntmps60 Z (fun c=>?_)
 refine rO 3 Z (zT HC Z (fun b2=>?_))
 change bu _ _ _ _ _ _ _ _ (HA.blk _ [_,_,_,_,_,_] _::_) _
 refine oO 7 Z (tQ fW Z Z ?_)
 refine oO 8 Z (zX Z Z Z (KV (sy fb) mb G v b hU (Jx (sy fb) mb G v (.inl (KR fb)) hp hs)) (cQ 0 Z (ce 1 2 Z Z)) (fun u10 D10 hv10=>?_))
 obtain⟨y10,hy10,b10,rfl,rfl⟩:=hv10
 obtain⟨u,rfl,hu,he⟩:=Ff v hp hs y10 hy10
 have hpu:Pl (cW u):=hu▸Ei hs hp
 refine zA (zX Z Z Z (IY fb hpu he b10) (ce 0 3 Z Z) (fun u11 D11 hv11=>?_))
 obtain⟨_,rfl,A11,m11,B11,d11,rfl,rfl⟩:=hv11
 rw [hu]
 refine oO 7 Z (zT cf Z (fun b3=>?_))
 change bu _ _ _ _ _ _ _ _ (HA.blk _ [_,_,_,_,_] _::_) _
 refine zA (zF 0 (M':=[HA.blk _ [_,_,_,_,_] _,_]) Z Z Z Z cM Z Z Z ?_)
 refine oK 3 [4,3,2] Z Z (rO 13 Z ?_)
 refine zL 0 Z cA Z Z (zA ?_)
 refine yX Z Z (FF ..) (zA ?_)
 refine zF 1 (M':=[_,HA.blk _ [_,_,_,_,_,_] _]) Z Z Z Z G8 Z Z Z (zY ?_)
 refine yV (M':=[HA.blk b2 [_,_,_,_,_,_] 34]) (by repeat (first|exact zN _|refine zB 0 Z ?_|refine zB 1 Z ?_|refine zB 2 Z ?_|refine zB 3 Z ?_|refine zB 4 Z ?_)) ?_
 exact xC 0 Tryz.results60 Z Z G7 ⟨rfl,A11,m11,B11,d11,rfl,rfl⟩ nS (cC 0 Z)
theorem c27(a b:V)(ha:Wf a)(hb:Wf b)(y:Value)(A1 A2:Option Addr)(c1 c2:Nat):dO Tryz.prog 27 #[.agg #[.int .i64 0, .int .i64 a.kind, .int .i64 a.num, .string a.text, .slice A1 a.keys.length c1, .slice A2 a.items.length c2],y] [.val (.agg #[.int .i64 a.kind, .int .i64 a.num, .string a.text, .slice A1 a.keys.length c1, .slice A2 a.items.length c2]) a, .val y b] (.bool (tb (di a=di b))):=by
 refine Ct.of_run (args:=[.agg #[.int .i64 0, .int .i64 a.kind, .int .i64 a.num, .string a.text, .slice A1 a.keys.length c1, .slice A2 a.items.length c2],y]) Tryz.func27 aF Z Tryz.ntmps27 Z (fun c=>?_)
 refine xA 1 Z (fun B1 m1 B2 m2 hy hsz hk1 hk2 hi1 hi2=>?_)
 subst hy
 refine rO 3 Z (yM Z Z Z (fun b2=>?_))
 refine zA (yM Z Z Z (fun b3=>?_))
 refine oR 4 Z (yW yH ?_)
 refine zS (tP 0 Z br (yB E7 Z) ?_)
 refine yI (tM 1 Z br (xD 1 eE Z Z Z) ?_)
 refine tM 2 Z br (lB Z Z) (zS ?_)
 refine tP 3 Z br (zZ Z) (mZ (s:=8) Z (rfl) ?_)
 refine tP 4 Z (cn Z Z) (yB E8 Z) (yI ?_)
 refine tM 5 Z (cn Z Z) (ze 1 Z cA Z Z Z) (tM 7 Z (cn Z Z) (sX 0 Z cA Z) ?_)
 refine zO 6 aD ?_
 refine zQ (I2:=[[7],[],[],[],[]]) Z (cn Z Z) aD (fun Kd hKd=>?_)
 refine zX Z Z Z (LE a ha _) aA (fun u11 D11 hv11=>?_)
 obtain⟨A11,m11,B11,d11,rfl,rfl⟩:=hv11
 refine hKd _ _ _ (hC (zE (zE (zE (zE (zR)))))) (zO 8 aD ?_)
 refine zQ (I2:=[[],[],[],[],[]]) Z (cn Z Z) aD (fun Kd hKd=>?_)
 refine zX Z Z Z (LE b hb _) aA (fun u13 D13 hv13=>?_)
 obtain⟨A13,m13,B13,d13,rfl,rfl⟩:=hv13
 refine hKd _ _ _ (zE (zE (zE (zE (zE (zR)))))) (zO 9 aD ?_)
 refine zQ (I2:=[[],[],[],[],[]]) Z (cn Z Z) aD (fun Kd hKd=>?_)
 refine zJ Z Z Z (c25 (di a) (di b) _ _) aB (hKd _ _ _ (zE (zE (zE (zE (zE (zR)))))) ?_)
 refine zS (tP 10 Z br (qD Z Z) ?_)
 refine tP 11 Z br (yY Z) (yG aD ?_)
 refine rK 0 [4] Z Z ?_
 exact zD Tryz.results27 Z ⟨rfl,rfl,rfl⟩ nS (fun _ h=>by cases h)
theorem F9{sh:Int}{x y:V}(h:y∈kidsOf sh x):y=x∨y∈x.items:=by
 unfold kidsOf at h
 (repeat' split at h)<;>first|(exact .inl (List.mem_singleton.1 h))|(exact .inr (List.mem_filter.1 h).1)|cases h
theorem GA{v x y:V}{sh:Int}(hp:Pl v)(hx:x∈v.items)(h:y∈kidsOf sh x):Pl y:=(F9 h).elim (fun e=>e▸hp.item x hx) (fun e=>(hp.item x hx).item y e)
theorem jE:bw dF=1:=by decide+kernel
theorem BR{U:Nat→V→Prop}{x:V}{fv:FVal}(h:FvRel U 9 x fv): ∃l ps,fv= .named l∧ps.Perm (x.keys.zip x.items)∧All2 (fun(q:ByteArray×Nat) (p:ByteArray×V)=>q.1=p.1∧U q.2 p.2) l ps:=by
 cases fv<;>try exact absurd h.1 aE
 case any=>exact absurd (show(9:Int)=14 from h) aE
 case named l=>
  obtain⟨_,ps,hp,hU⟩:=h
  exact⟨l,ps,rfl,hp,hU⟩
theorem s8{v x:V}{key:ByteArray}(hs:IsShape v)(hp:Pl v)(h9:bw key=9)(hx:getV v key=some x):Pl x∧x.kind=5∧ ∀ z∈x.items,z.kind=5∧IsShape z∧Pl z:=by
 obtain⟨j,hj1,hj2⟩:=qR hx
 obtain⟨hf,hkid,_⟩:=((wC v).1 hs).2 j _ _ hj1 hj2
 have hm:=List.mem_of_getElem? hj2
 rw [h9]at hf hkid
 obtain⟨h5,hi⟩:=fits9.1 ⟨hf,hkid⟩
 exact⟨hp.item x hm,h5,fun z hz=>⟨(hi z hz).kind,hi z hz,(hp.item x hm).item z hz⟩⟩
theorem BS(v:V):(bz v).keys.zip (bz v).items=((v.keys.zip v.items).filter (fun p=>eD p.1)).map (fun p=>(p.1,cF (bw p.1) bz p.2)):=by
  rw [sF]
  unfold cl
  simp only [V.keys,V.items]
  rw [List.zip_map]
  generalize (List.filter _ _)=l
  induction l with
  |nil=>rfl
  |cons a l ih=>simp [ih]
theorem gZ{v:V}(hs:IsShape v)(hp:Pl v):Pl (bz v):=hp.elim fun d h=>⟨d,sr v hs d h⟩
theorem rE{v:V}(hs:IsShape v)(hp:Pl v)(key:ByteArray):getV (bz v) key=if eD key=true then(getV v key).map (cF (bw key) bz)else none:=by
  have hget: ∀ y,getV (bz v) key=some y↔ ∃x,getV v key=some x∧eD key=true∧y=cF (bw key) bz x:=by
    intro y
    rw [←xB (gZ hs hp) (sP v),BS,List.mem_map]
    constructor
    · rintro ⟨⟨k',x⟩,hm,he⟩
      injection he with e1 e2
      subst e1;subst e2
      obtain⟨h1,h2⟩:=List.mem_filter.1 hm
      exact⟨x,(xB hp hs.kind).1 h1,h2,rfl⟩
    · rintro ⟨x,h1,h2,rfl⟩
      exact⟨(key,x),List.mem_filter.2 ⟨(xB hp hs.kind).2 h1,h2⟩,rfl⟩
  cases h:getV (bz v) key with
  |some y=>
    obtain⟨x,h1,h2,rfl⟩:=(hget y).1 h
    rw [if_pos h2,h1]
    rfl
  |none=>
    split
    · rename_i hk
      cases hv:getV v key with
      |none=>rfl
      |some x=>
        have:=(hget _).2 ⟨x,hv,hk,rfl⟩
        rw [h]at this
        cases this
    · rfl
theorem ta{w:World}{ok:Nat→Prop}{t:V}{y:Value}(h:ValP w ok t y): ∃A1 c1 A2 c2,y= .agg #[.int .i64 t.kind, .int .i64 t.num, .string t.text, .slice A1 t.keys.length c1, .slice A2 t.items.length c2]:=by
 obtain⟨q,r,s,ks,its⟩:=t
 simp only [ValP]at h
 obtain⟨kv,iv,rfl,_,⟨A1,c1,rfl,_⟩,A2,c2,rfl,_⟩:=h
 exact⟨A1,c1,A2,c2,rfl⟩
theorem x6(x:Value)(t:V)(key:ByteArray)(hkl:t.keys.length≤t.items.length):CtR Tryz.prog 62 #[x, .string key] [.val x t] (fun u D'=> ∃y,u= .tuple #[y, .bool (getV t key).isSome]∧RV ((getV t key).getD zV) y D'):=by
 refine⟨(LC x t key hkl).1,fun w ok hok hM hn hD=>Calls.mono ((LC x t key hkl).2 w ok hok hM hn hD) ?_⟩
 rintro e w' ⟨u,M',D',rfl,⟨hM',y,rfl,rfl⟩,hchg,hm,hn',hft,hd⟩
 obtain⟨A1,c1,A2,c2,hy⟩:=ta (hd _ List.mem_cons_self)
 exact⟨_,M',_,rfl,⟨hM',y,rfl,A1,c1,A2,c2,hy,rfl⟩,hchg,hm,hn',hft,hd⟩
end Go.Jw

namespace Go.Jw
open Go Go.RowKit
theorem qh(pre zs vs post:List Value)(h:zs.length=vs.length):dZ (pre++(zs++post)) pre.length vs=pre++(vs++post):=by
  induction vs generalizing pre zs with
  |nil=>
    have:zs=[]:=List.eq_nil_of_length_eq_zero h
    subst this
    rfl
  |cons v vs ih=>
    cases zs with
    |nil=>cases h
    |cons z zs=>
      have e:(pre++(z::zs++post)).set pre.length v=(pre++[v])++(zs++post):=by simp
      have:=ih (pre++[v]) zs bm
      rw [dZ,e]
      simp only [List.length_append,List.length_singleton]at this
      rw [this]
      simp
section rules
variable {P:Program} {n:Nat} {F:List Nat} {c:Ctx F} {ops:Array Oper} {d:Nat} {T:TypeId} {l:List Oper} {k:List KI} {Q:Post} {e:cg} {M:List HA} {D:List DA}
theorem tc(i:Nat){x y:Operand}{A:Option Addr}{m cap j:Nat}{kd:IntKind}{S E sz by_ U:Nat}{xs:List Value}(hS:cL P S E sz by_)(hx:ev e x=some (.slice A m cap))(hy:ev e y=some (.int kd (j:Nat)))(hi:M[i]? =some (.row A m cap U sz xs))(hj:j<m):
  St P n c (.indexAddr S x y) T e M D (.pointer (some (At A (j*sz)))):=by
 intro d a w hf
 have hrow:=hf.toFitsW.mem hi
 rcases hrow.2 with ⟨_,h⟩|⟨g,cap',cur,hv,_⟩
 ·omega
 ·injection hv with h4
  subst h4
  exact uH (T:=T) hS hx hy hj d a w hf
theorem j3(i:Nat){x y:Operand}{A:Option Addr}{m cap E sz S:Nat}{pre zs vs:List Value}{v:Value}(hx:ev e x=some (.pointer (some (At A (m*sz)))))(hy:ev e y=some v)(hi:M[i]? =some (.row A (m+1) cap E sz (pre++zs)))(hz:zs.length=sz)(hvs:vs.length=sz)(hv:v.cells=vs.toArray)
  (hs: ∃i,P.info? S=some i∧i.size=sz) (h1:vs.all (·.oneCell')=true) (next:bu P n c ops l k Q e (M.set i (.row A (m+1) cap E sz (pre++vs))) D):b0 P n c ops none (.store S x y) T l k Q e M D:=by
 intro a w hf
 have hrow:=hf.toFitsW.mem hi
 have hpl:pre.length=m*sz:=by
  have:=hrow.1
  rw [List.length_append,hz,Nat.succ_mul]at this
  omega
 rcases hrow.2 with ⟨_,h⟩|⟨g,cap',cur,hv',hg,hc,hnc,hm,hsz,ht⟩
 ·omega
 ·injection hv' with hA _ hcap
  subst hA;subst hcap
  have hcur:cur.toList=pre++(zs++cur.toList.drop ((m+1)*sz)):=by
   rw [←List.append_assoc,←ht,List.take_append_drop]
  have hcs:w.heap[g]? =some (.cells cur.toList.toArray E (0,0)):=by rw [Array.toArray_toList];exact hc
  obtain⟨w',hr,hh,hcg⟩:=fP (P:=P) (T':=S) (v:=v) (o:=pre.length) hcs hv (by rw [hvs];exact hs) (by rw [hcur];simp;omega) (fun u hu=>(List.all_eq_true.1 h1) u hu)
  have hadr:At (some ⟨g,0,none⟩) (m*sz)=⟨g,pre.length,none⟩:=by
   show(⟨g,0,none⟩:Addr).add (m*sz)=_
   rw [wS,Nat.zero_add,hpl]
  unfold Oper.wp
  have:(execOp a.eval (cu none (.store S x y) T)).run P w= .ok .skip w':=by simp [execOp,cu,hf.ev hx,hf.ev hy,hadr,hr]
  rw [this]
  refine next _ _ (hf.world (hf.toFitsW.swapAt hi (x':= .row (some ⟨g,0,none⟩) (m+1) cap E sz (pre++vs)) ?_ (by simpa [HA.foot]using hcg) bf (fun q hq=> .inl hq)))
  refine⟨by rw [List.length_append,hpl,hvs,Nat.succ_mul], .inr ⟨g,cap,_,rfl,Nat.zero_le _,hh,hnc,hm,?_,?_⟩⟩
  ·rw [List.size_toArray,kr];simpa using hsz
  ·have e:dZ cur.toList pre.length vs=pre++(vs++cur.toList.drop ((m+1)*sz)):=by
    conv=>lhs;rw [hcur]
    exact qh _ _ _ _ aC
   rw [e]
   show List.take ((m+1)*sz) (pre++(vs++_))=_
   rw [←List.append_assoc]
   exact List.take_left' (by rw [List.length_append,hpl,hvs,Nat.succ_mul])
theorem sR(i j:Nat){x y:Operand}{A:Option Addr}{m cap:Nat}{S E sz by_:Nat}{xs vs:List Value}{b:Nat}{U:TypeId}(hS:cL P S E sz by_)(hd:Nat.blt d n=true)(hx:ev e x=some (.slice A m cap))(hy:ev e y=some (.slice (some ⟨b,0,none⟩) 1 1))(hi:M[i]? =some (.row A m cap E sz xs))
  (hj:M[j]? =some (.blk b vs U)) (hl:vs.length=sz) (h1:vs.all (·.oneCell')=true) (hsz:m+1≤maxLen) (hby:(m+1)*by_≤140737488355328) (hA: ∀ a,A=some a→c.w0.heap.size≤a.block)
  (next: ∀ A' cap',(∀ a,A'=some a→c.w0.heap.size≤a.block)→bu P n c ops l k Q ((d, .slice A' (m+1) cap')::e) (M.set i (.row A' (m+1) cap' E sz (xs++vs))) D):
  b0 P n c ops (some d) (.call {callee:= .builtin .append,args:= #[x,y],argTypes:= #[S,S]}) T l k Q e M D:=
 lA i hS hd hx hy hi aC (fun w h=> .inr ⟨_,rfl,fun q u hq=>by rw [wS];exact dP h hj (by rw [Nat.zero_add];exact hq)⟩) (fun u hu=>List.all_eq_true.1 h1 u hu) hsz hby (fun A' cap' h=>next A' cap' (h hA))
theorem j4(i:Nat){h:HA}(D':List DA)(hfr: ∀ b∈h.foot,c.w0.heap.size≤b)(hi:M[i]? =some h)(hd: ∀ (w:World) (ok:Nat→Prop),h.holds w→(∀ b∈h.foot,ok b)→(∀ d∈D,d.p w ok)→ ∀ d∈D',d.p w ok)
  (next:Run P n c k Q e (M.eraseIdx i) (D'++D)):Run P n c k Q e M D:=
 rn D' (fun b hb hbF=>absurd (c.hF b hbF) (by have:=hfr b hb;omega)) (vC hi) hd next
theorem j5(i j:Nat){A:Option Addr}{m cap E:Nat}{xs:List Value}(ts:List V)(hA: ∀ a,A=some a→c.w0.heap.size≤a.block)(hi:M[i]? =some (.row A m cap E 5 xs))(hj:D[j]? =some (.its xs ts))(hm:m=ts.length)(next:Run P n c k Q e (M.eraseIdx i) (.vals (.slice A m cap) ts::D)):Run P n c k Q e M D:=
  j4 i [.vals (.slice A m cap) ts] (fun b hb=>by
    cases A with
    |none=>cases hb
    |some a=>rw [List.mem_singleton.1 hb];exact hA a rfl) hi (fun w ok h hok hD d hd=>by
    rcases List.mem_singleton.1 hd with rfl
    exact js h hok (hD _ (List.mem_of_getElem? hj)) hm) next
theorem eZ{fo:Operand}{ags:Array Operand}{ts:Array TypeId}{f:FuncId}{cap:Array Value}{vs:List Value}{pre M1:List HA}{D1:List DA}{R:Value→List HA→List DA→Prop}(hd:Nat.blt d n=true)(hfo:ev e fo=some (.func (.func f) #[] cap))(has:ags.toList.mapM (ev e)=some vs)
  (hct:Ct P f (vs.toArray++cap) M1 D1 R) (hM:M=pre++M1) (hD: ∀ d∈D1,d∈D)
  (next: ∀ v M' D',R v M' D'→bu P n c ops l k Q ((d,v)::e) (pre++M') (D'++D)):b0 P n c ops (some d) (.call {callee:= .value fo,args:=ags,argTypes:=ts}) T l k Q e M D:=by
 subst hM
 refine fun a w hf=>sU (M1:=M1) (M2:=pre) hd hfo has hct Z hD (fun v M' D' hR a' w' hf'=>next v M' D' hR a' w' (hf'.world (hf'.toFitsW.perm List.perm_append_comm))) a w (hf.world (hf.toFitsW.perm List.perm_append_comm))
end rules
end Go.Jw

namespace Go.Jw
open Go Go.RowKit Go.Proofs
def HE(M N:List HA):Prop:=(∀ w:World,(∀ h∈M,h.holds w)↔ ∀ h∈N,h.holds w)∧(foots M).Perm (foots N)
theorem HE.refl(M:List HA):HE M M:=⟨fun _=>Iff.rfl, .refl _⟩
theorem HE.symm{M N:List HA}(h:HE M N):HE N M:=⟨fun w=>(h.1 w).symm,h.2.symm⟩
theorem HE.trans{M N L:List HA}(h:HE M N)(k:HE N L):HE M L:=⟨fun w=>(h.1 w).trans (k.1 w),h.2.trans k.2⟩
theorem HE.perm{M N:List HA}(h:M.Perm N):HE M N:=⟨fun w=>⟨fun a x hx=>a x (h.mem_iff.2 hx),fun a x hx=>a x (h.mem_iff.1 hx)⟩,kn h⟩
theorem HE.append{M N M' N':List HA}(h:HE M N)(k:HE M' N'):HE (M++M') (N++N'):=by
 refine⟨fun w=>?_,by rw [yK,yK];exact h.2.append k.2⟩
 have e: ∀ A B:List HA,(∀ x∈A++B,x.holds w)↔(∀ x∈A,x.holds w)∧ ∀ x∈B,x.holds w:=fun A B=>
  ⟨fun a=>⟨fun x hx=>a x (List.mem_append_left _ hx),fun x hx=>a x (List.mem_append_right _ hx)⟩,fun a x hx=>(List.mem_append.1 hx).elim (a.1 x) (a.2 x)⟩
 rw [e,e,h.1 w,k.1 w]
theorem FitsW.he{F:List Nat}{c:Ctx F}{M N:List HA}{D:List DA}{w:World}(h:FitsW c M D w)(he:HE M N):FitsW c N D w:=
 ⟨h.chg,(he.1 w).1 h.own,he.2.nodup_iff.1 h.nodup,fun b hb=>h.foot b (he.2.mem_iff.2 hb),fun d hd=>
  d.mono (fun k hk=>⟨hk.1,hk.2.1,fun h'=>hk.2.2 (he.2.mem_iff.2 h')⟩) (fun _ _=>rfl) (h.dat d hd)⟩
theorem Ct.know{P:Program}{f:FuncId}{args:Array Value}{M:List HA}{D:List DA}{R:Value→List HA→List DA→Prop}{p:Prop}(hp:(foots M).Nodup→ ∀ (w:World) (ok:Nat→Prop),(∀ d∈D,d.p w ok)→p)(hF:rk P f)(h:p→Ct P f args M D R):Ct P f args M D R:=
 ⟨hF,fun w ok hok hM hn hD=>(h (hp hn w ok hD)).2 w ok hok hM hn hD⟩

abbrev cZ:=Nat→Option Flds
def vr(σ:cZ)(b:Nat)(o:Option Flds):cZ:=fun d=>if d=b then o else σ d
theorem ec(σ:cZ)(b:Nat)(o:Option Flds):vr σ b o b=o:=if_pos rfl
theorem f8{σ:cZ}{b d:Nat}(h:d≠b)(o:Option Flds):vr σ b o d=σ d:=if_neg h
theorem BT{σ:cZ}{b:Nat}{o:Option Flds}(h:σ b=o):vr σ b o=σ:=by
 funext x
 by_cases h1:x=b
 ·rw [h1,ec,h]
 ·rw [f8 h1]
def GOk(G:Gr)(σ:cZ):Prop:=(G.map (·.1)).Nodup∧ ∀ b f,G.at b f↔σ b=some f
theorem GOk.ex{G:Gr}(h:(G.map (·.1)).Nodup): ∃σ,GOk G σ:=by
  induction G with
  |nil=>exact⟨fun _=>none,h,fun b f=>⟨(fun⟨cs,hm⟩=>absurd hm aJ),(fun h=>by cases h)⟩⟩
  |cons g G ih=>
    rw [List.map_cons,List.nodup_cons]at h
    obtain⟨σ,h1,h2⟩:=ih h.2
    refine⟨vr σ g.1 (some g.2.2),by rw [List.map_cons,List.nodup_cons];exact h,fun b f=>?_⟩
    by_cases hb:b=g.1
    · subst hb
      rw [ec]
      constructor
      · rintro ⟨cs,hm⟩
        rcases List.mem_cons.1 hm with e|e
        · rw [←e]
        · exact absurd (List.mem_map.2 ⟨_,e,rfl⟩) h.1
      · intro e
        injection e with e
        exact⟨g.2.1,by rw [←e];exact List.mem_cons_self⟩
    · rw [f8 hb,←h2]
      constructor
      · rintro ⟨cs,hm⟩
        rcases List.mem_cons.1 hm with e|e
        · exact absurd (congrArg Prod.fst e) hb
        · exact⟨cs,e⟩
      · rintro ⟨cs,hm⟩
        exact⟨cs,List.mem_cons_of_mem _ hm⟩
theorem GOk.perm{G G':Gr}{σ:cZ}(h:GOk G σ)(hp:G.Perm G'):GOk G' σ:=
 ⟨(hp.map _).nodup_iff.1 h.1,fun b f=>by rw [←h.2];exact⟨fun⟨cs,hm⟩=>⟨cs,hp.mem_iff.2 hm⟩,fun⟨cs,hm⟩=>⟨cs,hp.mem_iff.1 hm⟩⟩⟩
theorem GOk.tail{g:Nat×List Value×Flds}{R:Gr}{σ:cZ}(h:GOk (g::R) σ):GOk R (vr σ g.1 none):=by
 have hn:=h.1
 rw [List.map_cons,List.nodup_cons]at hn
 refine⟨hn.2,fun b f=>?_⟩
 by_cases hb:b=g.1
 ·subst hb
  rw [ec]
  exact⟨fun⟨cs,hm⟩=>absurd (List.mem_map.2 ⟨_,hm,rfl⟩) hn.1,fun e=>by cases e⟩
 ·rw [f8 hb,←h.2]
  constructor
  ·rintro ⟨cs,hm⟩;exact⟨cs,List.mem_cons_of_mem _ hm⟩
  ·rintro ⟨cs,hm⟩
   rcases List.mem_cons.1 hm with e|e
   ·exact absurd (congrArg Prod.fst e) hb
   ·exact⟨cs,e⟩
theorem GOk.join{R:Gr}{σ:cZ}{b:Nat}(h:GOk R (vr σ b none))(cs:List Value)(f:Flds):GOk ((b,cs,f)::R) (vr σ b (some f)):=by
 have hno: ∀ cs f,(b,cs,f)∉R:=fun cs f hm=>by
  have:=(h.2 b f).1 ⟨cs,hm⟩
  rw [ec]at this
  cases this
 refine⟨?_,fun d f'=>?_⟩
 ·rw [List.map_cons,List.nodup_cons]
  refine⟨fun hm=>?_,h.1⟩
  obtain⟨⟨b',cs',f'⟩,h1,h2⟩:=List.mem_map.1 hm
  exact hno cs' f' (by rw [show b=b' from h2.symm];exact h1)
 ·by_cases hb:d=b
  ·subst hb
   rw [ec]
   constructor
   ·rintro ⟨cs',hm⟩
    rcases List.mem_cons.1 hm with e|e
    ·injection e with _ e;injection e with _ e;rw [e]
    ·exact absurd e (hno _ _)
   ·intro e;injection e with e;exact⟨cs,by rw [e];exact List.mem_cons_self⟩
  ·rw [f8 hb]
   have:=h.2 d f'
   rw [f8 hb]at this
   rw [←this]
   constructor
   ·rintro ⟨cs',hm⟩
    rcases List.mem_cons.1 hm with e|e
    ·exact absurd (congrArg Prod.fst e) hb
    ·exact⟨cs',e⟩
   ·rintro ⟨cs',hm⟩;exact⟨cs',List.mem_cons_of_mem _ hm⟩
theorem GOk.split{G:Gr}{σ:cZ}{b:Nat}{f:Flds}(h:GOk G σ)(hb:σ b=some f): ∃cs R,G.Perm ((b,cs,f)::R)∧GOk R (vr σ b none):=by
 obtain⟨cs,hm⟩:=(h.2 b f).2 hb
 obtain⟨s,t,rfl⟩:=List.append_of_mem hm
 have hp:(s++(b,cs,f)::t).Perm ((b,cs,f)::(s++t)):=List.perm_middle
 exact⟨cs,s++t,hp,(h.perm hp).tail⟩
theorem x7{G G':Gr}(h:G.Perm G'):(Gr.blks G).Perm (Gr.blks G'):=h.map _
theorem BU{U:TypeId}{gs gs':List (Nat×List Value)}(h:gs.Perm gs'):HE [.many U gs] [.many U gs']:=
 ⟨fun w=>by
  constructor<;>intro a x hx<;>rcases List.mem_singleton.1 hx with rfl<;>intro g hg
  ·exact(a _ List.mem_cons_self:(HA.many U gs).holds w) g (h.mem_iff.2 hg)
  ·exact(a _ List.mem_cons_self:(HA.many U gs').holds w) g (h.mem_iff.1 hg),by simpa [foots,HA.foot]using h.map _⟩
theorem BV(U:TypeId)(b:Nat)(cs:List Value)(gs:List (Nat×List Value)):HE [.many U ((b,cs)::gs)] [.blk b cs U, .many U gs]:=
 ⟨fun w=>by
  constructor
  ·intro a x hx
   have h1:(HA.many U ((b,cs)::gs)).holds w:=a _ List.mem_cons_self
   simp only [List.mem_cons,List.not_mem_nil,or_false]at hx
   rcases hx with rfl|rfl
   ·exact h1 (b,cs) List.mem_cons_self
   ·exact fun g hg=>h1 g (List.mem_cons_of_mem _ hg)
  ·intro a x hx
   rcases List.mem_singleton.1 hx with rfl
   intro g hg
   rcases List.mem_cons.1 hg with rfl|hg
   ·exact(a _ List.mem_cons_self:(HA.blk b cs U).holds w)
   ·exact(a _ (List.mem_cons_of_mem _ List.mem_cons_self):(HA.many U gs).holds w) g hg,by simp [foots,HA.foot]⟩
theorem qk{G R:Gr}{b:Nat}{cs:List Value}{f:Flds}(h:G.Perm ((b,cs,f)::R)):HE [.many 124 (Gr.blks G)] [.blk b cs 124, .many 124 (Gr.blks R)]:=
 (BU (x7 h)).trans (BV 124 b cs (Gr.blks R))
theorem td{U:TypeId}{gs:List (Nat×List Value)}{M:List HA}(h:(foots (.many U gs::M)).Nodup):(gs.map (·.1)).Nodup:=(List.nodup_append.1 h).1
theorem ql{G:Gr}{M:List HA}(h:(foots (.many 124 (Gr.blks G)::M)).Nodup):(G.map (·.1)).Nodup:=by
 have:=td h
 rw [Gr.blks,List.map_map]at this
 exact this
def Flds.put(f:Flds)(i:Nat)(o:Option FVal):Flds:=fun j=>if j=i then o else f j
section rules
variable {P:Program} {n:Nat} {F:List Nat} {c:Ctx F} {ops:Array Oper} {d:Nat} {T:TypeId} {l:List Oper} {k:List KI} {Q:Post} {e:cg} {M:List HA} {D:List DA}
theorem GB{N:List HA}(he:HE M N)(next:Run P n c k Q e N D):Run P n c k Q e M D:=fun a w hf=>next a w (hf.world (hf.toFitsW.he he))
theorem oF{N:List HA}(he:HE M N)(next:bu P n c ops l k Q e N D):bu P n c ops l k Q e M D:=fun a w hf=>next a w (hf.world (hf.toFitsW.he he))
theorem fG{w:World}{ok:Nat→Prop}{mb:Nat}{cs:List Value}{f:Flds}(h:CellsP w ok mb cs f){i:Nat}(h1:1≤i)(h2:i≤36): ∃p:Option Addr,cs[i]? =some (.pointer p)∧p.isSome=(f i).isSome∧ ∀ fv,f i=some fv→FvP w ok fv (.pointer p):=by
  obtain⟨u,hu,hm⟩:=h.2.2 i h1 h2
  cases hf:f i with
  |none=>
    rw [hf]at hm
    exact⟨none,by rw [hu];exact congrArg some hm,rfl,fun fv h=>by cases h⟩
  |some fv=>
    rw [hf]at hm
    have: ∃p:Addr,u= .pointer (some p):=by
      cases fv with
      |text s=>obtain⟨p,a,b⟩:=hm;exact⟨_,a⟩
      |bool x=>obtain⟨p,a,b⟩:=hm;exact⟨_,a⟩
      |int n=>obtain⟨p,a,b⟩:=hm;exact⟨_,a⟩
      |numI n=>obtain⟨b,p,a,c⟩:=hm;exact⟨_,a⟩
      |numF n=>obtain⟨b,p,a,c⟩:=hm;exact⟨_,a⟩
      |sbS c=>obtain⟨b,a,d⟩:=hm;exact⟨_,a⟩
      |sbB x=>obtain⟨b,p,a,c⟩:=hm;exact⟨_,a⟩
      |itS c=>obtain⟨b,a,d⟩:=hm;exact⟨_,a⟩
      |itL bs=>obtain⟨b,p,sl,a,c⟩:=hm;exact⟨_,a⟩
      |texts l=>obtain⟨p,sl,a,d⟩:=hm;exact⟨_,a⟩
      |named l=>obtain⟨p,sl,nbs,a,d⟩:=hm;exact⟨_,a⟩
      |deps l=>obtain⟨p,sl,nbs,a,d⟩:=hm;exact⟨_,a⟩
      |enums l=>obtain⟨p,A,c,a,d⟩:=hm;exact⟨_,a⟩
      |tyS s=>obtain⟨b,p,a,c⟩:=hm;exact⟨_,a⟩
      |tyL l=>obtain⟨b,p,sl,a,c⟩:=hm;exact⟨_,a⟩
      |list bs=>obtain⟨p,sl,a,d⟩:=hm;exact⟨_,a⟩
      |one c=>exact⟨_,hm⟩
      |any=>obtain⟨p,a⟩:=hm;exact⟨_,a⟩
    obtain⟨p,rfl⟩:=this
    exact⟨some p,hu,rfl,fun fv' h=>by injection h with h;subst h;exact hm⟩
theorem lz{w:World}{ok:Nat→Prop}{mb:Nat}{cs:List Value}{f:Flds}(h:CellsP w ok mb cs f){i:Nat}(h1:1≤i){p:Option Addr}{o:Option FVal}(hp:p.isSome=o.isSome)(ho: ∀ fv,o=some fv→FvP w ok fv (.pointer p)):CellsP w ok mb (cs.set i (.pointer p)) (f.put i o):=by
  refine⟨by simp [h.1],by rw [List.getElem?_set_ne aC];exact h.2.1,fun q hq hq2=>?_⟩
  by_cases hoq:q=i
  · subst hoq
    refine⟨.pointer p,by rw [List.getElem?_set_self bc],?_⟩
    simp only [Flds.put,if_true]
    cases o with
    |none=>cases p with
      |none=>rfl
      |some a=>cases hp
    |some fv=>exact ho fv rfl
  · obtain⟨u',hu',hm⟩:=h.2.2 q hq hq2
    exact⟨u',by rw [List.getElem?_set_ne aC];exact hu',by simp only [Flds.put,if_neg hoq];exact hm⟩
end rules
end Go.Jw

namespace Go.Jw
open Go Go.RowKit
def gA(q:Nat)(f s:Flds):Flds:=fun i=>if i=q then(s i).or (f i)else f i
theorem BW(l:List Nat)(hn:l.Nodup)(f s:Flds):l.foldl (fun g q=>gA q g s) f=fun i=>if i∈l then(s i).or (f i)else f i:=by
  induction l generalizing f with
  |nil=>funext i;simp
  |cons q l ih=>
    rw [List.nodup_cons]at hn
    rw [List.foldl_cons,ih hn.2]
    funext i
    by_cases hi:i∈l
    · have hq:i≠q:=fun e=>hn.1 (e▸hi)
      simp [hi,gA,hq]
    · by_cases hq:i=q
      · subst hq;simp [hi,gA]
      · simp [hi,gA,hq]
section rules
variable {P:Program} {n:Nat} {F:List Nat} {c:Ctx F} {ops:Array Oper} {d:Nat} {T:TypeId} {l:List Oper} {k:List KI} {Q:Post} {e:cg} {M:List HA} {D:List DA}
theorem nE(t:Nat)(v:Value)(e:cg):cc ((t,v)::e) t=some v:=by rw [vK,if_pos rfl]
theorem vt{t s:Nat}(v:Value)(e:cg)(h:s≠t):cc ((s,v)::e) t=cc e t:=by rw [vK,if_neg h]
theorem GC{a n:Nat}(h:a<n):Nat.blt a n=true:=by simpa using h
theorem xI{b s mb mb2:Nat}{cs cs2:List Value}{f f2:Flds}(a q T:Nat)(ha:2≤a)(hn:a+11<n)(h1:1≤q)(h2:q≤36)(hT:cJ P T)(hfo:bx P 124 q q)(hpn:P.underlying T=some (.pointer (P.pointee T)))(hsi: ∃i,P.info? T=some i∧i.size=1)
    {i1 i2:Nat} {A1 A2 A3 A4 A5 B1 B2 B3 B4 B5 B6 B7 B8 C1:TypeId} {p1 p2 p3 p4 p5 q1 q2 q3 q4 q5 q6 q7 q8:String} {e1 e2 e3 e4 e5 g1 g2 g3 g4 g5 g6 g7 g8:Array Edge}
    (next: ∀ cs',Run P n c k Q [(0,cD b),(1,cD s)] [.blk b cs' 124, .blk s cs2 124] [.flds mb cs' (gA q f f2), .flds mb2 cs2 f2]):
    Run P n c (.code (.seq (.region i1 #[⟨some a, .move (.tmp 1),A1,p1,e1,none⟩,⟨some (a+1), .nilCheck (.tmp a),A2,p2,e2,none⟩,⟨some (a+2), .fieldAddr 124 (.tmp (a+1)) q,A3,p3,e3,none⟩,⟨some (a+3), .load T (.tmp (a+2)),A4,p4,e4,none⟩,⟨some (a+4), .binOp .neq T (.tmp (a+3)) (.const (.pointer none)) C1,A5,p5,e5,none⟩] false)
      (.cond (.tmp (a+4)) (.region i2 #[⟨some (a+5), .move (.tmp 0),B1,q1,g1,none⟩,⟨some (a+6), .move (.tmp 1),B2,q2,g2,none⟩,⟨some (a+7), .nilCheck (.tmp (a+6)),B3,q3,g3,none⟩,⟨some (a+8), .fieldAddr 124 (.tmp (a+7)) q,B4,q4,g4,none⟩,⟨some (a+9), .load T (.tmp (a+8)),B5,q5,g5,none⟩,⟨some (a+10), .nilCheck (.tmp (a+5)),B6,q6,g6,none⟩,⟨some (a+11), .fieldAddr 124 (.tmp (a+10)) q,B7,q7,g7,none⟩,⟨none, .store T (.tmp (a+11)) (.tmp (a+9)),B8,q8,g8,none⟩] false) .skip))::k)
      Q [(0,cD b),(1,cD s)] [.blk b cs 124, .blk s cs2 124] [.flds mb cs f, .flds mb2 cs2 f2]:=by
  have ev1: ∀ (t:Nat) (v:Value) (e:cg),ev ((t,v)::e) (.tmp t)=some v:=fun t v e=>nE t v e
  have evn: ∀ (t s:Nat) (v:Value) (e:cg),s≠t→ev ((s,v)::e) (.tmp t)=ev e (.tmp t):=fun t s v e h=>vt v e h
  have hbl: ∀ j,j≤11→Nat.blt (a+j) n=true:=fun j hj=>GC aC
  refine uN (p:=cs.length=37) (fun w ok h=>(h (.flds mb cs f) aJ).1) (fun hcl=>?_)
  refine uN (p:= ∃p:Option Addr,cs2[q]? =some (.pointer p)∧p.isSome=(f2 q).isSome) (fun w ok h=>?_) (fun⟨p,hcp,hps⟩=>?_)
  · obtain⟨p,a1,a2,_⟩:=fG (h (.flds mb2 cs2 f2) aJ) h1 h2
    exact⟨p,a1,a2⟩
  refine xJ (gi (zA ?_))
  refine kF (hbl 0 aC) (v:=cD s) (by rw [evn 1 0 _ _ aE];exact ev1 1 _ _) (zA ?_)
  refine qV (hbl 1 aC) (ev1 _ _ _) (zA ?_)
  refine zC hfo (hbl 2 aC) (ev1 _ _ _) (zA ?_)
  refine tZ 1 hT (hbl 3 aC) (ev1 _ _ _) Z (by rw [Nat.zero_add];exact hcp) (zA ?_)
  refine yF hpn (hbl 4 aC) (ev1 _ _ _) (zY ?_)
  refine zU (ev1 _ _ _) (fun hb=>?_) (fun hb=>?_)
  · refine gi (zA ?_)
    refine kF (hbl 5 aC) (v:=cD b) (by(repeat rw [evn 0 _ _ _ aC]);exact ev1 0 _ _) (zA ?_)
    refine kF (hbl 6 aC) (v:=cD s) (by(repeat rw [evn 1 _ _ _ aC]);exact ev1 1 _ _) (zA ?_)
    refine qV (hbl 7 aC) (ev1 _ _ _) (zA ?_)
    refine zC hfo (hbl 8 aC) (ev1 _ _ _) (zA ?_)
    refine tZ 1 hT (hbl 9 aC) (ev1 _ _ _) Z (by rw [Nat.zero_add];exact hcp) (zA ?_)
    refine qV (p:=⟨b,0,none⟩) (hbl 10 aC) (by(repeat rw [evn (a+5) _ _ _ aC]);exact ev1 _ _ _) (zA ?_)
    refine zC hfo (hbl 11 aC) (ev1 _ _ _) (zA ?_)
    rw [Nat.zero_add]
    refine eP 0 (v:= .pointer p) (ev1 _ _ _) (by(repeat rw [evn (a+9) _ _ _ aC]);exact ev1 _ _ _) Z Z Z hsi aC (zY ?_)
    refine gF (e':=[(0,cD b),(1,cD s)]) (eC aq (eC aq (eN _))) ?_
    refine uY (fun w ok h x hx=>?_) (next (cs.set q (.pointer p)))
    have hf1:CellsP w ok mb cs f:=h (.flds mb cs f) aJ
    have hf2:CellsP w ok mb2 cs2 f2:=h (.flds mb2 cs2 f2) aJ
    simp only [List.mem_cons,List.not_mem_nil,or_false]at hx
    rcases hx with rfl|rfl
    · obtain⟨p',a1,a2,a3⟩:=fG hf2 h1 h2
      rw [hcp]at a1
      injection a1 with a1
      injection a1 with a1
      subst a1
      have e:gA q f f2=f.put q (f2 q):=by
        funext i
        unfold gA Flds.put
        by_cases hi:i=q
        · subst hi
          rw [if_pos rfl,if_pos rfl]
          cases hfi:f2 i with
          |none=>rw [hfi]at a2;rw [hb]at a2;cases a2
          |some fv=>rfl
        · rw [if_neg hi,if_neg hi]
      show CellsP w ok mb (cs.set q (.pointer p)) (gA q f f2)
      rw [e]
      exact lz hf1 h1 a2 a3
    · exact hf2
  · refine xY ?_
    refine gF (e':=[(0,cD b),(1,cD s)]) (eC aq (eC aq (eN _))) ?_
    have e:gA q f f2=f:=by
      funext i
      unfold gA
      by_cases hi:i=q
      · subst hi
        rw [if_pos rfl]
        cases hfi:f2 i with
        |none=>rfl
        |some fv=>rw [hfi,hb]at hps;cases hps
      · rw [if_neg hi]
    have:=next cs
    rw [e]at this
    exact this
end rules
end Go.Jw

namespace Go.Jw
open Go Go.RowKit Go.Proofs
set_option maxRecDepth 8000
abbrev kh:=List (ByteArray×V)
def lk(l:kh)(k:ByteArray):Option V:=(l.find? (fun p=>decide (p.1=k))).map (·.2)
theorem oG(p:ByteArray×V)(l:kh)(k:ByteArray):lk (p::l) k=if p.1=k then some p.2 else lk l k:=by
 unfold lk
 rw [List.find?_cons]
 by_cases h:p.1=k
 ·simp [h]
 ·simp [h]
theorem GD(l:kh)(f:ByteArray→V→V)(k:ByteArray):lk (l.map fun p=>(p.1,f p.1 p.2)) k=(lk l k).map (f k):=by
  induction l with
  |nil=>rfl
  |cons p l ih=>
    rw [List.map_cons,oG,oG,ih]
    split
    · rename_i h;simp only at h;rw [h];rfl
    · rfl
theorem te(ks:List ByteArray)(ts:List V)(key:ByteArray)(h:ks.length≤ts.length):(if ks.findIdx (fun x=>decide (x=key))<ks.length then ts[ks.findIdx (fun x=>decide (x=key))]? else none)=lk (ks.zip ts) key:=by
  induction ks generalizing ts with
  |nil=>rfl
  |cons k ks ih=>
    cases ts with
    |nil=>simp at h
    |cons t ts=>
      rw [List.zip_cons_cons,oG,List.findIdx_cons]
      by_cases hk:k=key
      · simp [hk]
      · have:=ih ts bm
        simp only [hk,decide_false,cond_false,if_false,List.length_cons,Nat.add_lt_add_iff_right,List.getElem?_cons_succ]
        exact this
theorem vu{v:V}(h:v.keys.length≤v.items.length)(key:ByteArray):getV v key=lk (v.keys.zip v.items) key:=by
 rw [←te _ _ _ h]
 unfold getV dX
 split
 ·rename_i hlt
  rw [if_neg aC]
  simp
 ·rw [if_pos rfl]
def CU(l:kh):V:= .mk 5 0 ⟨#[]⟩ (l.map (·.1)) (l.map (·.2))
theorem oH(l:kh):(CU l).keys.zip (CU l).items=l:=by
  show(l.map (·.1)).zip (l.map (·.2))=l
  induction l with
  |nil=>rfl
  |cons p l ih=>simp [ih]
theorem BX(l:kh)(key:ByteArray):getV (CU l) key=lk l key:=by
 rw [vu (by simp [CU,V.keys,V.items]),oH]

def Gz(l:kh):Prop:=l.Pairwise (fun a b=>rl a.1<rl b.1)
theorem tf{ks:List ByteArray}(h:dV ks)(ts:List V):Gz (ks.zip ts):=f3 (mv h)
theorem x8{v:V}(hp:Pl v)(hk:v.kind=5)(h: ∀ key x,getV v key=some x→cB (bw key) x∧(∀ z∈kidsOf (bw key) x,IsShape z)∧(key=kId→ ∃u,getV v dF=some u∧cz u.text)):IsShape v:=by
 refine(wC v).2 ⟨hk,fun j k x hj hx=>h k x ((xB hp hk).1 ?_)⟩
 refine List.mem_of_getElem? (i:=j) ?_
 rw [List.getElem?_zip_eq_some]
 exact⟨hj,hx⟩
theorem uC{v:V}(hs:IsShape v){key:ByteArray}{x:V}(h:getV v key=some x):cB (bw key) x∧(∀ z∈kidsOf (bw key) x,IsShape z)∧(key=kId→ ∃u,getV v dF=some u∧cz u.text):=by
 obtain⟨j,hj1,hj2⟩:=qR h
 exact((wC v).1 hs).2 j _ _ hj1 hj2
theorem All2.map{α β γ:Type}{R:α→β→Prop}{S:α→γ→Prop}{g:β→γ}{l:List α}{l':List β}(h: ∀ a b,a∈l→b∈l'→R a b→S a (g b))(h2:All2 R l l'):All2 S l (l'.map g):=by
  refine⟨by rw [List.length_map];exact h2.1,fun i a b ha hb=>?_⟩
  rw [List.getElem?_map]at hb
  cases hl:l'[i]? with
  |none=>rw [hl]at hb;cases hb
  |some b'=>
    rw [hl]at hb
    injection hb with hb
    rw [←hb]
    exact h a b' (List.mem_of_getElem? ha) (List.mem_of_getElem? hl) (h2.2 i a b' ha hl)
theorem BY(ks:List ByteArray)(ts:List V)(g:V→V):ks.zip (ts.map g)=(ks.zip ts).map (fun p=>(p.1,g p.2)):=by
  induction ks generalizing ts with
  |nil=>rfl
  |cons k ks ih=>cases ts with
    |nil=>rfl
    |cons t ts=>simp [ih]
theorem FvRel.turn{U U':Nat→V→Prop}{g:V→V}(hg: ∀ z,(g z).kind=5){sh:Int}{x:V}{fv:FVal}(hfit:cB sh x)(h: ∀ c z,c∈dS fv→z∈kidsOf sh x→U c z→U' c (g z))(hf:FvRel U sh x fv):FvRel U' sh (cF sh g x) fv:=by
  have all5: ∀ (hi: ∀ y∈x.items,y.kind=5),∀ y∈x.items,cb g y=g y:=fun hi y hy=>wH (hi y hy)
  cases fv with
  |text s=>obtain⟨rfl,h2⟩:=hf;exact⟨rfl,h2⟩
  |bool s=>obtain⟨rfl,h2⟩:=hf;exact⟨rfl,h2⟩
  |int s=>obtain⟨rfl,h2⟩:=hf;exact⟨rfl,h2⟩
  |numI s=>obtain⟨rfl,h2⟩:=hf;exact⟨rfl,h2⟩
  |numF s=>obtain⟨rfl,h2⟩:=hf;exact⟨rfl,h2⟩
  |sbS b=>
    obtain⟨rfl,h5,hu⟩:=hf
    have e:cF 6 g x=g x:=by simp [cF,h5]
    rw [e]
    exact⟨rfl,hg x,h b x bo bY hu⟩
  |sbB s=>
    obtain⟨rfl,h1,h2⟩:=hf
    have e:cF 6 g x=x:=by simp [cF,h1]
    rw [e]
    exact⟨rfl,h1,h2⟩
  |itS b=>
    obtain⟨rfl,h5,hu⟩:=hf
    have e:cF 7 g x=g x:=by simp [cF,h5]
    rw [e]
    exact⟨rfl,hg x,h b x bo bY hu⟩
  |itL bs=>
    obtain⟨rfl,h4,hu⟩:=hf
    have hi: ∀ y∈x.items,y.kind=5:=by simpa [cB,h4]using hfit
    have e:cF 7 g x=cP g x:=by simp [cF,h4]
    rw [e]
    refine⟨rfl,h4,?_⟩
    show All2 U' bs (x.items.map (cb g))
    exact hu.map fun a b ha hb hab=>by rw [all5 hi b hb];exact h a b ha (by rw [fC h4 hi];exact hb) hab
  |texts l=>obtain⟨rfl,h2⟩:=hf;exact⟨rfl,h2⟩
  |named l=>
    obtain⟨rfl,ps,hp,hu⟩:=hf
    have hi: ∀ y∈x.items,y.kind=5:=by
      have:x.kind=5∧ ∀ x'∈x.items,x'.kind=5:=by simpa [cB]using hfit
      exact this.2
    have e:cF 9 g x=cP g x:=by simp [cF]
    rw [e]
    refine⟨rfl,ps.map (fun p=>(p.1,cb g p.2)),?_,?_⟩
    · show(ps.map _).Perm (x.keys.zip (x.items.map (cb g)))
      rw [BY]
      exact hp.map _
    · exact hu.map fun a b ha hb hab=>by
        have hm:=(List.of_mem_zip (hp.mem_iff.1 hb)).2
        refine⟨hab.1,?_⟩
        show U' a.2 (cb g b.2)
        rw [all5 hi _ hm]
        exact h a.2 b.2 (List.mem_map.2 ⟨a,ha,rfl⟩) (by rw [iy hi];exact hm) hab.2
  |deps l=>obtain⟨rfl,h2⟩:=hf;exact⟨rfl,h2⟩
  |enums l=>obtain⟨rfl,h2⟩:=hf;exact⟨rfl,h2⟩
  |tyS s=>obtain⟨rfl,h2⟩:=hf;exact⟨rfl,h2⟩
  |tyL l=>obtain⟨rfl,h2⟩:=hf;exact⟨rfl,h2⟩
  |list bs=>
    obtain⟨rfl,hu⟩:=hf
    have hi: ∀ y∈x.items,y.kind=5:=by
      have:x.kind=4∧ ∀ x'∈x.items,x'.kind=5:=by simpa [cB]using hfit
      exact this.2
    have e:cF 13 g x=cP g x:=by simp [cF]
    rw [e]
    refine⟨rfl,?_⟩
    show All2 U' bs (x.items.map (cb g))
    exact hu.map fun a b ha hb hab=>by rw [all5 hi b hb];exact h a b ha (by rw [fy hi];exact hb) hab
  |one b=>
    obtain⟨rfl,hu⟩:=hf
    exact⟨rfl,h b x bo bn hu⟩
  |any=>exact hf
def kidsV(v:V):List V:=(v.keys.zip v.items).flatMap (fun p=>kidsOf (bw p.1) p.2)
theorem vP{v z:V}(h:z∈kidsV v):SizeOf.sizeOf z<SizeOf.sizeOf v:=by
 obtain⟨p,hp,hz⟩:=List.mem_flatMap.1 h
 exact Nat.lt_of_le_of_lt (tO hz) (yU (List.of_mem_zip hp).2)
noncomputable def dI(p:V→Prop):V→Prop:=V.fix (α:=Prop) (fun v f=>p v∧ ∀ z∈kidsV v,f z)
theorem tJ(p:V→Prop)(v:V):dI p v↔p v∧ ∀ z∈kidsV v,dI p z:=by
 have:=V.fix_eq (α:=Prop) (G:=fun v f=>p v∧ ∀ z∈kidsV v,f z) (fun t g g' h=>by
  have:(∀ z∈kidsV t,g z)↔ ∀ z∈kidsV t,g' z:=⟨fun a z hz=>by rw [←h z (vP hz)];exact a z hz,fun a z hz=>by rw [h z (vP hz)];exact a z hz⟩
  simp only [this]) v
 show V.fix _ v↔_
 rw [this]
 rfl
theorem vH{v x z:V}{key:ByteArray}(hp:Pl v)(hk:v.kind=5)(h:getV v key=some x)(hz:z∈kidsOf (bw key) x):z∈kidsV v:=
 List.mem_flatMap.2 ⟨(key,x),(xB hp hk).2 h,hz⟩
theorem uV{v z:V}(hp:Pl v)(h:z∈kidsV v):Pl z:=by
 obtain⟨p,hpm,hz⟩:=List.mem_flatMap.1 h
 exact GA hp (List.of_mem_zip hpm).2 hz
theorem vG{v z:V}(hp:Pl v)(hs:IsShape v)(h:z∈kidsV v):IsShape z:=by
 obtain⟨p,hpm,hz⟩:=List.mem_flatMap.1 h
 exact(uC hs ((xB hp hs.kind).1 (show(p.1,p.2)∈_ from hpm))).2.1 z hz

def cw:List Nat:=[14,15,22,23,24,28,29,30,31,32]
inductive Rch (σ:cZ):Nat→Nat→Prop where
  |refl (b:Nat):Rch σ b b
  |step {b c d i:Nat} {f:Flds} (h:σ b=some f) (hi:i∈cw) (hc:c∈cI f i) (r:Rch σ c d):Rch σ b d
theorem vw{U:Nat→V→Prop}{i:Nat}{x:V}{fv:FVal}{c:Nat}(h1:1≤i)(h2:i≤36)(h:FvRel U (cT i) x fv)(hc:c∈dS fv):i∈cw:=by
  have key:cT i=5∨cT i=6∨cT i=7∨cT i=9∨cT i=13→i∈cw:=by
    have: ∀ i:Fin 37,cT i.1=5∨cT i.1=6∨cT i.1=7∨cT i.1=9∨cT i.1=13→i.1∈cw:=by decide
    exact this ⟨i,aC⟩
  cases fv with
  |sbS b=>exact key (.inr (.inl h.1))
  |itS b=>exact key (.inr (.inr (.inl h.1)))
  |itL bs=>exact key (.inr (.inr (.inl h.1)))
  |named l=>exact key (.inr (.inr (.inr (.inl h.1))))
  |list bs=>exact key (.inr (.inr (.inr (.inr h.1))))
  |one b=>exact key (.inl h.1)
  |_=>simp [dS]at hc
theorem GE{key:ByteArray}{i:Nat}(h:cE key=i)(k:ByteArray)(hk:cE k=i)(h0:i≠0):key=k:=sd (h.trans hk.symm) (by rw [h];exact h0)
theorem l0{g:V→V}{x:V}(h: ∀ y∈x.items,y.kind=5){p:V→Prop}(hs: ∀ y∈x.items,p (g y)): ∀ z∈(cP g x).items,p z:=by
 intro z hz
 unfold cP at hz
 simp only [V.items]at hz
 obtain⟨y,hy,rfl⟩:=List.mem_map.1 hz
 rw [wH (h y hy)]
 exact hs y hy
theorem j7{g:V→V}{sh:Int}{x:V}(hf:cB sh x)(h: ∀ y∈kidsOf sh x,IsShape (g y)):cB sh (cF sh g x)∧ ∀ y∈kidsOf sh (cF sh g x),IsShape y:=by
 unfold cF
 split
 ·rename_i h5
  subst h5
  exact fits5.2 (h x bn)
 split
 ·rename_i h6
  subst h6
  split
  ·rename_i hk
   exact fits6.2 (.inr (h x bV))
  ·rename_i hk
   have hf':x.kind=1∨x.kind=5:=by simpa [cB]using hf
   exact fits6.2 (.inl (hf'.resolve_right hk))
 split
 ·rename_i h7
  subst h7
  split
  ·rename_i hk
   exact fits7.2 (.inl (h x bW))
  ·rename_i hk
   have hf':x.kind=5∨(x.kind=4∧ ∀ x'∈x.items,x'.kind=5):=by simpa [cB]using hf
   have h4:=hf'.resolve_left hk
   exact fits7.2 (.inr ⟨h4.1,l0 h4.2 fun y hy=>h y bB⟩)
 split
 ·rename_i h9
  rcases h9 with h9|h9
  ·subst h9
   have hf':x.kind=5∧ ∀ x'∈x.items,x'.kind=5:=by simpa [cB]using hf
   exact fits9.2 ⟨hf'.1,l0 hf'.2 fun y hy=>h y bK⟩
  ·subst h9
   have hf':x.kind=4∧ ∀ x'∈x.items,x'.kind=5:=by simpa [cB]using hf
   exact fits13.2 ⟨hf'.1,l0 hf'.2 fun y hy=>h y bJ⟩
 ·rename_i h5 h6 h7 h9
  refine⟨hf,fun y hy=>?_⟩
  unfold kidsOf at hy
  rw [if_neg h5,if_neg h6,if_neg h7,if_neg h9]at hy
  cases hy
theorem nF{g:V→V}(hg: ∀ z,(g z).kind=5){sh:Int}{x z:V}(hf:cB sh x)(h:z∈kidsOf sh (cF sh g x)): ∃y∈kidsOf sh x,z=g y:=by
 have all: ∀ (hi: ∀ y∈x.items,y.kind=5),z∈(cP g x).items→ ∃y∈x.items,z=g y:=fun hi hz=>by
  unfold cP at hz
  simp only [V.items]at hz
  obtain⟨y,hy,rfl⟩:=List.mem_map.1 hz
  exact⟨y,hy,by rw [wH (hi y hy)]⟩
 unfold cF at h
 split at h
 ·rename_i h5
  subst h5
  simp [kidsOf]at h
  exact⟨x,by simp [kidsOf],h⟩
 split at h
 ·rename_i h6
  subst h6
  split at h
  ·rename_i hk
   rw [mp (hg x)]at h
   exact⟨x,by rw [mp hk];simp,List.mem_singleton.1 h⟩
  ·rename_i hk
   exact⟨z,h,by simp [kidsOf,hk]at h⟩
 split at h
 ·rename_i h7
  subst h7
  split at h
  ·rename_i hk
   rw [o4 (hg x)]at h
   exact⟨x,by rw [o4 hk];simp,List.mem_singleton.1 h⟩
  ·rename_i hk
   have hf':x.kind=5∨(x.kind=4∧ ∀ x'∈x.items,x'.kind=5):=by simpa [cB]using hf
   have h4:=hf'.resolve_left hk
   rw [fC h4.1 h4.2]
   refine all h4.2 ?_
   have hk': ¬ (cP g x).kind=5:=hk
   simp only [kidsOf,hk']at h
   simp at h
   exact h.1
 split at h
 ·rename_i h9
  have hf': ∀ x'∈x.items,x'.kind=5:=by
   rcases h9 with h9|h9
   ·subst h9
    have:x.kind=5∧ ∀ x'∈x.items,x'.kind=5:=by simpa [cB]using hf
    exact this.2
   ·subst h9
    have:x.kind=4∧ ∀ x'∈x.items,x'.kind=5:=by simpa [cB]using hf
    exact this.2
  have e:kidsOf sh x=x.items:=by
   rcases h9 with h9|h9
   ·subst h9;exact iy hf'
   ·subst h9;exact fy hf'
  rw [e]
  refine all hf' ?_
  rcases h9 with h9|h9<;>subst h9<;>simp [kidsOf]at h<;>exact h.1
 ·rename_i h5 h6 h7 h9
  unfold kidsOf at h
  rw [if_neg h5,if_neg h6,if_neg h7,if_neg h9]at h
  cases h
theorem ed{key:ByteArray}{i:Nat}(h:cE key=i)(h0:i≠0):bw key=cT i:=by rw [jv (by rw [h];exact h0),h]
theorem De{key:ByteArray}(h:cE key≠0):eD key=true:=by
  have hs:bw key=cT (cE key):=jv h
  unfold eD
  rw [hs]
  refine decide_eq_true ?_
  rcases kw_case (key:=key)with ⟨_,hm⟩|h0
  · have: ∀ q∈[35,36,32,31,30,29,28,26,20,19,18,17,16,14,13,12,11,10,9,8,7,6,3,25,23,24,22,21,34,15,27,1,2,33],cT q≠0:=by decide
    exact this _ hm
  · exact absurd h0 h
theorem gv(v:V):IsShape v→Pl v→IsShape (bz v):=by
  refine V.indS (p:=fun v=>IsShape v→Pl v→IsShape (bz v)) (fun v IH hs hp=>?_) v
  refine x8 (gZ hs hp) (sP v) fun key y hy=>?_
  rw [rE hs hp]at hy
  split at hy
  · cases hx:getV v key with
    |none=>rw [hx]at hy;cases hy
    |some x=>
      rw [hx]at hy
      injection hy with hy
      subst hy
      obtain⟨h1,h2,h3⟩:=uC hs hx
      obtain⟨h4,h5⟩:=j7 (g:=bz) h1 (fun z hz=>IH z (vP (vH hp hs.kind hx hz)) (h2 z hz) (uV hp (vH hp hs.kind hx hz)))
      refine⟨h4,h5,fun he=>?_⟩
      obtain⟨u,hu,hf⟩:=h3 he
      refine⟨cF (bw dF) bz u,?_,?_⟩
      · rw [rE hs hp,if_pos aD,hu];rfl
      · rw [jE];exact hf
  · cases hy
theorem tg{G:Gr}(v:V): ∀ b,Pl v→IsShape v→Unf G v b→Unf G (bz v) b:=by
  refine V.indS (p:=fun v=> ∀ b,Pl v→IsShape v→Unf G v b→Unf G (bz v) b) (fun v IH b hp hs hu=>?_) v
  obtain⟨f,hat,hU⟩:=(pE G v b).1 hu
  refine(pE G _ b).2 ⟨f,hat,fun i hi hj=>?_⟩
  have:=hU i hi hj
  cases hfi:f i with
  |none=>
    rw [hfi]at this
    intro key hkw
    rw [rE hs hp,this key hkw]
    split<;>rfl
  |some fv=>
    rw [hfi]at this
    obtain⟨key,x,hkw,hx,hrel⟩:=this
    have hsh:=ed hkw aC
    refine⟨key,cF (bw key) bz x,hkw,by rw [rE hs hp,if_pos (De (by rw [hkw];omega)),hx];rfl,?_⟩
    have hfit:=uC hs hx
    rw [hsh]at hfit⊢
    refine FvRel.turn sP hfit.1 (fun c z hc hz huc=>?_) hrel
    have hzk:z∈kidsV v:=vH hp hs.kind hx (by rw [hsh];exact hz)
    exact IH z (vP hzk) c (uV hp hzk) (vG hp hs hzk) huc
theorem l4{v z:V}(hp:Pl v)(hs:IsShape v)(h:z∈kidsV (bz v)): ∃y∈kidsV v,z=bz y:=by
  obtain⟨p,hpm,hz⟩:=List.mem_flatMap.1 h
  have hg:=(xB (gZ hs hp) (sP v)).1 (show(p.1,p.2)∈_ from hpm)
  rw [rE hs hp]at hg
  split at hg
  · cases hx:getV v p.1 with
    |none=>rw [hx]at hg;cases hg
    |some x=>
      rw [hx]at hg
      injection hg with hg
      rw [←hg]at hz
      obtain⟨y,hy,rfl⟩:=nF sP (uC hs hx).1 hz
      exact⟨y,vH hp hs.kind hx hy,rfl⟩
  · cases hg
theorem nG{p q:V→Prop}(hpq: ∀ v,Pl v→IsShape v→p v→q (bz v))(v:V):Pl v→IsShape v→dI p v→dI q (bz v):=by
 refine V.indS (p:=fun v=>Pl v→IsShape v→dI p v→dI q (bz v)) (fun v IH hp hs hd=>?_) v
 obtain⟨h1,h2⟩:=(tJ _ _).1 hd
 refine(tJ _ _).2 ⟨hpq v hp hs h1,fun z hz=>?_⟩
 obtain⟨y,hy,rfl⟩:=l4 hp hs hz
 exact IH y (vP hy) (uV hp hy) (vG hp hs hy) (h2 y hy)
theorem ya{p:V→Prop}(h: ∀ v,p v)(v:V):dI p v:=
 V.indS (p:=fun v=>dI p v) (fun v IH=>(tJ _ _).2 ⟨h v,fun z hz=>IH z (vP hz)⟩) v
def Df(v:V):Prop:= ∀ k∈v.keys,eD k=true
theorem BZ(v:V):Df (bz v):=by
 intro k hk
 rw [sF]at hk
 obtain⟨p,hp,rfl⟩:=List.mem_map.1 hk
 exact(List.mem_filter.1 hp).2
theorem Ba{g:V→V}{sh:Int}{x:V}(hp:Pl x)(hf:cB sh x)(h: ∀ y∈kidsOf sh x,g y=y):cF sh g x=x:=by
  have all:(x.kind=4∨x.kind=5)→(∀ y∈x.items,y.kind=5)→(∀ y∈x.items,g y=y)→cP g x=x:=by
    intro hk hi hfix
    have e:x.items.map (cb g)=x.items:=by
      conv=>rhs;rw [←List.map_id x.items]
      exact List.map_congr_left fun y hy=>by rw [wH (hi y hy),hfix y hy];rfl
    unfold cP
    rw [e]
    obtain⟨d,hd⟩:=hp
    obtain⟨q,m,s,ks,ts⟩:=x
    simp only [V.kind,V.keys,V.items]at hk⊢
    cases d with
    |zero=>exact absurd hd (tD hk)
    |succ d=>
      obtain⟨⟨h1,h2,_⟩,_⟩:=(wY hk).1 hd
      rw [h1,h2]
  unfold cF
  split
  · rename_i h5;subst h5;exact h x bn
  split
  · rename_i h6;subst h6
    split
    · rename_i hk;exact h x bV
    · rfl
  split
  · rename_i h7;subst h7
    split
    · rename_i hk;exact h x bW
    · rename_i hk
      have hf':x.kind=5∨(x.kind=4∧ ∀ x'∈x.items,x'.kind=5):=by simpa [cB]using hf
      have h4:=hf'.resolve_left hk
      exact all (.inl h4.1) h4.2 (fun y hy=>h y bB)
  split
  · rename_i h9
    rcases h9 with h9|h9
    · subst h9
      have hf':x.kind=5∧ ∀ x'∈x.items,x'.kind=5:=by simpa [cB]using hf
      exact all (.inr hf'.1) hf'.2 (fun y hy=>h y bK)
    · subst h9
      have hf':x.kind=4∧ ∀ x'∈x.items,x'.kind=5:=by simpa [cB]using hf
      exact all (.inl hf'.1) hf'.2 (fun y hy=>h y bJ)
  · rfl
theorem th(w:V):Pl w→IsShape w→dI Df w→bz w=w:=by
 refine V.indS (p:=fun w=>Pl w→IsShape w→dI Df w→bz w=w) (fun w IH hp hs hd=>?_) w
 obtain⟨h1,h2⟩:=(tJ _ _).1 hd
 have hm:=rQ hp hs.kind
 rw [sF]
 unfold cl
 have e:(w.keys.zip w.items).filter (fun p=>eD p.1)=w.keys.zip w.items:=List.filter_eq_self.2 fun p hpm=>h1 _ (List.of_mem_zip hpm).1
 have e2:(w.keys.zip w.items).map (fun p=>cF (bw p.1) bz p.2)=(w.keys.zip w.items).map (fun p=>p.2):=List.map_congr_left fun p hpm=>by
  have hg:=(xB hp hs.kind).1 (show(p.1,p.2)∈_ from hpm)
  refine Ba (hp.item _ (List.of_mem_zip hpm).2) (uC hs hg).1 fun y hy=>?_
  have hyk:=vH hp hs.kind hg hy
  exact IH y (vP hyk) (uV hp hyk) (vG hp hs hyk) (h2 y hyk)
 rw [e,e2]
 have e3:(w.keys.zip w.items).map (·.1)=w.keys:=List.map_fst_zip (by rw [hm.2.1];exact Nat.le_refl _)
 have e4:(w.keys.zip w.items).map (fun p=>p.2)=w.items:=List.map_snd_zip (by rw [hm.2.1];exact Nat.le_refl _)
 rw [e3,e4]
 exact hm.1.symm
theorem Dg{l:kh}(f:ByteArray→V→V)(h:Gz l):Gz (l.map fun p=>(p.1,f p.1 p.2)):=by
 unfold Gz
 rw [List.pairwise_map]
 exact h
noncomputable def ee(σ:cZ):V→Nat→Prop:=V.fix (α:=Nat→Prop) (fun v r b=> ∃f,σ b=some f∧ ∀ i,1≤i→i≤36→FldRel (fun b x=>r x b) v i (f i))
theorem xZ(σ:cZ)(v:V)(b:Nat):ee σ v b↔ ∃f,σ b=some f∧ ∀ i,1≤i→i≤36→FldRel (fun b x=>ee σ x b) v i (f i):=by
 have:=V.fix_eq (α:=Nat→Prop) (G:=fun v r b=> ∃f,σ b=some f∧ ∀ i,1≤i→i≤36→FldRel (fun b x=>r x b) v i (f i)) (fun t g g' h=>by
  funext b
  apply propext
  constructor
  ·rintro ⟨f,h1,h2⟩
   exact⟨f,h1,fun i hi hj=>(h2 i hi hj).mono fun b x hx hu=>by rw [←h x hx];exact hu⟩
  ·rintro ⟨f,h1,h2⟩
   exact⟨f,h1,fun i hi hj=>(h2 i hi hj).mono fun b x hx hu=>by rw [h x hx];exact hu⟩) v
 show V.fix (α:=Nat→Prop) _ v b↔_
 rw [this]
 rfl
theorem qm{G:Gr}{σ:cZ}(h:GOk G σ)(v:V): ∀ b,Unf G v b↔ee σ v b:=by
 refine V.indS (p:=fun v=> ∀ b,Unf G v b↔ee σ v b) (fun v IH b=>?_) v
 rw [pE,xZ]
 constructor
 ·rintro ⟨f,h1,h2⟩
  exact⟨f,(h.2 b f).1 h1,fun i hi hj=>(h2 i hi hj).mono fun c x hx hu=>(IH x hx c).1 hu⟩
 ·rintro ⟨f,h1,h2⟩
  exact⟨f,(h.2 b f).2 h1,fun i hi hj=>(h2 i hi hj).mono fun c x hx hu=>(IH x hx c).2 hu⟩
theorem FvRel.kid{U:Nat→V→Prop}{sh:Int}{x:V}{fv:FVal}{c:Nat}(hfit:cB sh x)(h:FvRel U sh x fv)(hc:c∈dS fv): ∃z∈kidsOf sh x,U c z:=by
  have get: ∀ (bs:List Nat) (l:List V),All2 U bs l→c∈bs→ ∃z∈l,U c z:=fun bs l h2 hm=>by
    obtain⟨i,hi,rfl⟩:=List.getElem_of_mem hm
    have hi':i<l.length:=by rw [←h2.1];exact hi
    exact⟨l[i],List.getElem_mem hi',h2.2 i _ _ (List.getElem?_eq_getElem hi) (List.getElem?_eq_getElem hi')⟩
  cases fv with
  |sbS b=>obtain⟨rfl,h5,hu⟩:=h;exact⟨x,by simp [kidsOf,h5],by rw [List.mem_singleton.1 hc];exact hu⟩
  |itS b=>obtain⟨rfl,h5,hu⟩:=h;exact⟨x,by simp [kidsOf,h5],by rw [List.mem_singleton.1 hc];exact hu⟩
  |itL bs=>
    obtain⟨rfl,h4,hu⟩:=h
    have hi: ∀ y∈x.items,y.kind=5:=by simpa [cB,h4]using hfit
    rw [fC h4 hi]
    exact get bs _ hu hc
  |named l=>
    obtain⟨rfl,ps,hp,hu⟩:=h
    have hi: ∀ y∈x.items,y.kind=5:=by
      have:x.kind=5∧ ∀ x'∈x.items,x'.kind=5:=by simpa [cB]using hfit
      exact this.2
    rw [iy hi]
    obtain⟨q,hq,rfl⟩:=List.mem_map.1 hc
    obtain⟨i,hi,rfl⟩:=List.getElem_of_mem hq
    have hi':i<ps.length:=by rw [←hu.1];exact hi
    exact⟨ps[i].2,(List.of_mem_zip (hp.mem_iff.1 (List.getElem_mem hi'))).2,(hu.2 i _ _ (List.getElem?_eq_getElem hi) (List.getElem?_eq_getElem hi')).2⟩
  |list bs=>
    obtain⟨rfl,hu⟩:=h
    have hi: ∀ y∈x.items,y.kind=5:=by
      have:x.kind=4∧ ∀ x'∈x.items,x'.kind=5:=by simpa [cB]using hfit
      exact this.2
    rw [fy hi]
    exact get bs _ hu hc
  |one b=>obtain⟨rfl,hu⟩:=h;exact⟨x,by simp [kidsOf],by rw [List.mem_singleton.1 hc];exact hu⟩
  |_=>simp [dS]at hc
def kD(sh:Int):FVal→Prop
  | .text _=>sh=1
  | .bool _=>sh=2
  | .int _=>sh=4
  | .numI _=>sh=3
  | .numF _=>sh=3
  | .sbS _=>sh=6
  | .sbB _=>sh=6
  | .itS _=>sh=7
  | .itL _=>sh=7
  | .texts _=>sh=8
  | .named _=>sh=9
  | .deps _=>sh=10
  | .enums _=>sh=11
  | .tyS _=>sh=12
  | .tyL _=>sh=12
  | .list _=>sh=13
  | .one _=>sh=5
  | .any=>sh=14
theorem FvRel.ok{U:Nat→V→Prop}{sh:Int}{x:V}{fv:FVal}(h:FvRel U sh x fv):kD sh fv:=by
 cases fv<;>first|exact h.1|exact h
def FT(f:Flds):Prop:= ∀ i fv,1≤i→i≤36→f i=some fv→kD (cT i) fv
theorem Dh{σ:cZ}{v:V}{b:Nat}(h:ee σ v b): ∃f,σ b=some f∧FT f:=by
 obtain⟨f,h1,h2⟩:=(xZ σ v b).1 h
 refine⟨f,h1,fun i fv hi hj hf=>?_⟩
 have:=h2 i hi hj
 rw [hf]at this
 obtain⟨key,x,_,_,hr⟩:=this
 exact hr.ok
theorem tU: ∀ i∈cw,1≤i∧i≤36:=by decide
theorem yb{p:Nat→Prop}(n:Nat):p n→ ∃m,p m∧ ∀ k,p k→m≤k:=by
  induction n using Nat.strongRecOn with
  |_ n ih=>
    intro hn
    by_cases h: ∃k,k<n∧p k
    · obtain⟨k,hk,hp⟩:=h
      exact ih k hk hp
    · exact⟨n,hn,fun k hk=>Nat.le_of_not_lt fun hlt=>h ⟨k,hlt,hk⟩⟩
structure LG(good:V→Prop):Prop where
 pl: ∀ v,good v→Pl v
 shape: ∀ v,good v→IsShape v
 kid: ∀ v,good v→ ∀ z∈kidsV v,good z
theorem All2.mono2{α β:Type}{R R':α→β→Prop}{l:List α}{l':List β}(h: ∀ a b,a∈l→b∈l'→R a b→R' a b)(h2:All2 R l l'):All2 R' l l':=
 ⟨h2.1,fun i a b ha hb=>h a b (List.mem_of_getElem? ha) (List.mem_of_getElem? hb) (h2.2 i a b ha hb)⟩
theorem FvRel.monoK{U U':Nat→V→Prop}{sh:Int}{v:V}{fv:FVal}(h: ∀ c x,c∈dS fv→SizeOf.sizeOf x≤SizeOf.sizeOf v→U c x→U' c x)(hf:FvRel U sh v fv):FvRel U' sh v fv:=by
  have hi: ∀ c x,c∈dS fv→x∈v.items→U c x→U' c x:=fun c x hc hx=>h c x hc (Nat.le_of_lt (yU hx))
  cases fv with
  |sbS b=>exact⟨hf.1,hf.2.1,h b v bo (Nat.le_refl _) hf.2.2⟩
  |itS b=>exact⟨hf.1,hf.2.1,h b v bo (Nat.le_refl _) hf.2.2⟩
  |itL bs=>exact⟨hf.1,hf.2.1,hf.2.2.mono2 hi⟩
  |named l=>
    obtain⟨h1,ps,h2,h3⟩:=hf
    exact⟨h1,ps,h2,h3.mono2 fun q p hq hp hr=>⟨hr.1,hi _ _ (List.mem_map.2 ⟨q,hq,rfl⟩) (List.of_mem_zip (h2.mem_iff.1 hp)).2 hr.2⟩⟩
  |list bs=>exact⟨hf.1,hf.2.mono2 hi⟩
  |one b=>exact⟨hf.1,h b v bo (Nat.le_refl _) hf.2⟩
  |text s=>exact hf
  |bool x=>exact hf
  |int n=>exact hf
  |numI n=>exact hf
  |numF n=>exact hf
  |sbB x=>exact hf
  |texts l=>exact hf
  |deps l=>exact hf
  |enums l=>exact hf
  |tyS s=>exact hf
  |tyL l=>exact hf
  |any=>exact hf
theorem oI{U U':Nat→V→Prop}{v:V}{i:Nat}{f:Flds}(h1:1≤i)(h2:i≤36)(h: ∀ c x,i∈cw→c∈cI f i→SizeOf.sizeOf x<SizeOf.sizeOf v→U c x→U' c x)(hf:FldRel U v i (f i)):FldRel U' v i (f i):=by
  cases hfi:f i with
  |none=>rw [hfi]at hf;exact hf
  |some fv=>
    rw [hfi]at hf
    obtain⟨key,x,a,b,hr⟩:=hf
    exact⟨key,x,a,b,hr.monoK fun c y hc hy hu=>h c y (vw h1 h2 hr hc) (by unfold cI;rw [hfi];exact hc) (Nat.lt_of_le_of_lt hy (yU (uQ b))) hu⟩
theorem Rch.trans{σ:cZ}{a b d:Nat}(h:Rch σ a b)(k:Rch σ b d):Rch σ a d:=by
  induction h with
  |refl b=>exact k
  |step h hi hc r ih=>exact .step h hi hc (ih k)

theorem qn(ks:List ByteArray)(ts:List V):List.Sublist ((ks.zip ts).map (·.1)) ks:=by
  induction ks generalizing ts with
  |nil=>exact List.Sublist.refl _
  |cons k ks ih=>cases ts with
    |nil=>exact List.nil_sublist _
    |cons t ts=>exact(ih ts).cons_cons k
theorem map_fst_zip'{ks:List ByteArray}{ts:List V}(h:ks.Nodup):((ks.zip ts).map (·.1)).Nodup:=h.sublist (qn ks ts)
theorem Bb{v:V}(hp:Pl v)(hk:v.kind=5):v.keys.Nodup:=ph (rQ hp hk).2.2

def cpyL:List Nat:=[1,2,6,7,8,9,10,11,12,13,14,15,16,17,18,19,20,21,22,23,24,25,26,27,28,29,30,31,32,33,34,35,36,3]
def yt(f s:Flds):Flds:=fun i=>if i∈cpyL then(s i).or (f i)else f i
theorem Bc: ∀ i:Fin 37,i.1∈cpyL∨i.1=0∨i.1=4∨i.1=5:=by decide
theorem KW(key:ByteArray):cE key≠4∧cE key≠5:=by
 rcases kw_case (key:=key)with ⟨_,hm⟩|h0
 ·constructor<;>intro h<;>rw [h]at hm<;>revert hm<;>decide
 ·rw [h0];decide
theorem IZ{U:Nat→V→Prop}{v:V}{i:Nat}{o:Option FVal}(h:FldRel U v i o)(hi:i=4∨i=5):o=none:=by
  cases o with
  |none=>rfl
  |some fv=>
    obtain⟨key,x,hk,_⟩:=h
    have:=KW key
    rcases hi with rfl|rfl
    · exact absurd hk this.1
    · exact absurd hk this.2
theorem MN(b s mb mb2:Nat)(cs cs2:List Value)(f f2:Flds):Ct Tryz.prog 74 #[cD b,cD s] [.blk b cs 124, .blk s cs2 124] [.flds mb cs f, .flds mb2 cs2 f2] (fun u M' D'=>u= .tuple #[]∧ ∃cs',M'=[.blk b cs' 124, .blk s cs2 124]∧D'=[.flds mb cs' (yt f f2)]):=by
 refine Ct.of_run (args:=[cD b,cD s]) Tryz.func74 aF Z Tryz.ntmps74 Z (fun c=>?_)
 refine xJ (xI 4 1 111 aE aE aE aE cv iN dM dw (fun cs41=>?_))
 refine xJ (xI 16 2 111 aE aE aE aE cv pA dM dw (fun cs42=>?_))
 refine xJ (xI 28 6 113 aE aE aE aE iL kI mq ma (fun cs46=>?_))
 refine xJ (xI 40 7 113 aE aE aE aE iL kJ mq ma (fun cs47=>?_))
 refine xJ (xI 52 8 112 aE aE aE aE eF kK gh lC (fun cs48=>?_))
 refine xJ (xI 64 9 113 aE aE aE aE iL kL mq ma (fun cs49=>?_))
 refine xJ (xI 76 10 112 aE aE aE aE eF iO gh lC (fun cs50=>?_))
 refine xJ (xI 88 11 114 aE aE aE aE dx iP eB eG (fun cs51=>?_))
 refine xJ (xI 100 12 114 aE aE aE aE dx iQ eB eG (fun cs52=>?_))
 refine xJ (xI 112 13 111 aE aE aE aE cv iR dM dw (fun cs53=>?_))
 refine xJ (xI 124 14 115 aE aE aE aE fg pR la uf (fun cs54=>?_))
 refine xJ (xI 136 15 116 aE aE aE aE jo sY Ad EN (fun cs55=>?_))
 refine xJ (xI 148 16 114 aE aE aE aE dx iS eB eG (fun cs56=>?_))
 refine xJ (xI 160 17 114 aE aE aE aE dx iT eB eG (fun cs57=>?_))
 refine xJ (xI 172 18 112 aE aE aE aE eF iU gh lC (fun cs58=>?_))
 refine xJ (xI 184 19 114 aE aE aE aE dx iV eB eG (fun cs59=>?_))
 refine xJ (xI 196 20 114 aE aE aE aE dx iW eB eG (fun cs60=>?_))
 refine xJ (xI 208 21 117 aE aE aE aE iM iX o9 ug (fun cs61=>?_))
 refine xJ (xI 220 22 115 aE aE aE aE fg qN la uf (fun cs62=>?_))
 refine xJ (xI 232 23 118 aE aE aE aE de rU i4 mc (fun cs63=>?_))
 refine xJ (xI 244 24 118 aE aE aE aE de pS i4 mc (fun cs64=>?_))
 refine xJ (xI 256 25 119 aE aE aE aE ob pT Ae EO (fun cs65=>?_))
 refine xJ (xI 268 26 120 aE aE aE aE z3 iY Eb EP (fun cs66=>?_))
 refine xJ (xI 280 27 121 aE aE aE aE fh uO pY EQ (fun cs67=>?_))
 refine xJ (xI 292 28 122 aE aE aE aE dh pU fR me (fun cs68=>?_))
 refine xJ (xI 304 29 122 aE aE aE aE dh pV fR me (fun cs69=>?_))
 refine xJ (xI 316 30 122 aE aE aE aE dh qO fR me (fun cs70=>?_))
 refine xJ (xI 328 31 63 aE aE aE aE da pW fW Cc (fun cs71=>?_))
 refine xJ (xI 340 32 118 aE aE aE aE de rV i4 mc (fun cs72=>?_))
 refine xJ (xI 352 33 111 aE aE aE aE cv iZ dM dw (fun cs73=>?_))
 refine xJ (xI 364 34 111 aE aE aE aE cv ia dM dw (fun cs74=>?_))
 refine xJ (xI 376 35 102 aE aE aE aE dA lD pZ EL (fun cs75=>?_))
 refine xJ (xI 388 36 111 aE aE aE aE cv ib dM dw (fun cs76=>?_))
 refine xI 400 3 111 aE aE aE aE cv pB dM dw (fun cs43=>?_)
 refine tI Tryz.results74 ⟨rfl,_,rfl,?_⟩ (List.Sublist.refl _) (D':=[.flds mb _ (cpyL.foldl (fun g q=>gA q g f2) f)]) (fun d hd=>by rw [List.mem_singleton.1 hd];exact List.mem_cons_self)
 rw [BW cpyL aE f f2]
 rfl
def gd(v:V):Prop:=Pl v∧IsShape v
theorem Bd{v:V}(hp:Pl v)(hs:IsShape v):dI Df (bz v):=
 nG (p:=fun _=>True) (q:=Df) (fun v _ _ _=>BZ v) v hp hs (ya (fun _=>trivial) v)
section
variable {key k:ByteArray} {own x:V} {l:kh} {i nk:Nat} {xk:List Value} {ts:List V}
end

abbrev dW:ByteArray:=⟨#[79,110,101,79,102]⟩
structure Trv(β:Type) where
 mb:Nat
 X:β→List HA
 D0:List DA
 I:β×cZ→Prop
 S:Bool→Nat→Prop
 mu:Nat→Nat
 dn:β×cZ→Bool→Nat→Prop
def Trv.Post{β:Type}(t:Trv β)(x:β×cZ)(one:Bool)(b:Nat)(same:Nat→Prop):Value→List HA→List DA→Prop:=fun u M' D'=>
 u= .tuple #[]∧ ∃(y:β×cZ) (G':Gr),t.I y∧GOk G' y.2∧M'= .many 124 (Gr.blks G')::t.X y.1∧D'=[.graph t.mb G']∧(∀ o d,t.dn x o d→t.dn y o d)∧t.dn y one b∧ ∀ d,same d→y.2 d=x.2 d
structure Trv.Ok{β:Type}(t:Trv β)(P:Program)(fo:FuncId)(cap:Array Value):Prop where
 kid: ∀ x one b,t.I x→t.S one b→ ∃f,x.2 b=some f∧FT f∧ ∀ i∈cw,∀ c∈cI f i,t.S (decide (i=30)) c∧t.mu c<t.mu b
 op: ∀ x b f ctx G,t.I x→t.S (decide (ctx=dW)) b→x.2 b=some f→(∀ i∈cw,∀ c∈cI f i,t.dn x (decide (i=30)) c)→GOk G x.2→
  Ct P fo (#[cD b, .string ctx]++cap) (.many 124 (Gr.blks G)::t.X x.1) (.graph t.mb G::t.D0) (t.Post x (decide (ctx=dW)) b (· ≠b))
theorem gw{fv:FVal}(h:kD 13 fv): ∃bs,fv= .list bs:=by
 cases fv<;>first|exact⟨_,rfl⟩|exact absurd h bq
section
variable {β:Type} {t:Trv β} {x0 y:β×cZ} {b:Nat} {f:Flds} {l:List Nat} {G:Gr}
def AtS(t:Trv β)(x0:β×cZ)(b:Nat)(f:Flds)(l:List Nat)(y:β×cZ)(G:Gr):Prop:=
 t.I y∧GOk G y.2∧(∀ o d,t.dn x0 o d→t.dn y o d)∧y.2 b=some f∧(∀ i∈l,∀ c∈cI f i,t.dn y (decide (i=30)) c)∧ ∀ d,t.mu b≤t.mu d→y.2 d=x0.2 d
theorem AtS.add{q:Nat}(h:AtS t x0 b f l y G)(hq: ∀ c∈cI f q,t.dn y (decide (q=30)) c):AtS t x0 b f (q::l) y G:=
 ⟨h.1,h.2.1,h.2.2.1,h.2.2.2.1,fun i hi c hc=>(List.mem_cons.1 hi).elim (fun e=>by subst e;exact hq c hc) (fun e=>h.2.2.2.2.1 i e c hc),h.2.2.2.2.2⟩
theorem AtS.none{q:Nat}(h:AtS t x0 b f l y G)(hq:f q=none):AtS t x0 b f (q::l) y G:=h.add (fun c hc=>by unfold cI at hc;rw [hq]at hc;cases hc)
theorem AtS.mem(h:AtS t x0 b f l y G): ∃cs,(b,cs,f)∈G:=(h.2.1.2 b f).2 h.2.2.2.1
theorem AtS.move{c:Nat}{one:Bool}{y':β×cZ}{G':Gr}(h:AtS t x0 b f l y G)(hc:t.mu c<t.mu b)(hI:t.I y')(hG:GOk G' y'.2)(hm: ∀ o d,t.dn y o d→t.dn y' o d)(hs: ∀ d,t.mu c<t.mu d→y'.2 d=y.2 d):AtS t x0 b f l y' G':=
 ⟨hI,hG,fun o d hd=>hm o d (h.2.2.1 o d hd),(hs b hc).trans h.2.2.2.1,fun i hi c hc=>hm _ _ (h.2.2.2.2.1 i hi c hc),fun d hd=>(hs d (Nat.lt_of_lt_of_le hc hd)).trans (h.2.2.2.2.2 d hd)⟩
end
def Ep{β:Type}(t:Trv β)(fn:Value)(b:Nat):Prop:= ∀ c,t.mu c<t.mu b→ ∀ (y:β×cZ) (G:Gr) (ctx:ByteArray),t.S (decide (ctx=dW)) c→t.I y→GOk G y.2→
 Ct Tryz.prog 121 #[cD c,fn, .string ctx] (.many 124 (Gr.blks G)::t.X y.1) (.graph t.mb G::t.D0) (t.Post y (decide (ctx=dW)) c (fun d=>t.mu c<t.mu d))
theorem Ia{mu:Nat→Nat}{p:Nat→Prop}(h: ∀ b,(∀ c,mu c<mu b→p c)→p b)(b:Nat):p b:=by
  have: ∀ m b,mu b=m→p b:=fun m=>by
    induction m using Nat.strongRecOn with
    |_ m ih=>exact fun b hb=>h b fun c hc=>ih _ (hb▸hc) c rfl
  exact this _ b Z
theorem Be{fv:FVal}(h:kD 6 fv):(∃c,fv= .sbS c)∨ ∃x,fv= .sbB x:=by
 cases fv<;>first|exact .inl ⟨_,rfl⟩|exact .inr ⟨_,rfl⟩|exact absurd h bq
theorem Bf{fv:FVal}(h:kD 7 fv):(∃c,fv= .itS c)∨ ∃bs,fv= .itL bs:=by
 cases fv<;>first|exact .inl ⟨_,rfl⟩|exact .inr ⟨_,rfl⟩|exact absurd h bq
theorem jf{fv:FVal}(h:kD 9 fv): ∃l,fv= .named l:=by
 cases fv<;>first|exact⟨_,rfl⟩|exact absurd h bq
theorem yc{fv:FVal}(h:kD 10 fv): ∃l,fv= .deps l:=by
 cases fv<;>first|exact⟨_,rfl⟩|exact absurd h bq
theorem yd{fv:FVal}(h:kD 5 fv): ∃c,fv= .one c:=by
 cases fv<;>first|exact⟨_,rfl⟩|exact absurd h bq
theorem uD{f:Flds}{q:Nat}{fv:FVal}(h:f q=some fv):cI f q=dS fv:=by unfold cI;rw [h]
def oP(o:Option Nat):Value:= .pointer (o.map fun c=>⟨c,0,none⟩)
def DA.itd(o:Option Addr)(fv:FVal):DA:=⟨fun w ok=> ∀ p,o=some p→ ∃sl bs,fv= .itL bs∧PtsTo w ok p sl∧RowPtrs w ok sl bs,fun h1 h2 h p hp=>by
 obtain⟨sl,bs,a,c,d⟩:=h p hp
 exact⟨sl,bs,a,c.mono h1 h2,d.mono h1 h2⟩⟩
section rules
variable {P:Program} {n:Nat} {F:List Nat} {c:Ctx F} {ops:Array Oper} {d:Nat} {T:TypeId} {l:List Oper} {k:List KI} {Q:Post} {e:cg} {M:List HA} {D:List DA}
theorem xP(j q:Nat){mb b:Nat}{cs:List Value}{f:Flds}{G:Gr}(hj:D[j]? =some (.graph mb G))(hm:(b,cs,f)∈G)(h1:1≤q)(h2:q≤36)(next: ∀ p:Option Addr,cs[q]? =some (.pointer p)→p.isSome=(f q).isSome→Run P n c k Q e M D):Run P n c k Q e M D:=
 uN (p:= ∃p:Option Addr,cs[q]? =some (.pointer p)∧p.isSome=(f q).isSome) (fun w ok h=>by
  obtain⟨p,a,a2,_⟩:=fG ((dget h j hj:(DA.graph mb G).p w ok) _ hm) h1 h2
  exact⟨p,a,a2⟩) (fun⟨p,a,a2⟩=>next p a a2)
theorem vI(j q:Nat){mb b:Nat}{cs:List Value}{f:Flds}{G:Gr}{p:Option Addr}{fv:FVal}(hj:D[j]? =some (.graph mb G))(hm:(b,cs,f)∈G)(h1:1≤q)(h2:q≤36)(hc:cs[q]? =some (.pointer p))(hf:f q=some fv)(next:Run P n c k Q e M (.fv (.pointer p) fv::D)):Run P n c k Q e M D:=
 yN (.fv (.pointer p) fv) (fun w ok h=>by
  obtain⟨p',a,_,a3⟩:=fG ((dget h j hj:(DA.graph mb G).p w ok) _ hm) h1 h2
  rw [hc]at a
  injection a with a
  injection a with a
  subst a
  exact a3 fv hf) next
theorem yZ{G:Gr}{b:Nat}{cs:List Value}{f:Flds}(hm:(b,cs,f)∈G):(b,cs)∈Gr.blks G:=List.mem_map.2 ⟨_,hm,rfl⟩
theorem Bg(j:Nat){u:Value}{fv:FVal}(hj:D[j]? =some (.fv u fv))(hok:kD 6 fv)(next: ∀ (b:Nat) (o:Option Nat) (q:Option Addr),u=cD b→dS fv=o.toList→Run P n c k Q e M (.dblk b [oP o, .pointer q] 185::D)):Run P n c k Q e M D:=by
 rcases Be hok with ⟨z,rfl⟩|⟨z,rfl⟩
 ·exact wZ (α:=Nat) (fun b=>u=cD b) (fun b=>[.dblk b [cD z, .pointer none] 185]) (fun w ok h=>by
   obtain⟨b,h1,h3⟩:FvP w ok (.sbS z) u:=dget h j hj
   exact⟨b,h1,d2 h3⟩) (fun b hx=>next b (some z) none hx Z)
 ·exact wZ (α:=Nat×Addr) (fun x=>u=cD x.1) (fun x=>[.dblk x.1 [.pointer none, .pointer (some x.2)] 185]) (fun w ok h=>by
   obtain⟨b,p,h1,h3,_⟩:FvP w ok (.sbB z) u:=dget h j hj
   exact⟨(b,p),h1,d2 h3⟩) (fun x hx=>next x.1 none (some x.2) hx Z)
theorem GF(j:Nat){u:Value}{fv:FVal}(hj:D[j]? =some (.fv u fv))(hok:kD 7 fv)(next: ∀ (b:Nat) (o:Option Nat) (q:Option Addr),u=cD b→(q=none→dS fv=o.toList)→Run P n c k Q e M (.dblk b [oP o, .pointer q] 187:: .itd q fv::D)):Run P n c k Q e M D:=by
 rcases Bf hok with ⟨z,rfl⟩|⟨bs,rfl⟩
 ·exact wZ (α:=Nat) (fun b=>u=cD b) (fun b=>[.dblk b [cD z, .pointer none] 187, .itd none (.itS z)]) (fun w ok h=>by
   obtain⟨b,h1,h3⟩:FvP w ok (.itS z) u:=dget h j hj
   exact⟨b,h1,d9 h3 (d2 (fun p hp=>by cases hp))⟩) (fun b hx=>next b (some z) none hx (fun _=>rfl))
 ·exact wZ (α:=Nat×Addr) (fun x=>u=cD x.1) (fun x=>[.dblk x.1 [.pointer none, .pointer (some x.2)] 187, .itd (some x.2) (.itL bs)]) (fun w ok h=>by
   obtain⟨b,p,sl,h1,h3,h4,h5⟩:FvP w ok (.itL bs) u:=dget h j hj
   exact⟨(b,p),h1,d9 h3 (d2 (fun p' hp=>by cases hp;exact⟨sl,bs,rfl,h4,h5⟩))⟩) (fun x hx=>next x.1 none (some x.2) hx (fun h=>by cases h))
theorem Di(j:Nat){p:Addr}{fv:FVal}(hj:D[j]? =some (.itd (some p) fv))(next: ∀ sl bs,fv= .itL bs→Run P n c k Q e M (.pts p sl:: .rowp sl bs::D)):Run P n c k Q e M D:=
 wZ (α:=Value×List Nat) (fun x=>fv= .itL x.2) (fun x=>[.pts p x.1, .rowp x.1 x.2]) (fun w ok h=>by
  obtain⟨sl,bs,h1,h2,h3⟩:=(dget h j hj:(DA.itd (some p) fv).p w ok) p rfl
  exact⟨(sl,bs),h1,d9 h2 (d2 h3)⟩) (fun x hx=>next x.1 x.2 hx)
theorem qS{β:Type}{t:Trv β}{x0 y:β×cZ}{b b1:Nat}{f:Flds}{L:List Nat}(q:Nat){G:Gr}{fn:Value}{ctx:ByteArray}{fo:Operand}{ags:Array Operand}{ts:Array TypeId}(hI:AtS t x0 b f L y G)(hone:decide (ctx=dW)=decide (q=30))
  (IH:Ep t fn b) (hk:t.S (decide (q=30)) b1∧t.mu b1<t.mu b) (hd:Nat.blt d n=true) (hfo:ev e fo=some (.func (.func 121) #[] #[])) (has:ags.toList.mapM (ev e)=some [cD b1,fn, .string ctx]) (hD: ∀ x∈DA.graph t.mb G::t.D0,x∈D)
  (next: ∀ y' G',AtS t x0 b f L y' G'→t.dn y' (decide (q=30)) b1→(∀ o d,t.dn y o d→t.dn y' o d)→bu Tryz.prog n c ops l k Q ((d, .tuple #[])::e) (.many 124 (Gr.blks G')::t.X y'.1) (.graph t.mb G'::D)):
  b0 Tryz.prog n c ops (some d) (.call {callee:= .value fo,args:=ags,argTypes:=ts}) T l k Q e (.many 124 (Gr.blks G)::t.X y.1) D:=by
 refine sU (M1:= .many 124 (Gr.blks G)::t.X y.1) (M2:=[]) hd hfo has (IH b1 hk.2 y G ctx (by rw [hone];exact hk.1) hI.1 hI.2.1) (List.append_nil _) hD ?_
 rintro v M' D' ⟨rfl,y',G',hy,hG,rfl,rfl,hm,hdn,hs⟩
 rw [List.append_nil]
 rw [hone]at hdn
 exact next y' G' (hI.move (one:=true) hk.2 hy hG hm hs) hdn hm
end rules
theorem fH{β:Type}{t:Trv β}{y y':β×cZ}{o:Bool}{bs:List Nat}{i:Nat}{c:Nat}(h: ∀ j c,j<i→bs[j]? =some c→t.dn y o c)(hm: ∀ o d,t.dn y o d→t.dn y' o d)(hc:bs[i]? =some c)(hd:t.dn y' o c): ∀ j c,j<i+1→bs[j]? =some c→t.dn y' o c:=by
 intro j c' hj hc'
 rcases Nat.lt_or_eq_of_le (Nat.le_of_lt_succ hj)with h1|h1
 ·exact hm _ _ (h j c' h1 hc')
 ·subst h1;rw [hc]at hc';injection hc' with hc';rw [←hc'];exact hd
theorem gx{β:Type}{t:Trv β}{y:β×cZ}{o:Bool}{bs:List Nat}{i:Nat}(hi:bs.length≤i)(h: ∀ j c,j<i→bs[j]? =some c→t.dn y o c): ∀ c∈bs,t.dn y o c:=by
 intro c hc
 obtain⟨j,hj,rfl⟩:=List.getElem_of_mem hc
 exact h j _ aC (List.getElem?_eq_getElem hj)

section rules
variable {P:Program} {n:Nat} {F:List Nat} {c:Ctx F} {ops:Array Oper} {d:Nat} {T:TypeId} {l:List Oper} {k:List KI} {Q:Post} {e:cg} {M:List HA} {D:List DA}
theorem qo{fo:Operand}{ags:Array Operand}{ts:Array TypeId}{f:FuncId}{cap:Array Value}{vs:List Value}{D1:List DA}{R:Value→List HA→List DA→Prop}(hd:Nat.blt d n=true)(hfo:ev e fo=some (.func (.func f) #[] cap))(has:ags.toList.mapM (ev e)=some vs)
  (hct:Ct P f (vs.toArray++cap) M D1 R) (hD: ∀ d∈D1,d∈D)
  (next: ∀ v M' D',R v M' D'→bu P n c ops l k Q ((d,v)::e) M' (D'++D)):b0 P n c ops (some d) (.call {callee:= .value fo,args:=ags,argTypes:=ts}) T l k Q e M D:=
 sU (M1:=M) (M2:=[]) hd hfo has hct (List.append_nil _) hD (fun v M' D' h=>by rw [List.append_nil];exact next v M' D' h)
end rules
theorem KX{β:Type}(t:Trv β)(fo:FuncId)(cap:Array Value)(hok:t.Ok Tryz.prog fo cap)(b:Nat): ∀ (y:β×cZ) (G:Gr) (ctx:ByteArray),t.S (decide (ctx=dW)) b→t.I y→GOk G y.2→
  Ct Tryz.prog 121 #[cD b, .func (.func fo) #[] cap, .string ctx] (.many 124 (Gr.blks G)::t.X y.1) (.graph t.mb G::t.D0) (t.Post y (decide (ctx=dW)) b (fun d=>t.mu b<t.mu d)):=by
 revert b
 refine Ia (mu:=t.mu) (fun b IH=>?_)
 intro y G ctx hS hI0 hG0
 replace IH:Ep t (.func (.func fo) #[] cap) b:=IH
 refine Ct.of_run (args:=[cD b, .func (.func fo) #[] cap, .string ctx]) Tryz.func121 aF Z Tryz.ntmps121 Z (fun c=>?_)
 obtain⟨f,hf,hft,hkid⟩:=hok.kid y _ b hI0 hS
 obtain⟨x0,hx0⟩: ∃x0,x0=y:=⟨y,rfl⟩
 have hI:AtS t x0 b f [] y G:=⟨hI0,hG0,fun o d h=>hx0▸h,hf,fun i h=>(by cases h),fun d h=>(by rw [hx0])⟩
 obtain⟨cs,hm⟩:=hI.mem
 refine xP 0 14 Z hm aE aE (fun p14 hc14 hp14=>?_)
 refine rO 8 Z (zC pR Z Z ?_)
 refine zA (yS 0 fg Z Z Z (yZ hm) (by rw [Nat.zero_add];exact hc14) ?_)
 refine zA (yF la Z Z ?_)
 refine oK 1 [33,0,1,2] Z Z (vF [0,1,2] (fun(⟨y,G⟩:(β×cZ)×Gr)=>AtS t x0 b f [14] y G) (fun(⟨y,G⟩:(β×cZ)×Gr)=>[]) (fun(⟨y,G⟩:(β×cZ)×Gr)=> .many 124 (Gr.blks G)::t.X y.1) (fun(⟨y,G⟩:(β×cZ)×Gr)=> .graph t.mb G::t.D0) ?_ ?_)
 ·intro K hK
  refine zU Z (fun h33=>?_) (fun h33=>?_)
  ·obtain⟨fv,hfv⟩: ∃fv,f 14=some fv:=Option.isSome_iff_exists.1 (hp14.symm.trans h33)
   have hok:=hft 14 fv aE aE hfv
   refine vI 0 14 Z hm aE aE hc14 hfv ?_
   have hks:=uD hfv
   refine Bg 0 Z hok (fun bb o q hu hfk=>?_)
   cases hu
   rw [hfk]at hks
   refine rO 7 Z (zC pR Z Z ?_)
   refine zA (yS 0 fg Z Z Z (yZ hm) (by rw [Nat.zero_add];exact hc14) ?_)
   refine oO 3 Z (zC gK Z Z ?_)
   refine zA (zH 0 da Z Z Z Z ?_)
   refine oO 8 Z (yF fW Z Z ?_)
   refine oK 1 [42,6,0,1,2] Z Z (zU Z (fun h42=>?_) (fun h42=>?_))
   ·obtain⟨bb,rfl⟩: ∃bb,o=some bb:=by
     cases o with
     |none=>cases h42
     |some z=>exact⟨z,rfl⟩
    refine rO 6 Z ?_
    refine qS 14 hI aD IH (hkid 14 aE _ (by rw [hks];simp)) Z Z Z aQ (fun y45 G45 hI45 hd45 hm45=>?_)
    refine zY ?_
    exact kQ (hK (_,_) (hI45.add (fun c hc=>by rw [hks]at hc;rcases List.mem_singleton.1 hc with rfl;exact hd45))) (eC Z (eC Z (eC Z (eN _))))
   obtain rfl:o=none:=by
    cases o with
    |none=>rfl
    |some z=>cases h42
   refine xY ?_
   exact kQ (hK (_,_) (hI.add (fun c hc=>by rw [hks]at hc;cases hc))) (eC Z (eC Z (eC Z (eN _))))
  have hf14:f 14=none:=tR hp14 h33
  refine xY ?_
  exact kQ (hK (_,_) (hI.none hf14)) (eC Z (eC Z (eC Z (eN _))))
 intro ⟨y,G⟩ hI
 replace hI:AtS t x0 b f [14] y G:=hI
 change Run _ _ _ _ _ [(0,_),(1,_),(2,_)] (.many 124 (Gr.blks G)::t.X y.1) (.graph t.mb G::t.D0)
 obtain⟨cs,hm⟩:=hI.mem
 refine xP 0 15 Z hm aE aE (fun p15 hc15 hp15=>?_)
 refine rO 8 Z (zC sY Z Z ?_)
 refine zA (yS 0 jo Z Z Z (yZ hm) bE ?_)
 refine zA (yF Ad Z Z ?_)
 refine oK 1 [50,0,1,2] Z Z (vF [0,1,2] (fun(⟨y,G⟩:(β×cZ)×Gr)=>AtS t x0 b f [15,14] y G) (fun(⟨y,G⟩:(β×cZ)×Gr)=>[]) (fun(⟨y,G⟩:(β×cZ)×Gr)=> .many 124 (Gr.blks G)::t.X y.1) (fun(⟨y,G⟩:(β×cZ)×Gr)=> .graph t.mb G::t.D0) ?_ ?_)
 ·intro Kj2 hKj2
  refine zU Z (fun h50=>?_) (fun h50=>?_)
  ·obtain⟨fv,hfv⟩: ∃fv,f 15=some fv:=Option.isSome_iff_exists.1 (hp15.symm.trans h50)
   have hok:=hft 15 fv aE aE hfv
   refine vI 0 15 Z hm aE aE hc15 hfv ?_
   have hks:=uD hfv
   refine GF 0 Z hok (fun bb o q hu hfk=>?_)
   cases hu
   refine rO 7 Z (zC sY Z Z ?_)
   refine zA (yS 0 jo Z Z Z (yZ hm) bE ?_)
   refine oO 3 Z (zC kM Z Z ?_)
   refine zA (zH 0 dh Z Z Z Z ?_)
   refine zA (yF fR Z Z ?_)
   refine zY (zU Z (fun h58=>?_) (fun h58=>?_))
   ·obtain⟨pl,rfl⟩: ∃pl,q=some pl:=Option.isSome_iff_exists.1 h58
    refine Di 1 Z (fun sl bs hx=>?_)
    subst hx
    refine vO 1 Z (fun A1 c1 hx hk1 hk2=>?_)
    subst hx
    unfold maxLen at hk2
    change cI f 15=bs at hks
    refine rO 7 Z (zC sY Z Z ?_)
    refine zA (yS 0 jo Z Z Z (yZ hm) bE ?_)
    refine oO 3 Z (zC kM Z Z ?_)
    refine zA (zH 2 dh Z Z Z Z ?_)
    refine oO 3 Z (yL 0 jq Z Z Z ?_)
    refine zA (zW dy Z Z ?_)
    refine oK 3 [69,68,67,0,1,2] Z Z (rK 1 [69,68,67,0,1,2] Z Z ?_)
    refine sS (D':= .graph t.mb G:: .rowp (.slice A1 bs.length c1) bs::t.D0) aZ (yQ 1 (fun(⟨i,y,G⟩:Nat×(β×cZ)×Gr)=>i≤bs.length∧AtS t x0 b f [14] y G∧ ∀ j c,j<i→bs[j]? =some c→t.dn y (decide (15=30)) c) (fun(⟨i,y,G⟩:Nat×(β×cZ)×Gr)=>[(69, .int .i64 ((i:Nat):Int))]) (fun(⟨i,y,G⟩:Nat×(β×cZ)×Gr)=> .many 124 (Gr.blks G)::t.X y.1) (fun(⟨i,y,G⟩:Nat×(β×cZ)×Gr)=> .graph t.mb G:: .rowp (.slice A1 bs.length c1) bs::t.D0) (fun(⟨i,y,G⟩:Nat×(β×cZ)×Gr)=>bs.length - i) (0,y,G) (⟨Nat.zero_le _,hI,fun j c h=>absurd h (Nat.not_lt_zero _)⟩) (eC Z (eN _)) Z Z ?_ (eC Z (eC Z (eC Z (eC Z (eC Z (eN _)))))))
    intro ⟨i,y,G⟩ hI K hK
    change Run _ _ _ _ _ [(69,_),(68,_),(67,_),(0,_),(1,_),(2,_)] (.many 124 (Gr.blks G)::t.X y.1) (.graph t.mb G:: .rowp (.slice A1 bs.length c1) bs::t.D0)
    obtain⟨hi,hI,hno⟩:=hI
    refine rO 3 Z (yJ Z Z Z ?_)
    refine oR 2 Z (zK Z (fun h70=>?_) (fun h70=>?_))
    ·refine rO 6 Z ?_
     have hlt:i<bs.length:=h70
     refine wM 1 dy Z Z Z Z hlt (zA ?_)
     refine yE da Z Z (fun _ h=>vE h (j:=1) Z (List.getElem?_eq_getElem hlt)) ?_
     refine oO 9 Z ?_
     refine qS 15 hI aD IH (hkid 15 aE _ a9) Z Z Z aQ (fun y75 G75 hI75 hd75 hm75=>?_)
     refine oO 4 Z (yD Z Z aC ?_)
     refine oR 3 Z ?_
     exact kQ (hK (i+1,_,_) (⟨by show i+1≤_;omega,hI75,fH hno hm75 (List.getElem?_eq_getElem hlt) hd75⟩) av) (eC Z (eC Z (eC Z (eC Z (eC Z (eC Z (eN _))))))) (hD:=(cQ 0 Z sQ))
    have hall:=gx aC hno
    refine uX Z ?_
    exact kQ (hKj2 (_,_) (hI.add (fun c hc=>by rw [hks]at hc;exact hall c hc))) (eC Z (eC Z (eC Z (eN _))))
   obtain rfl:q=none:=Option.not_isSome_iff_eq_none.1 (by rw [h58];exact Bool.false_ne_true)
   rw [hfk rfl]at hks
   refine rO 7 Z (zC sY Z Z ?_)
   refine zA (yS 0 jo Z Z Z (yZ hm) bE ?_)
   refine oO 3 Z (zC ig Z Z ?_)
   refine zA (zH 0 da Z Z Z Z ?_)
   refine zA (yF fW Z Z ?_)
   refine oK 1 [84,0,1,2] Z Z (zU Z (fun h84=>?_) (fun h84=>?_))
   ·obtain⟨bb,rfl⟩: ∃bb,o=some bb:=by
     cases o with
     |none=>cases h84
     |some z=>exact⟨z,rfl⟩
    refine rO 6 Z (zC sY Z Z ?_)
    refine zA (yS 0 jo Z Z Z (yZ hm) bE ?_)
    refine oO 3 Z (zC ig Z Z ?_)
    refine zA (zH 0 da Z Z Z Z ?_)
    refine oO 3 Z ?_
    refine qS 15 hI aD IH (hkid 15 aE _ (by rw [hks];simp)) Z Z Z aQ (fun y93 G93 hI93 hd93 hm93=>?_)
    refine oK 1 [0,1,2] Z Z ?_
    exact kQ (hKj2 (_,_) (hI93.add (fun c hc=>by rw [hks]at hc;rcases List.mem_singleton.1 hc with rfl;exact hd93))) (eC Z (eC Z (eC Z (eN _))))
   obtain rfl:o=none:=by
    cases o with
    |none=>rfl
    |some z=>cases h84
   refine xY ?_
   exact kQ (hKj2 (_,_) (hI.add (fun c hc=>by rw [hks]at hc;cases hc))) (eC Z (eC Z (eC Z (eN _))))
  have hf15:f 15=none:=tR hp15 h50
  refine xY ?_
  exact kQ (hKj2 (_,_) (hI.none hf15)) (eC Z (eC Z (eC Z (eN _))))
 intro ⟨y,G⟩ hI
 replace hI:AtS t x0 b f [15,14] y G:=hI
 change Run _ _ _ _ _ [(0,_),(1,_),(2,_)] (.many 124 (Gr.blks G)::t.X y.1) (.graph t.mb G::t.D0)
 obtain⟨cs,hm⟩:=hI.mem
 refine xP 0 22 Z hm aE aE (fun p22 hc22 hp22=>?_)
 refine rO 8 Z (zC qN Z Z ?_)
 refine zA (yS 0 fg Z Z Z (yZ hm) (by rw [Nat.zero_add];exact hc22) ?_)
 refine zA (yF la Z Z ?_)
 refine oK 1 [98,0,1,2] Z Z (vF [0,1,2] (fun(⟨y,G⟩:(β×cZ)×Gr)=>AtS t x0 b f [22,15,14] y G) (fun(⟨y,G⟩:(β×cZ)×Gr)=>[]) (fun(⟨y,G⟩:(β×cZ)×Gr)=> .many 124 (Gr.blks G)::t.X y.1) (fun(⟨y,G⟩:(β×cZ)×Gr)=> .graph t.mb G::t.D0) ?_ ?_)
 ·intro Kj3 hKj3
  refine zU Z (fun h98=>?_) (fun h98=>?_)
  ·obtain⟨fv,hfv⟩: ∃fv,f 22=some fv:=Option.isSome_iff_exists.1 (hp22.symm.trans h98)
   have hok:=hft 22 fv aE aE hfv
   refine vI 0 22 Z hm aE aE hc22 hfv ?_
   have hks:=uD hfv
   refine Bg 0 Z hok (fun bb o q hu hfk=>?_)
   cases hu
   rw [hfk]at hks
   refine rO 7 Z (zC qN Z Z ?_)
   refine zA (yS 0 fg Z Z Z (yZ hm) (by rw [Nat.zero_add];exact hc22) ?_)
   refine oO 3 Z (zC gK Z Z ?_)
   refine zA (zH 0 da Z Z Z Z ?_)
   refine oO 8 Z (yF fW Z Z ?_)
   refine oK 1 [107,9,0,1,2] Z Z (zU Z (fun h107=>?_) (fun h107=>?_))
   ·obtain⟨bb,rfl⟩: ∃bb,o=some bb:=by
     cases o with
     |none=>cases h107
     |some z=>exact⟨z,rfl⟩
    refine rO 6 Z ?_
    refine qS 22 hI aD IH (hkid 22 aE _ (by rw [hks];simp)) Z Z Z aQ (fun y110 G110 hI110 hd110 hm110=>?_)
    refine zY ?_
    exact kQ (hKj3 (_,_) (hI110.add (fun c hc=>by rw [hks]at hc;rcases List.mem_singleton.1 hc with rfl;exact hd110))) (eC Z (eC Z (eC Z (eN _))))
   obtain rfl:o=none:=by
    cases o with
    |none=>rfl
    |some z=>cases h107
   refine xY ?_
   exact kQ (hKj3 (_,_) (hI.add (fun c hc=>by rw [hks]at hc;cases hc))) (eC Z (eC Z (eC Z (eN _))))
  have hf22:f 22=none:=tR hp22 h98
  refine xY ?_
  exact kQ (hKj3 (_,_) (hI.none hf22)) (eC Z (eC Z (eC Z (eN _))))
 intro ⟨y,G⟩ hI
 replace hI:AtS t x0 b f [22,15,14] y G:=hI
 change Run _ _ _ _ _ [(0,_),(1,_),(2,_)] (.many 124 (Gr.blks G)::t.X y.1) (.graph t.mb G::t.D0)
 obtain⟨cs,hm⟩:=hI.mem
 refine xP 0 23 Z hm aE aE (fun p23 hc23 hp23=>?_)
 refine rO 8 Z (zC rU Z Z ?_)
 refine zA (yS 0 de Z Z Z (yZ hm) (by rw [Nat.zero_add];exact hc23) ?_)
 refine zA (yF i4 Z Z ?_)
 refine oK 1 [115,0,1,2] Z Z (vF [0,1,2] (fun(⟨y,G⟩:(β×cZ)×Gr)=>AtS t x0 b f [23,22,15,14] y G) (fun(⟨y,G⟩:(β×cZ)×Gr)=>[]) (fun(⟨y,G⟩:(β×cZ)×Gr)=> .many 124 (Gr.blks G)::t.X y.1) (fun(⟨y,G⟩:(β×cZ)×Gr)=> .graph t.mb G::t.D0) ?_ ?_)
 ·intro Kj4 hKj4
  refine zU Z (fun h115=>?_) (fun h115=>?_)
  ·obtain⟨fv,hfv⟩: ∃fv,f 23=some fv:=Option.isSome_iff_exists.1 (hp23.symm.trans h115)
   have hok:=hft 23 fv aE aE hfv
   refine vI 0 23 Z hm aE aE hc23 hfv ?_
   have hks:=uD hfv
   obtain⟨l,rfl⟩:=jf hok
   refine sO 0 Z (fun pl sl nbs hu=>?_)
   cases hu
   refine vO 1 Z (fun A1 c1 hx hk1 hk2=>?_)
   subst hx
   refine tH 2 Z (fun hnl=>?_)
   unfold maxLen at hk2
   change cI f 23=l.map (·.2)at hks
   refine rO 7 Z (zC rU Z Z ?_)
   refine zA (yS 0 de Z Z Z (yZ hm) (by rw [Nat.zero_add];exact hc23) ?_)
   refine oO 3 Z (yL 0 iK Z Z Z ?_)
   refine zA (zW dd Z Z ?_)
   refine oK 4 [123,122,121,0,1,2] Z Z (sS (D':= .graph t.mb G:: .rowp (.slice A1 nbs.length c1) nbs:: .nam nbs l::t.D0) aX ?_)
   refine yQ 1 (fun(⟨i,y,G⟩:Nat×(β×cZ)×Gr)=>i≤nbs.length∧AtS t x0 b f [22,15,14] y G∧ ∀ j c,j<i→(l.map (·.2))[j]? =some c→t.dn y (decide (23=30)) c) (fun(⟨i,y,G⟩:Nat×(β×cZ)×Gr)=>[(123, .int .i64 ((i:Nat):Int))]) (fun(⟨i,y,G⟩:Nat×(β×cZ)×Gr)=> .many 124 (Gr.blks G)::t.X y.1) (fun(⟨i,y,G⟩:Nat×(β×cZ)×Gr)=> .graph t.mb G:: .rowp (.slice A1 nbs.length c1) nbs:: .nam nbs l::t.D0) (fun(⟨i,y,G⟩:Nat×(β×cZ)×Gr)=>nbs.length - i) (0,y,G) (⟨Nat.zero_le _,hI,fun j c h=>absurd h (Nat.not_lt_zero _)⟩) (eC Z (eN _)) Z Z ?_ (eC Z (eC Z (eC Z (eC Z (eC Z (eN _))))))
   intro ⟨i,y,G⟩ hI K hK1
   change Run _ _ _ _ _ [(123,_),(122,_),(121,_),(0,_),(1,_),(2,_)] (.many 124 (Gr.blks G)::t.X y.1) (.graph t.mb G:: .rowp (.slice A1 nbs.length c1) nbs:: .nam nbs l::t.D0)
   obtain⟨hi,hI,hno⟩:=hI
   refine rO 3 Z (yJ Z Z Z ?_)
   refine oR 2 Z (zK Z (fun h124=>?_) (fun h124=>?_))
   ·refine rO 6 Z ?_
    have hlt:i<nbs.length:=h124
    have hll:i<l.length:=by omega
    refine wM 1 dd Z Z Z Z hlt (pG 2 i Z (List.getElem?_eq_getElem hll) (List.getElem?_eq_getElem hlt) (fun hksz=>?_))
    refine zA (yE jp Z Z (fun _ h=>vE h (j:=2) Z (List.getElem?_eq_getElem hlt)) ?_)
    refine oO 10 Z (zC pC Z Z ?_)
    refine zA (zH 0 da Z Z Z Z ?_)
    refine oK 3 [12,123,122,121,0,1,2] Z Z (rO 6 Z ?_)
    refine qS 23 hI aD IH (hkid 23 aE _ am) Z Z Z aQ (fun y133 G133 hI133 hd133 hm133=>?_)
    refine oO 4 Z (yD Z Z aC ?_)
    refine oR 3 Z ?_
    exact kQ (hK1 (i+1,_,_) (⟨by show i+1≤_;omega,hI133,fH hno hm133 (by rw [List.getElem?_map,List.getElem?_eq_getElem hll];rfl) hd133⟩) ar) (eC Z (eC Z (eC Z (eC Z (eC Z (eC Z (eN _))))))) (hD:=(cQ 0 Z sQ))
   have hall:=gx (bs:=l.map (·.2)) bI hno
   refine uX Z ?_
   exact kQ (hKj4 (_,_) (hI.add (fun c hc=>by rw [hks]at hc;exact hall c hc))) (eC Z (eC Z (eC Z (eN _))))
  have hf23:f 23=none:=tR hp23 h115
  refine xY ?_
  exact kQ (hKj4 (_,_) (hI.none hf23)) (eC Z (eC Z (eC Z (eN _))))
 intro ⟨y,G⟩ hI
 replace hI:AtS t x0 b f [23,22,15,14] y G:=hI
 change Run _ _ _ _ _ [(0,_),(1,_),(2,_)] (.many 124 (Gr.blks G)::t.X y.1) (.graph t.mb G::t.D0)
 obtain⟨cs,hm⟩:=hI.mem
 refine xP 0 24 Z hm aE aE (fun p24 hc24 hp24=>?_)
 refine rO 8 Z (zC pS Z Z ?_)
 refine zA (yS 0 de Z Z Z (yZ hm) (by rw [Nat.zero_add];exact hc24) ?_)
 refine zA (yF i4 Z Z ?_)
 refine oK 1 [139,0,1,2] Z Z (vF [0,1,2] (fun(⟨y,G⟩:(β×cZ)×Gr)=>AtS t x0 b f [24,23,22,15,14] y G) (fun(⟨y,G⟩:(β×cZ)×Gr)=>[]) (fun(⟨y,G⟩:(β×cZ)×Gr)=> .many 124 (Gr.blks G)::t.X y.1) (fun(⟨y,G⟩:(β×cZ)×Gr)=> .graph t.mb G::t.D0) ?_ ?_)
 ·intro Kj5 hKj5
  refine zU Z (fun h139=>?_) (fun h139=>?_)
  ·obtain⟨fv,hfv⟩: ∃fv,f 24=some fv:=Option.isSome_iff_exists.1 (hp24.symm.trans h139)
   have hok:=hft 24 fv aE aE hfv
   refine vI 0 24 Z hm aE aE hc24 hfv ?_
   have hks:=uD hfv
   obtain⟨l,rfl⟩:=jf hok
   refine sO 0 Z (fun pl sl nbs hu=>?_)
   cases hu
   refine vO 1 Z (fun A1 c1 hx hk1 hk2=>?_)
   subst hx
   refine tH 2 Z (fun hnl=>?_)
   unfold maxLen at hk2
   change cI f 24=l.map (·.2)at hks
   refine rO 7 Z (zC pS Z Z ?_)
   refine zA (yS 0 de Z Z Z (yZ hm) (by rw [Nat.zero_add];exact hc24) ?_)
   refine oO 3 Z (yL 0 iK Z Z Z ?_)
   refine zA (zW dd Z Z ?_)
   refine oK 4 [147,146,145,0,1,2] Z Z (sS (D':= .graph t.mb G:: .rowp (.slice A1 nbs.length c1) nbs:: .nam nbs l::t.D0) aX ?_)
   refine yQ 1 (fun(⟨i,y,G⟩:Nat×(β×cZ)×Gr)=>i≤nbs.length∧AtS t x0 b f [23,22,15,14] y G∧ ∀ j c,j<i→(l.map (·.2))[j]? =some c→t.dn y (decide (24=30)) c) (fun(⟨i,y,G⟩:Nat×(β×cZ)×Gr)=>[(147, .int .i64 ((i:Nat):Int))]) (fun(⟨i,y,G⟩:Nat×(β×cZ)×Gr)=> .many 124 (Gr.blks G)::t.X y.1) (fun(⟨i,y,G⟩:Nat×(β×cZ)×Gr)=> .graph t.mb G:: .rowp (.slice A1 nbs.length c1) nbs:: .nam nbs l::t.D0) (fun(⟨i,y,G⟩:Nat×(β×cZ)×Gr)=>nbs.length - i) (0,y,G) (⟨Nat.zero_le _,hI,fun j c h=>absurd h (Nat.not_lt_zero _)⟩) (eC Z (eN _)) Z Z ?_ (eC Z (eC Z (eC Z (eC Z (eC Z (eN _))))))
   intro ⟨i,y,G⟩ hI K hK2
   change Run _ _ _ _ _ [(147,_),(146,_),(145,_),(0,_),(1,_),(2,_)] (.many 124 (Gr.blks G)::t.X y.1) (.graph t.mb G:: .rowp (.slice A1 nbs.length c1) nbs:: .nam nbs l::t.D0)
   obtain⟨hi,hI,hno⟩:=hI
   refine rO 3 Z (yJ Z Z Z ?_)
   refine oR 2 Z (zK Z (fun h148=>?_) (fun h148=>?_))
   ·refine rO 6 Z ?_
    have hlt:i<nbs.length:=h148
    have hll:i<l.length:=by omega
    refine wM 1 dd Z Z Z Z hlt (pG 2 i Z (List.getElem?_eq_getElem hll) (List.getElem?_eq_getElem hlt) (fun hksz=>?_))
    refine zA (yE jp Z Z (fun _ h=>vE h (j:=2) Z (List.getElem?_eq_getElem hlt)) ?_)
    refine oO 10 Z (zC pC Z Z ?_)
    refine zA (zH 0 da Z Z Z Z ?_)
    refine oK 3 [15,147,146,145,0,1,2] Z Z (rO 6 Z ?_)
    refine qS 24 hI aD IH (hkid 24 aE _ am) Z Z Z aQ (fun y157 G157 hI157 hd157 hm157=>?_)
    refine oO 4 Z (yD Z Z aC ?_)
    refine oR 3 Z ?_
    exact kQ (hK2 (i+1,_,_) (⟨by show i+1≤_;omega,hI157,fH hno hm157 (by rw [List.getElem?_map,List.getElem?_eq_getElem hll];rfl) hd157⟩) ar) (eC Z (eC Z (eC Z (eC Z (eC Z (eC Z (eN _))))))) (hD:=(cQ 0 Z sQ))
   have hall:=gx (bs:=l.map (·.2)) bI hno
   refine uX Z ?_
   exact kQ (hKj5 (_,_) (hI.add (fun c hc=>by rw [hks]at hc;exact hall c hc))) (eC Z (eC Z (eC Z (eN _))))
  have hf24:f 24=none:=tR hp24 h139
  refine xY ?_
  exact kQ (hKj5 (_,_) (hI.none hf24)) (eC Z (eC Z (eC Z (eN _))))
 intro ⟨y,G⟩ hI
 replace hI:AtS t x0 b f [24,23,22,15,14] y G:=hI
 change Run _ _ _ _ _ [(0,_),(1,_),(2,_)] (.many 124 (Gr.blks G)::t.X y.1) (.graph t.mb G::t.D0)
 obtain⟨cs,hm⟩:=hI.mem
 refine xP 0 25 Z hm aE aE (fun p25 hc25 hp25=>?_)
 refine rO 8 Z (zC pT Z Z ?_)
 refine zA (yS 0 ob Z Z Z (yZ hm) (by rw [Nat.zero_add];exact hc25) ?_)
 refine zA (yF Ae Z Z ?_)
 refine oK 1 [163,0,1,2] Z Z (vF [0,1,2] (fun(⟨y,G⟩:(β×cZ)×Gr)=>AtS t x0 b f [25,24,23,22,15,14] y G) (fun(⟨y,G⟩:(β×cZ)×Gr)=>[]) (fun(⟨y,G⟩:(β×cZ)×Gr)=> .many 124 (Gr.blks G)::t.X y.1) (fun(⟨y,G⟩:(β×cZ)×Gr)=> .graph t.mb G::t.D0) ?_ ?_)
 ·intro Kj6 hKj6
  refine zU Z (fun h163=>?_) (fun h163=>?_)
  ·obtain⟨fv,hfv⟩: ∃fv,f 25=some fv:=Option.isSome_iff_exists.1 (hp25.symm.trans h163)
   have hok:=hft 25 fv aE aE hfv
   refine vI 0 25 Z hm aE aE hc25 hfv ?_
   have hks:=uD hfv
   obtain⟨l,rfl⟩:=yc hok
   refine pc 0 Z (fun pl sl nbs hu=>?_)
   cases hu
   refine vO 1 Z (fun A1 c1 hx hk1 hk2=>?_)
   subst hx
   refine lc 2 Z (fun hnl=>?_)
   unfold maxLen at hk2
   refine rO 7 Z (zC pT Z Z ?_)
   refine zA (yS 0 ob Z Z Z (yZ hm) (by rw [Nat.zero_add];exact hc25) ?_)
   refine oO 3 Z (yL 0 z7 Z Z Z ?_)
   refine zA (zW lE Z Z ?_)
   refine oK 4 [171,170,169,0,1,2] Z Z (sS (D':= .graph t.mb G:: .rowp (.slice A1 nbs.length c1) nbs:: .dep nbs l::t.D0) aX ?_)
   have hI0:=hI
   refine yQ 1 (fun(i:Nat)=>i≤nbs.length) (fun(i:Nat)=>[(171, .int .i64 ((i:Nat):Int))]) (fun(i:Nat)=> .many 124 (Gr.blks G)::t.X y.1) (fun(i:Nat)=> .graph t.mb G:: .rowp (.slice A1 nbs.length c1) nbs:: .dep nbs l::t.D0) (fun(i:Nat)=>nbs.length - i) 0 (Nat.zero_le _) (eC Z (eN _)) Z Z ?_ (eC Z (eC Z (eC Z (eC Z (eC Z (eN _))))))
   intro i hI K hK3
   change Run _ _ _ _ _ [(171,_),(170,_),(169,_),(0,_),(1,_),(2,_)] _ _
   have hi:i≤nbs.length:=hI
   replace hI:=hI0
   refine rO 3 Z (yJ Z Z Z ?_)
   refine oR 2 Z (zK Z (fun h172=>?_) (fun h172=>?_))
   ·refine rO 6 Z ?_
    have hlt:i<nbs.length:=h172
    have hll:i<l.length:=by omega
    refine wM 1 lE Z Z Z Z hlt (u0 2 i Z (List.getElem?_eq_getElem hll) (List.getElem?_eq_getElem hlt) (fun tb p2 sl2 hksz=>?_))
    refine zA (yE Ed Z Z (fun _ h=>vE h (j:=5) Z (List.getElem?_eq_getElem hlt)) ?_)
    refine oO 10 Z (zC ui Z Z ?_)
    refine zA (zH 0 ER Z Z Z Z ?_)
    refine oK 3 [18,171,170,169,0,1,2] Z Z (rO 7 Z ?_)
    refine zC uj Z Z (zA ?_)
    refine zH 1 da Z Z Z Z (oO 8 Z ?_)
    refine yF fW Z Z (oO 6 Z ?_)
    refine yD Z Z aC (oK 3 [171,170,169,0,1,2] Z Z ?_)
    exact kQ (hK3 (i+1) bQ ar) (eC Z (eC Z (eC Z (eC Z (eC Z (eC Z (eN _)))))))
   replace hI:=hI0
   refine uX Z ?_
   exact kQ (hKj6 (_,_) (hI0.add (fun c hc=>by rw [hks]at hc;cases hc))) (eC Z (eC Z (eC Z (eN _))))
  have hf25:f 25=none:=tR hp25 h163
  refine xY ?_
  exact kQ (hKj6 (_,_) (hI.none hf25)) (eC Z (eC Z (eC Z (eN _))))
 intro ⟨y,G⟩ hI
 replace hI:AtS t x0 b f [25,24,23,22,15,14] y G:=hI
 change Run _ _ _ _ _ [(0,_),(1,_),(2,_)] (.many 124 (Gr.blks G)::t.X y.1) (.graph t.mb G::t.D0)
 obtain⟨cs,hm⟩:=hI.mem
 refine xP 0 28 Z hm aE aE (fun p28 hc28 hp28=>?_)
 refine rO 8 Z (zC pU Z Z ?_)
 refine zA (yS 0 dh Z Z Z (yZ hm) (by rw [Nat.zero_add];exact hc28) ?_)
 refine zA (yF fR Z Z ?_)
 refine oK 1 [193,0,1,2] Z Z (vF [0,1,2] (fun(⟨y,G⟩:(β×cZ)×Gr)=>AtS t x0 b f [28,25,24,23,22,15,14] y G) (fun(⟨y,G⟩:(β×cZ)×Gr)=>[]) (fun(⟨y,G⟩:(β×cZ)×Gr)=> .many 124 (Gr.blks G)::t.X y.1) (fun(⟨y,G⟩:(β×cZ)×Gr)=> .graph t.mb G::t.D0) ?_ ?_)
 ·intro Kj7 hKj7
  refine zU Z (fun h193=>?_) (fun h193=>?_)
  ·obtain⟨fv,hfv⟩: ∃fv,f 28=some fv:=Option.isSome_iff_exists.1 (hp28.symm.trans h193)
   have hok:=hft 28 fv aE aE hfv
   refine vI 0 28 Z hm aE aE hc28 hfv ?_
   have hks:=uD hfv
   obtain⟨bs,rfl⟩:=gw hok
   refine i5 0 Z (fun pl sl hu=>?_)
   cases hu
   refine vO 1 Z (fun A1 c1 hx hk1 hk2=>?_)
   subst hx
   unfold maxLen at hk2
   change cI f 28=bs at hks
   refine rO 7 Z (zC pU Z Z ?_)
   refine zA (yS 0 dh Z Z Z (yZ hm) (by rw [Nat.zero_add];exact hc28) ?_)
   refine oO 3 Z (yL 0 jq Z Z Z ?_)
   refine zA (zW dy Z Z ?_)
   refine oK 4 [201,200,199,0,1,2] Z Z (sS (D':= .graph t.mb G:: .rowp (.slice A1 bs.length c1) bs::t.D0) aZ ?_)
   refine yQ 1 (fun(⟨i,y,G⟩:Nat×(β×cZ)×Gr)=>i≤bs.length∧AtS t x0 b f [25,24,23,22,15,14] y G∧ ∀ j c,j<i→bs[j]? =some c→t.dn y (decide (28=30)) c) (fun(⟨i,y,G⟩:Nat×(β×cZ)×Gr)=>[(201, .int .i64 ((i:Nat):Int))]) (fun(⟨i,y,G⟩:Nat×(β×cZ)×Gr)=> .many 124 (Gr.blks G)::t.X y.1) (fun(⟨i,y,G⟩:Nat×(β×cZ)×Gr)=> .graph t.mb G:: .rowp (.slice A1 bs.length c1) bs::t.D0) (fun(⟨i,y,G⟩:Nat×(β×cZ)×Gr)=>bs.length - i) (0,y,G) (⟨Nat.zero_le _,hI,fun j c h=>absurd h (Nat.not_lt_zero _)⟩) (eC Z (eN _)) Z Z ?_ (eC Z (eC Z (eC Z (eC Z (eC Z (eN _))))))
   intro ⟨i,y,G⟩ hI K hK4
   change Run _ _ _ _ _ [(201,_),(200,_),(199,_),(0,_),(1,_),(2,_)] (.many 124 (Gr.blks G)::t.X y.1) (.graph t.mb G:: .rowp (.slice A1 bs.length c1) bs::t.D0)
   obtain⟨hi,hI,hno⟩:=hI
   refine rO 3 Z (yJ Z Z Z ?_)
   refine oR 2 Z (zK Z (fun h202=>?_) (fun h202=>?_))
   ·refine rO 6 Z ?_
    have hlt:i<bs.length:=h202
    refine wM 1 dy Z Z Z Z hlt (zA ?_)
    refine yE da Z Z (fun _ h=>vE h (j:=1) Z (List.getElem?_eq_getElem hlt)) ?_
    refine oO 9 Z ?_
    refine qS 28 hI aD IH (hkid 28 aE _ a9) Z Z Z aQ (fun y207 G207 hI207 hd207 hm207=>?_)
    refine oO 4 Z (yD Z Z aC ?_)
    refine oR 3 Z ?_
    exact kQ (hK4 (i+1,_,_) (⟨by show i+1≤_;omega,hI207,fH hno hm207 (List.getElem?_eq_getElem hlt) hd207⟩) av) (eC Z (eC Z (eC Z (eC Z (eC Z (eC Z (eN _))))))) (hD:=(cQ 0 Z sQ))
   have hall:=gx aC hno
   refine uX Z ?_
   exact kQ (hKj7 (_,_) (hI.add (fun c hc=>by rw [hks]at hc;exact hall c hc))) (eC Z (eC Z (eC Z (eN _))))
  have hf28:f 28=none:=tR hp28 h193
  refine xY ?_
  exact kQ (hKj7 (_,_) (hI.none hf28)) (eC Z (eC Z (eC Z (eN _))))
 intro ⟨y,G⟩ hI
 replace hI:AtS t x0 b f [28,25,24,23,22,15,14] y G:=hI
 change Run _ _ _ _ _ [(0,_),(1,_),(2,_)] (.many 124 (Gr.blks G)::t.X y.1) (.graph t.mb G::t.D0)
 obtain⟨cs,hm⟩:=hI.mem
 refine xP 0 29 Z hm aE aE (fun p29 hc29 hp29=>?_)
 refine rO 8 Z (zC pV Z Z ?_)
 refine zA (yS 0 dh Z Z Z (yZ hm) (by rw [Nat.zero_add];exact hc29) ?_)
 refine zA (yF fR Z Z ?_)
 refine oK 1 [213,0,1,2] Z Z (vF [0,1,2] (fun(⟨y,G⟩:(β×cZ)×Gr)=>AtS t x0 b f [29,28,25,24,23,22,15,14] y G) (fun(⟨y,G⟩:(β×cZ)×Gr)=>[]) (fun(⟨y,G⟩:(β×cZ)×Gr)=> .many 124 (Gr.blks G)::t.X y.1) (fun(⟨y,G⟩:(β×cZ)×Gr)=> .graph t.mb G::t.D0) ?_ ?_)
 ·intro Kj8 hKj8
  refine zU Z (fun h213=>?_) (fun h213=>?_)
  ·obtain⟨fv,hfv⟩: ∃fv,f 29=some fv:=Option.isSome_iff_exists.1 (hp29.symm.trans h213)
   have hok:=hft 29 fv aE aE hfv
   refine vI 0 29 Z hm aE aE hc29 hfv ?_
   have hks:=uD hfv
   obtain⟨bs,rfl⟩:=gw hok
   refine i5 0 Z (fun pl sl hu=>?_)
   cases hu
   refine vO 1 Z (fun A1 c1 hx hk1 hk2=>?_)
   subst hx
   unfold maxLen at hk2
   change cI f 29=bs at hks
   refine rO 7 Z (zC pV Z Z ?_)
   refine zA (yS 0 dh Z Z Z (yZ hm) (by rw [Nat.zero_add];exact hc29) ?_)
   refine oO 3 Z (yL 0 jq Z Z Z ?_)
   refine zA (zW dy Z Z ?_)
   refine oK 4 [221,220,219,0,1,2] Z Z (sS (D':= .graph t.mb G:: .rowp (.slice A1 bs.length c1) bs::t.D0) aZ ?_)
   refine yQ 1 (fun(⟨i,y,G⟩:Nat×(β×cZ)×Gr)=>i≤bs.length∧AtS t x0 b f [28,25,24,23,22,15,14] y G∧ ∀ j c,j<i→bs[j]? =some c→t.dn y (decide (29=30)) c) (fun(⟨i,y,G⟩:Nat×(β×cZ)×Gr)=>[(221, .int .i64 ((i:Nat):Int))]) (fun(⟨i,y,G⟩:Nat×(β×cZ)×Gr)=> .many 124 (Gr.blks G)::t.X y.1) (fun(⟨i,y,G⟩:Nat×(β×cZ)×Gr)=> .graph t.mb G:: .rowp (.slice A1 bs.length c1) bs::t.D0) (fun(⟨i,y,G⟩:Nat×(β×cZ)×Gr)=>bs.length - i) (0,y,G) (⟨Nat.zero_le _,hI,fun j c h=>absurd h (Nat.not_lt_zero _)⟩) (eC Z (eN _)) Z Z ?_ (eC Z (eC Z (eC Z (eC Z (eC Z (eN _))))))
   intro ⟨i,y,G⟩ hI K hK5
   change Run _ _ _ _ _ [(221,_),(220,_),(219,_),(0,_),(1,_),(2,_)] (.many 124 (Gr.blks G)::t.X y.1) (.graph t.mb G:: .rowp (.slice A1 bs.length c1) bs::t.D0)
   obtain⟨hi,hI,hno⟩:=hI
   refine rO 3 Z (yJ Z Z Z ?_)
   refine oR 2 Z (zK Z (fun h222=>?_) (fun h222=>?_))
   ·refine rO 6 Z ?_
    have hlt:i<bs.length:=h222
    refine wM 1 dy Z Z Z Z hlt (zA ?_)
    refine yE da Z Z (fun _ h=>vE h (j:=1) Z (List.getElem?_eq_getElem hlt)) ?_
    refine oO 9 Z ?_
    refine qS 29 hI aD IH (hkid 29 aE _ a9) Z Z Z aQ (fun y227 G227 hI227 hd227 hm227=>?_)
    refine oO 4 Z (yD Z Z aC ?_)
    refine oR 3 Z ?_
    exact kQ (hK5 (i+1,_,_) (⟨by show i+1≤_;omega,hI227,fH hno hm227 (List.getElem?_eq_getElem hlt) hd227⟩) av) (eC Z (eC Z (eC Z (eC Z (eC Z (eC Z (eN _))))))) (hD:=(cQ 0 Z sQ))
   have hall:=gx aC hno
   refine uX Z ?_
   exact kQ (hKj8 (_,_) (hI.add (fun c hc=>by rw [hks]at hc;exact hall c hc))) (eC Z (eC Z (eC Z (eN _))))
  have hf29:f 29=none:=tR hp29 h213
  refine xY ?_
  exact kQ (hKj8 (_,_) (hI.none hf29)) (eC Z (eC Z (eC Z (eN _))))
 intro ⟨y,G⟩ hI
 replace hI:AtS t x0 b f [29,28,25,24,23,22,15,14] y G:=hI
 change Run _ _ _ _ _ [(0,_),(1,_),(2,_)] (.many 124 (Gr.blks G)::t.X y.1) (.graph t.mb G::t.D0)
 obtain⟨cs,hm⟩:=hI.mem
 refine xP 0 30 Z hm aE aE (fun p30 hc30 hp30=>?_)
 refine rO 8 Z (zC qO Z Z ?_)
 refine zA (yS 0 dh Z Z Z (yZ hm) (by rw [Nat.zero_add];exact hc30) ?_)
 refine zA (yF fR Z Z ?_)
 refine oK 1 [233,0,1,2] Z Z (vF [0,1,2] (fun(⟨y,G⟩:(β×cZ)×Gr)=>AtS t x0 b f [30,29,28,25,24,23,22,15,14] y G) (fun(⟨y,G⟩:(β×cZ)×Gr)=>[]) (fun(⟨y,G⟩:(β×cZ)×Gr)=> .many 124 (Gr.blks G)::t.X y.1) (fun(⟨y,G⟩:(β×cZ)×Gr)=> .graph t.mb G::t.D0) ?_ ?_)
 ·intro Kj9 hKj9
  refine zU Z (fun h233=>?_) (fun h233=>?_)
  ·obtain⟨fv,hfv⟩: ∃fv,f 30=some fv:=Option.isSome_iff_exists.1 (hp30.symm.trans h233)
   have hok:=hft 30 fv aE aE hfv
   refine vI 0 30 Z hm aE aE hc30 hfv ?_
   have hks:=uD hfv
   obtain⟨bs,rfl⟩:=gw hok
   refine i5 0 Z (fun pl sl hu=>?_)
   cases hu
   refine vO 1 Z (fun A1 c1 hx hk1 hk2=>?_)
   subst hx
   unfold maxLen at hk2
   change cI f 30=bs at hks
   refine rO 7 Z (zC qO Z Z ?_)
   refine zA (yS 0 dh Z Z Z (yZ hm) (by rw [Nat.zero_add];exact hc30) ?_)
   refine oO 3 Z (yL 0 jq Z Z Z ?_)
   refine zA (zW dy Z Z ?_)
   refine oK 4 [241,240,239,0,1,2] Z Z (sS (D':= .graph t.mb G:: .rowp (.slice A1 bs.length c1) bs::t.D0) aZ ?_)
   refine yQ 1 (fun(⟨i,y,G⟩:Nat×(β×cZ)×Gr)=>i≤bs.length∧AtS t x0 b f [29,28,25,24,23,22,15,14] y G∧ ∀ j c,j<i→bs[j]? =some c→t.dn y (decide (30=30)) c) (fun(⟨i,y,G⟩:Nat×(β×cZ)×Gr)=>[(241, .int .i64 ((i:Nat):Int))]) (fun(⟨i,y,G⟩:Nat×(β×cZ)×Gr)=> .many 124 (Gr.blks G)::t.X y.1) (fun(⟨i,y,G⟩:Nat×(β×cZ)×Gr)=> .graph t.mb G:: .rowp (.slice A1 bs.length c1) bs::t.D0) (fun(⟨i,y,G⟩:Nat×(β×cZ)×Gr)=>bs.length - i) (0,y,G) (⟨Nat.zero_le _,hI,fun j c h=>absurd h (Nat.not_lt_zero _)⟩) (eC Z (eN _)) Z Z ?_ (eC Z (eC Z (eC Z (eC Z (eC Z (eN _))))))
   intro ⟨i,y,G⟩ hI K hK6
   change Run _ _ _ _ _ [(241,_),(240,_),(239,_),(0,_),(1,_),(2,_)] (.many 124 (Gr.blks G)::t.X y.1) (.graph t.mb G:: .rowp (.slice A1 bs.length c1) bs::t.D0)
   obtain⟨hi,hI,hno⟩:=hI
   refine rO 3 Z (yJ Z Z Z ?_)
   refine oR 2 Z (zK Z (fun h242=>?_) (fun h242=>?_))
   ·refine rO 6 Z ?_
    have hlt:i<bs.length:=h242
    refine wM 1 dy Z Z Z Z hlt (zA ?_)
    refine yE da Z Z (fun _ h=>vE h (j:=1) Z (List.getElem?_eq_getElem hlt)) ?_
    refine oO 9 Z ?_
    refine qS 30 hI aD IH (hkid 30 aE _ a9) Z Z Z aQ (fun y247 G247 hI247 hd247 hm247=>?_)
    refine oO 4 Z (yD Z Z aC ?_)
    refine oR 3 Z ?_
    exact kQ (hK6 (i+1,_,_) (⟨by show i+1≤_;omega,hI247,fH hno hm247 (List.getElem?_eq_getElem hlt) hd247⟩) av) (eC Z (eC Z (eC Z (eC Z (eC Z (eC Z (eN _))))))) (hD:=(cQ 0 Z sQ))
   have hall:=gx aC hno
   refine uX Z ?_
   exact kQ (hKj9 (_,_) (hI.add (fun c hc=>by rw [hks]at hc;exact hall c hc))) (eC Z (eC Z (eC Z (eN _))))
  have hf30:f 30=none:=tR hp30 h233
  refine xY ?_
  exact kQ (hKj9 (_,_) (hI.none hf30)) (eC Z (eC Z (eC Z (eN _))))
 intro ⟨y,G⟩ hI
 replace hI:AtS t x0 b f [30,29,28,25,24,23,22,15,14] y G:=hI
 change Run _ _ _ _ _ [(0,_),(1,_),(2,_)] (.many 124 (Gr.blks G)::t.X y.1) (.graph t.mb G::t.D0)
 obtain⟨cs,hm⟩:=hI.mem
 refine xP 0 31 Z hm aE aE (fun p31 hc31 hp31=>?_)
 refine rO 8 Z (zC pW Z Z ?_)
 refine zA (yS 0 da Z Z Z (yZ hm) (by rw [Nat.zero_add];exact hc31) ?_)
 refine zA (yF fW Z Z ?_)
 refine oK 1 [253,0,1,2] Z Z (vF [0,1,2] (fun(⟨y,G⟩:(β×cZ)×Gr)=>AtS t x0 b f [31,30,29,28,25,24,23,22,15,14] y G) (fun(⟨y,G⟩:(β×cZ)×Gr)=>[]) (fun(⟨y,G⟩:(β×cZ)×Gr)=> .many 124 (Gr.blks G)::t.X y.1) (fun(⟨y,G⟩:(β×cZ)×Gr)=> .graph t.mb G::t.D0) ?_ ?_)
 ·intro Kj10 hKj10
  refine zU Z (fun h253=>?_) (fun h253=>?_)
  ·obtain⟨fv,hfv⟩: ∃fv,f 31=some fv:=Option.isSome_iff_exists.1 (hp31.symm.trans h253)
   have hok:=hft 31 fv aE aE hfv
   refine vI 0 31 Z hm aE aE hc31 hfv ?_
   have hks:=uD hfv
   obtain⟨bb,rfl⟩:=yd hok
   refine uN (p:=p31=some ⟨bb,0,none⟩) (fun w ok h=>by have:=(dget h 0 Z:(DA.fv (.pointer p31) (.one bb)).p w ok);cases this;rfl) (fun hu=>?_)
   subst hu
   change cI f 31=[bb]at hks
   refine rO 6 Z (zC pW Z Z ?_)
   refine zA (yS 0 da Z Z Z (yZ hm) (by rw [Nat.zero_add];exact hc31) ?_)
   refine oO 3 Z ?_
   refine qS 31 hI aD IH (hkid 31 aE _ (by rw [hks];simp)) Z Z Z aQ (fun y259 G259 hI259 hd259 hm259=>?_)
   refine zY ?_
   exact kQ (hKj10 (_,_) (hI259.add (fun c hc=>by rw [hks]at hc;rcases List.mem_singleton.1 hc with rfl;exact hd259))) (eC Z (eC Z (eC Z (eN _))))
  have hf31:f 31=none:=tR hp31 h253
  refine xY ?_
  exact kQ (hKj10 (_,_) (hI.none hf31)) (eC Z (eC Z (eC Z (eN _))))
 intro ⟨y,G⟩ hI
 replace hI:AtS t x0 b f [31,30,29,28,25,24,23,22,15,14] y G:=hI
 change Run _ _ _ _ _ [(0,_),(1,_),(2,_)] (.many 124 (Gr.blks G)::t.X y.1) (.graph t.mb G::t.D0)
 obtain⟨cs,hm⟩:=hI.mem
 refine xP 0 32 Z hm aE aE (fun p32 hc32 hp32=>?_)
 refine rO 8 Z (zC rV Z Z ?_)
 refine zA (yS 0 de Z Z Z (yZ hm) (by rw [Nat.zero_add];exact hc32) ?_)
 refine zA (yF i4 Z Z ?_)
 refine oK 1 [264,0,1,2] Z Z (vF [0,1,2] (fun(⟨y,G⟩:(β×cZ)×Gr)=>AtS t x0 b f [32,31,30,29,28,25,24,23,22,15,14] y G) (fun(⟨y,G⟩:(β×cZ)×Gr)=>[]) (fun(⟨y,G⟩:(β×cZ)×Gr)=> .many 124 (Gr.blks G)::t.X y.1) (fun(⟨y,G⟩:(β×cZ)×Gr)=> .graph t.mb G::t.D0) ?_ ?_)
 ·intro Kj11 hKj11
  refine zU Z (fun h264=>?_) (fun h264=>?_)
  ·obtain⟨fv,hfv⟩: ∃fv,f 32=some fv:=Option.isSome_iff_exists.1 (hp32.symm.trans h264)
   have hok:=hft 32 fv aE aE hfv
   refine vI 0 32 Z hm aE aE hc32 hfv ?_
   have hks:=uD hfv
   obtain⟨l,rfl⟩:=jf hok
   refine sO 0 Z (fun pl sl nbs hu=>?_)
   cases hu
   refine vO 1 Z (fun A1 c1 hx hk1 hk2=>?_)
   subst hx
   refine tH 2 Z (fun hnl=>?_)
   unfold maxLen at hk2
   change cI f 32=l.map (·.2)at hks
   refine rO 7 Z (zC rV Z Z ?_)
   refine zA (yS 0 de Z Z Z (yZ hm) (by rw [Nat.zero_add];exact hc32) ?_)
   refine oO 3 Z (yL 0 iK Z Z Z ?_)
   refine zA (zW dd Z Z ?_)
   refine oK 4 [272,271,270,0,1,2] Z Z (sS (D':= .graph t.mb G:: .rowp (.slice A1 nbs.length c1) nbs:: .nam nbs l::t.D0) aX ?_)
   refine yQ 1 (fun(⟨i,y,G⟩:Nat×(β×cZ)×Gr)=>i≤nbs.length∧AtS t x0 b f [31,30,29,28,25,24,23,22,15,14] y G∧ ∀ j c,j<i→(l.map (·.2))[j]? =some c→t.dn y (decide (32=30)) c) (fun(⟨i,y,G⟩:Nat×(β×cZ)×Gr)=>[(272, .int .i64 ((i:Nat):Int))]) (fun(⟨i,y,G⟩:Nat×(β×cZ)×Gr)=> .many 124 (Gr.blks G)::t.X y.1) (fun(⟨i,y,G⟩:Nat×(β×cZ)×Gr)=> .graph t.mb G:: .rowp (.slice A1 nbs.length c1) nbs:: .nam nbs l::t.D0) (fun(⟨i,y,G⟩:Nat×(β×cZ)×Gr)=>nbs.length - i) (0,y,G) (⟨Nat.zero_le _,hI,fun j c h=>absurd h (Nat.not_lt_zero _)⟩) (eC Z (eN _)) Z Z ?_ (eC Z (eC Z (eC Z (eC Z (eC Z (eN _))))))
   intro ⟨i,y,G⟩ hI K hK7
   change Run _ _ _ _ _ [(272,_),(271,_),(270,_),(0,_),(1,_),(2,_)] (.many 124 (Gr.blks G)::t.X y.1) (.graph t.mb G:: .rowp (.slice A1 nbs.length c1) nbs:: .nam nbs l::t.D0)
   obtain⟨hi,hI,hno⟩:=hI
   refine rO 3 Z (yJ Z Z Z ?_)
   refine oR 2 Z (zK Z (fun h273=>?_) (fun h273=>?_))
   ·refine rO 6 Z ?_
    have hlt:i<nbs.length:=h273
    have hll:i<l.length:=by omega
    refine wM 1 dd Z Z Z Z hlt (pG 2 i Z (List.getElem?_eq_getElem hll) (List.getElem?_eq_getElem hlt) (fun hksz=>?_))
    refine zA (yE jp Z Z (fun _ h=>vE h (j:=2) Z (List.getElem?_eq_getElem hlt)) ?_)
    refine oO 10 Z (zC pC Z Z ?_)
    refine zA (zH 0 da Z Z Z Z ?_)
    refine oK 3 [28,272,271,270,0,1,2] Z Z (rO 6 Z ?_)
    refine qS 32 hI aD IH (hkid 32 aE _ am) Z Z Z aQ (fun y282 G282 hI282 hd282 hm282=>?_)
    refine oO 4 Z (yD Z Z aC ?_)
    refine oR 3 Z ?_
    exact kQ (hK7 (i+1,_,_) (⟨by show i+1≤_;omega,hI282,fH hno hm282 (by rw [List.getElem?_map,List.getElem?_eq_getElem hll];rfl) hd282⟩) ar) (eC Z (eC Z (eC Z (eC Z (eC Z (eC Z (eN _))))))) (hD:=(cQ 0 Z sQ))
   have hall:=gx (bs:=l.map (·.2)) bI hno
   refine uX Z ?_
   exact kQ (hKj11 (_,_) (hI.add (fun c hc=>by rw [hks]at hc;exact hall c hc))) (eC Z (eC Z (eC Z (eN _))))
  have hf32:f 32=none:=tR hp32 h264
  refine xY ?_
  exact kQ (hKj11 (_,_) (hI.none hf32)) (eC Z (eC Z (eC Z (eN _))))
 intro ⟨y,G⟩ hI
 replace hI:AtS t x0 b f [32,31,30,29,28,25,24,23,22,15,14] y G:=hI
 change Run _ _ _ _ _ [(0,_),(1,_),(2,_)] (.many 124 (Gr.blks G)::t.X y.1) (.graph t.mb G::t.D0)
 refine rO 8 Z ?_
 refine qo Z Z Z (hok.op y b f ctx G hI.1 hS hI.2.2.2.1 (fun i hi c hc=>hI.2.2.2.2.1 i ((by decide: ∀ i∈cw,i∈[32,31,30,29,28,25,24,23,22,15,14]) i hi) c hc) hI.2.1) (fun d hd=>hd) (fun u287 M287 D287 hv287=>?_)
 obtain⟨rfl,y2,G2,hy2,hG2,rfl,rfl,hm2,hdn2,hs2⟩:=hv287
 refine zY ?_
 exact tI Tryz.results121 ⟨rfl,y2,G2,hy2,hG2,rfl,rfl,fun o d hd=>hm2 o d (hI.2.2.1 o d (hx0▸hd)),hdn2,fun d hd=>(hs2 d (fun e=>by subst e;exact Nat.lt_irrefl _ hd)).trans ((hI.2.2.2.2.2 d (Nat.le_of_lt hd)).trans (by rw [hx0]))⟩ (List.Sublist.refl _) (cC 0 Z)
section rules
variable {P:Program} {n:Nat} {F:List Nat} {c:Ctx F} {ops:Array Oper} {d:Nat} {T:TypeId} {l:List Oper} {k:List KI} {Q:Post} {e:cg} {M:List HA} {D:List DA}
theorem ye{fo:Operand}{ags:Array Operand}{ts:Array TypeId}{f:FuncId}{fst cap:Array Value}{vs:List Value}{M1 M2:List HA}{D1:List DA}{R:Value→List HA→List DA→Prop}(hd:Nat.blt d n=true)(hfo:ev e fo=some (.func (.func f) fst cap))(has:ags.toList.mapM (ev e)=some vs)
    (hct:Ct P f (fst++vs.toArray++cap) M1 D1 R) (hM:M1++M2=M) (hD: ∀ d∈D1,d∈D)
    (next: ∀ v M' D',R v M' D'→bu P n c ops l k Q ((d,v)::e) (M'++M2) (D'++D)):b0 P n c ops (some d) (.call {callee:= .value fo,args:=ags,argTypes:=ts}) T l k Q e M D:=by
  subst hM
  intro a w hf
  have hargs:ags.map a.eval=vs.toArray:=by
    apply Array.ext'
    simpa using ud hf has
  unfold Oper.wp
  have hrun:(execOp a.eval (cu (some d) (.call {callee:= .value fo,args:=ags,argTypes:=ts}) T)).run P w= .ok (.enter f (fst++vs.toArray++cap)) w:=by
    simp [execOp,cu,resolve,hf.ev hfo,Deferred.ofValue,invoke,hargs,en hct.1]
  rw [hrun]
  have hlt:=hf.lt
  refine Calls.mono (hct.2 w (c.now (M1++M2) w) (fun k hk=>⟨hk.2.1,fun h'=>hk.2.2 a8⟩) (fun h hh=>hf.own h (List.mem_append_left _ hh))
    (by have:=hf.nodup;rw [yK]at this;exact(List.nodup_append.1 this).1) (fun d hd'=>hf.dat d (hD d hd'))) ?_
  rintro e' w' ⟨v,M',D',rfl,hR,hchg,hm,hn,hft,hdat⟩
  refine next v M' D' hR _ w' ((hf.world (hf.toFitsW.swap hchg hm hn hft fun x hx=>?_)).put hd v)
  refine x.mono (fun q hq=>?_) (fun _ _=>rfl) (hdat x hx)
  obtain⟨h1,h2,h3⟩:=hq
  refine⟨?_,h2,?_⟩
  · rcases h1 with h1|h1
    · exact h1.1
    · exact .inr (Nat.le_trans hf.chg.size h1)
  · rw [yK,List.mem_append,not_or]
    refine⟨h3,fun h4=>?_⟩
    rcases h1 with h1|h1
    · exact h1.2.2 a7
    · exact absurd (hlt q a7) aC
theorem qT{fo:Operand}{ags:Array Operand}{ts:Array TypeId}{f:FuncId}{fst cap:Array Value}{vs:List Value}{pre M1:List HA}{D1:List DA}{R:Value→List HA→List DA→Prop}(hd:Nat.blt d n=true)(hfo:ev e fo=some (.func (.func f) fst cap))(has:ags.toList.mapM (ev e)=some vs)
  (hct:Ct P f (fst++vs.toArray++cap) M1 D1 R) (hM:M=pre++M1) (hD: ∀ d∈D1,d∈D)
  (next: ∀ v M' D',R v M' D'→bu P n c ops l k Q ((d,v)::e) (pre++M') (D'++D)):b0 P n c ops (some d) (.call {callee:= .value fo,args:=ags,argTypes:=ts}) T l k Q e M D:=by
 subst hM
 refine fun a w hf=>ye (M1:=M1) (M2:=pre) hd hfo has hct Z hD (fun v M' D' hR a' w' hf'=>next v M' D' hR a' w' (hf'.world (hf'.toFitsW.perm List.perm_append_comm))) a w (hf.world (hf.toFitsW.perm List.perm_append_comm))
end rules
inductive FoldR {α:Type} (Rl:V→α→α→V→Prop) (a0:α):List V→α→List V→Prop where
  |nil:FoldR Rl a0 [] a0 []
  |pos {l:List V} {a a1:α} {l':List V} {own v:V} (h:FoldR Rl a0 l a l') (hk:own.kind=5) (hr:Rl own a a1 v):FoldR Rl a0 (l++[own]) a1 (l'++[v])
  |neg {l:List V} {a:α} {l':List V} {own:V} (h:FoldR Rl a0 l a l') (hk: ¬ own.kind=5):FoldR Rl a0 (l++[own]) a (l'++[own])
theorem FoldR.len{α:Type}{Rl:V→α→α→V→Prop}{a0 a:α}{l l':List V}(h:FoldR Rl a0 l a l'):l'.length=l.length:=by
  induction h with
  |nil=>rfl
  |pos h hk hr ih=>simp [ih]
  |neg h hk ih=>simp [ih]
theorem FoldR.stepP{α:Type}{Rl:V→α→α→V→Prop}{a0 a a1:α}{ts l':List V}{i:Nat}{v:V}(hi:i<ts.length)(h:FoldR Rl a0 (ts.take i) a l')(hk:ts[i].kind=5)(hr:Rl ts[i] a a1 v):FoldR Rl a0 (ts.take (i+1)) a1 (l'++[v]):=by
 rw [List.take_add_one,List.getElem?_eq_getElem hi]
 exact .pos h hk hr
theorem FoldR.stepN{α:Type}{Rl:V→α→α→V→Prop}{a0 a:α}{ts l':List V}{i:Nat}(hi:i<ts.length)(h:FoldR Rl a0 (ts.take i) a l')(hk: ¬ ts[i].kind=5):FoldR Rl a0 (ts.take (i+1)) a (l'++[ts[i]]):=by
 rw [List.take_add_one,List.getElem?_eq_getElem hi]
 exact .neg h hk
def Bh{α:Type}(Rl:V→α→α→V→Prop)(t:V)(a a':α)(v':V):Prop:= ∃ts',FoldR Rl a t.items a' ts'∧v'= .mk t.kind 0 ⟨#[]⟩ t.keys ts'
def dK{α:Type}(Rl:V→α→α→V→Prop)(sh:Int)(t:V)(a a':α)(v':V):Prop:=
 if sh=5 then Rl t a a' v' else if sh=6 then(if t.kind=5 then Rl t a a' v' else a'=a∧v'=t)else if sh=7 then(if t.kind=5 then Rl t a a' v' else Bh Rl t a a' v')else if sh=9∨sh=13 then Bh Rl t a a' v' else a'=a∧v'=t
def GG{α:Type}(X:α→List HA)(DX:α→DA)(Ok:Nat→α→Prop)(Rl:V→α→α→V→Prop)(f:FuncId)(fst cap:Array Value)(own:V):Prop:=
 ∀ (k:Nat) (a:α) (y:Value),Ok (k+1) a→Ct Tryz.prog f (fst++ #[y]++cap) (X a) [.val y own,DX a] (fun u M' D'=> ∃a' v' D1,Rl own a a' v'∧Ok k a'∧M'=X a'∧RV v' u D1∧D'=D1++[DX a'])
theorem rL{x:HA}: ∀ {M' M:List HA},fe M' M→fe M' (x::M)
  |[],_,_=>trivial
  |_::M',M,⟨i,hi,h⟩=>⟨i+1,by simpa using hi,by
    rw [List.eraseIdx_cons_succ]
    exact rL h⟩

theorem GH{α:Type}{X:α→List HA}{DX:α→DA}{Ok:Nat→α→Prop}{Rl:V→α→α→V→Prop}(hOk: ∀ k a,Ok (k+1) a→Ok k a)(t:V)(f:FuncId)(fst cap:Array Value)(hkl:t.keys.length≤1000000)(hil:t.items.length≤1000000)(hf: ∀ own∈t.items,own.kind=5→GG X DX Ok Rl f fst cap own)(bv bh:Nat)(A1 A2:Option Addr)(c1 c2:Nat)(a0:α)(h0:Ok t.items.length a0):
  Ct Tryz.prog 94 #[.pointer (some ⟨bv,0,none⟩), .pointer (some ⟨bh,0,none⟩)] (.blk bv [.int .i64 t.kind, .int .i64 t.num, .string t.text, .slice A1 t.keys.length c1, .slice A2 t.items.length c2] 25:: .blk bh [.func (.func f) fst cap] 27::X a0) [.val (.agg #[.int .i64 t.kind, .int .i64 t.num, .string t.text, .slice A1 t.keys.length c1, .slice A2 t.items.length c2]) t,DX a0] (fun u M' D'=> ∃a' v' D1,Bh Rl t a0 a' v'∧M'= .blk bv [.int .i64 t.kind, .int .i64 t.num, .string t.text, .slice A1 t.keys.length c1, .slice A2 t.items.length c2] 25:: .blk bh [.func (.func f) fst cap] 27::X a'∧RV v' u D1∧D'=D1++[DX a']):=by
 refine Ct.of_run (args:=[.pointer (some ⟨bv,0,none⟩), .pointer (some ⟨bh,0,none⟩)]) Tryz.func94 aF Z Tryz.ntmps94 Z (fun c=>?_)
 refine xA 0 Z (fun A1 c1 A2 c2 hx hs hk1 hk2 hi1 hi2=>?_)
 injection hx with hx
 simp only [Array.mk.injEq,List.cons.injEq,Value.slice.injEq,true_and,and_true]at hx
 obtain⟨⟨rfl,rfl⟩,rfl,rfl⟩:=hx
 unfold maxLen at hi2 hk2
 refine sL 0 Z (fun hksz=>?_)
 refine rO 3 Z (zT cf Z (fun b2=>?_))
 change bu _ _ _ _ _ _ _ _ (HA.blk _ [_,_,_,_,_] _::_) _
 refine oK 2 [2,0,1] Z Z (mU (fun(⟨b3,Ak,ck⟩:Nat×Option Addr×Nat)=>True) (fun(⟨b3,Ak,ck⟩:Nat×Option Addr×Nat)=>[(3, .pointer (some ⟨b3,0,none⟩))]) (fun(⟨b3,Ak,ck⟩:Nat×Option Addr×Nat)=>HA.blk b3 [.int .i64 t.kind, .int .i64 0, .string ⟨#[]⟩, .slice Ak t.keys.length ck, .slice none 0 0] 25::HA.blk b2 [.int .i64 0, .int .i64 0, .string ⟨#[]⟩, .slice none 0 0, .slice none 0 0] 25::HA.blk bv [.int .i64 t.kind, .int .i64 t.num, .string t.text, .slice A1 t.keys.length c1, .slice A2 t.items.length c2] 25::HA.blk bh [.func (.func f) fst cap] 27::X a0) (fun(⟨b3,Ak,ck⟩:Nat×Option Addr×Nat)=> .strs (.slice Ak t.keys.length ck) t.keys:: .strs (.slice A1 t.keys.length c1) t.keys:: .vals (.slice A2 t.items.length c2) t.items:: .val (.agg #[.int .i64 t.kind, .int .i64 t.num, .string t.text, .slice A1 t.keys.length c1, .slice A2 t.items.length c2]) t::DX a0::[]) ?_ ?_)
 ·intro K hK
  refine yW yH (zS ?_)
  refine tP 0 Z br (yB vN Z) (tP 3 Z br (yB xS Z) ?_)
  refine yI (tM 1 Z br (xD 1 eE Z Z Z) ?_)
  refine tM 4 Z br (xD 1 dD Z Z Z) (tN (rs:=[2,7]) aD aJ ?_)
  intro j hj
  simp only [List.mem_cons,List.not_mem_nil,or_false]at hj
  rcases hj with rfl|rfl
  ·refine zQ (I2:=[[4,1],[3,0],[]]) Z br aD (fun Kd hKd=>?_)
   refine uB cH Z (fun b8=>?_)
   refine hKd _ _ _ (uI aY sQ (uI aY sQ (zE (zR)))) (tN (rs:=[5,7]) aD aJ ?_)
   intro j hj
   simp only [List.mem_cons,List.not_mem_nil,or_false]at hj
   rcases hj with rfl|rfl
   ·refine zQ (I2:=[[1],[0],[]]) Z br aD (fun Kd hKd=>?_)
    refine uT 0 0 cH Z Z Z Z Z Z bT aC (fun Ak ck=>?_)
    rw [Nat.zero_add]
    refine hKd _ _ _ (uI aY sQ (uI aY sQ (zE (zR)))) (yI ?_)
    refine tM 6 Z br (tX Z (pX ..)) (zO 7 aD ?_)
    refine zQ (I2:=[[6],[1],[0],[]]) Z br aD (fun Kd hKd=>?_)
    refine zT cf Z (fun b3=>?_)
    change bu _ _ _ _ _ _ _ _ (HA.blk _ [_,_,_,_,_] _::_) _
    refine hKd _ _ _ (uI aY sQ (uI aY sQ (uI aY sQ (zE (zR))))) (zO 8 aD ?_)
    refine zQ (I2:=[[],[],[],[]]) Z br aD (fun Kd hKd=>?_)
    refine zF 0 (M':=HA.blk _ [_,_,_,_,_] _::_) Z Z Z Z cM Z Z Z (hKd _ _ _ (zE (zE (zE (zE (zR))))) ?_)
    refine yG aD (vD 1 t.keys Z aN Z hksz ?_)
    exact kQ (hK (_,_,_) (trivial)) (eC Z (eC Z (eC Z (eC Z (eN _))))) (hM:=(by repeat (first|exact wN _|exact zN _|refine zB 0 Z ?_|refine zB 1 Z ?_|refine zB 2 Z ?_|refine zB 3 Z ?_|refine zB 4 Z ?_|refine zB 5 Z ?_|refine zB 6 Z ?_|refine zB 7 Z ?_|refine zB 8 Z ?_|refine rL ?_)))
   refine zQ (I2:=[[4,1],[3,0],[]]) Z br aD (fun Kd hKd=>?_)
   refine zT cf Z (fun b3=>?_)
   change bu _ _ _ _ _ _ _ _ (HA.blk _ [_,_,_,_,_] _::_) _
   refine hKd _ _ _ (uI aY sQ (uI aY sQ (zE (zR)))) (zO 5 aD ?_)
   refine zQ (I2:=[[1],[0],[]]) Z br aD (fun Kd hKd=>?_)
   refine uT 1 0 cH Z Z Z Z Z Z bT aC (fun Ak ck=>?_)
   rw [Nat.zero_add]
   refine hKd _ _ _ (uI aY sQ (uI aY sQ (zE (zR)))) (yI ?_)
   refine tM 6 Z br (tX Z (pX ..)) (zO 8 aD ?_)
   refine zQ (I2:=[[],[],[],[]]) Z br aD (fun Kd hKd=>?_)
   refine zF 0 (M':=HA.blk _ [_,_,_,_,_] _::_) Z Z Z Z cM Z Z Z (hKd _ _ _ (zE (zE (zE (zE (zR))))) ?_)
   refine yG aD (vD 1 t.keys Z aN Z hksz ?_)
   exact kQ (hK (_,_,_) (trivial)) (eC Z (eC Z (eC Z (eC Z (eN _))))) (hM:=(by repeat (first|exact wN _|exact zN _|refine zB 0 Z ?_|refine zB 1 Z ?_|refine zB 2 Z ?_|refine zB 3 Z ?_|refine zB 4 Z ?_|refine zB 5 Z ?_|refine zB 6 Z ?_|refine zB 7 Z ?_|refine zB 8 Z ?_|refine rL ?_)))
  refine zQ (I2:=[[4,1],[3,0],[]]) Z br aD (fun Kd hKd=>?_)
  refine zT cf Z (fun b3=>?_)
  change bu _ _ _ _ _ _ _ _ (HA.blk _ [_,_,_,_,_] _::_) _
  refine hKd _ _ _ (uI aY sQ (uI aY sQ (zE (zR)))) (zO 2 aD ?_)
  refine zQ (I2:=[[4,1],[3,0],[]]) Z br aD (fun Kd hKd=>?_)
  refine uB cH Z (fun b8=>?_)
  refine hKd _ _ _ (uI aY sQ (uI aY sQ (zE (zR)))) (zO 5 aD ?_)
  refine zQ (I2:=[[1],[0],[]]) Z br aD (fun Kd hKd=>?_)
  refine uT 0 0 cH Z Z Z Z Z Z bT aC (fun Ak ck=>?_)
  rw [Nat.zero_add]
  refine hKd _ _ _ (uI aY sQ (uI aY sQ (zE (zR)))) (yI ?_)
  refine tM 6 Z br (tX Z (pX ..)) (zO 8 aD ?_)
  refine zQ (I2:=[[],[],[],[]]) Z br aD (fun Kd hKd=>?_)
  refine zF 1 (M':=_::HA.blk _ [_,_,_,_,_] _::_) Z Z Z Z cM Z Z Z (hKd _ _ _ (zE (zE (zE (zE (zR))))) ?_)
  refine yG aD (vD 0 t.keys Z aN Z hksz ?_)
  exact kQ (hK (_,_,_) (trivial)) (eC Z (eC Z (eC Z (eC Z (eN _))))) (hM:=(by repeat (first|exact wN _|exact zN _|refine zB 0 Z ?_|refine zB 1 Z ?_|refine zB 2 Z ?_|refine zB 3 Z ?_|refine zB 4 Z ?_|refine zB 5 Z ?_|refine zB 6 Z ?_|refine zB 7 Z ?_|refine zB 8 Z ?_|refine rL ?_)))
 intro ⟨b3,Ak,ck⟩ hI
 replace hI:True:=hI
 change Run _ _ _ _ _ [(3,_),(2,_),(0,_),(1,_)] (HA.blk b3 [.int .i64 t.kind, .int .i64 0, .string ⟨#[]⟩, .slice Ak t.keys.length ck, .slice none 0 0] 25::HA.blk b2 [.int .i64 0, .int .i64 0, .string ⟨#[]⟩, .slice none 0 0, .slice none 0 0] 25::HA.blk bv [.int .i64 t.kind, .int .i64 t.num, .string t.text, .slice A1 t.keys.length c1, .slice A2 t.items.length c2] 25::HA.blk bh [.func (.func f) fst cap] 27::X a0) [_,_,_,_,_]
 refine wV 25 5 (rO 4 Z ?_)
 refine zC xG Z Z (zA ?_)
 refine zG 3 dJ Z Z Z Z (zA ?_)
 refine zW cU Z Z (oK 4 [16,15,14,3,2,1] Z Z ?_)
 refine yN (DX a0) (fun w ok h=>dget h 4 Z) (rX ?_)
 refine yQ 1 (fun(⟨i,a,A,ca,xs,ts⟩:Nat×α×Option Addr×Nat×List Value×List V)=>i≤t.items.length∧FoldR Rl a0 (t.items.take i) a ts∧Ok (t.items.length - i) a∧ ∀ q,A=some q→c.w0.heap.size≤q.block) (fun(⟨i,a,A,ca,xs,ts⟩:Nat×α×Option Addr×Nat×List Value×List V)=>[(16, .int .i64 ((i:Nat):Int))]) (fun(⟨i,a,A,ca,xs,ts⟩:Nat×α×Option Addr×Nat×List Value×List V)=>HA.row A i ca 25 5 xs::HA.blk b3 [.int .i64 t.kind, .int .i64 0, .string ⟨#[]⟩, .slice Ak t.keys.length ck, .slice A i ca] 25::HA.blk b2 [.int .i64 0, .int .i64 0, .string ⟨#[]⟩, .slice none 0 0, .slice none 0 0] 25::HA.blk bv [.int .i64 t.kind, .int .i64 t.num, .string t.text, .slice A1 t.keys.length c1, .slice A2 t.items.length c2] 25::HA.blk bh [.func (.func f) fst cap] 27::X a) (fun(⟨i,a,A,ca,xs,ts⟩:Nat×α×Option Addr×Nat×List Value×List V)=> .its xs ts::DX a:: .strs (.slice Ak t.keys.length ck) t.keys:: .strs (.slice A1 t.keys.length c1) t.keys:: .vals (.slice A2 t.items.length c2) t.items:: .val (.agg #[.int .i64 t.kind, .int .i64 t.num, .string t.text, .slice A1 t.keys.length c1, .slice A2 t.items.length c2]) t::DX a0::[]) (fun(⟨i,a,A,ca,xs,ts⟩:Nat×α×Option Addr×Nat×List Value×List V)=>t.items.length - i) (0,a0,none,0,[],[]) (⟨Nat.zero_le _, .nil,h0,fun q h=>by cases h⟩) (eC Z (eN _)) Z Z ?_ (eC Z (eC Z (eC Z (eC Z (eC Z (eN _))))))
 intro ⟨i,a,A,ca,xs,ts⟩ hI K hK
 change Run _ _ _ _ _ [(16,_),(15,_),(14,_),(3,_),(2,_),(1,_)] (HA.row A i ca 25 5 xs::HA.blk b3 [.int .i64 t.kind, .int .i64 0, .string ⟨#[]⟩, .slice Ak t.keys.length ck, .slice A i ca] 25::HA.blk b2 [.int .i64 0, .int .i64 0, .string ⟨#[]⟩, .slice none 0 0, .slice none 0 0] 25::HA.blk bv [.int .i64 t.kind, .int .i64 t.num, .string t.text, .slice A1 t.keys.length c1, .slice A2 t.items.length c2] 25::HA.blk bh [.func (.func f) fst cap] 27::X a) [_,_,_,_,_,_,_]
 obtain⟨hi,hF,hO,hA⟩:=hI
 refine rO 3 Z (yJ Z Z Z ?_)
 refine oR 2 Z (zK Z (fun h17=>?_) (fun h17=>?_))
 ·rw [show t.items.length - i=(t.items.length - (i+1))+1 by omega]at hO
  refine rO 6 Z (wK 4 cU Z Z Z Z aC ?_)
  refine zA (wG 4 cA Z Z Z (List.getElem?_eq_getElem h17) (fun A3 c3 A4 c4=>?_))
  refine zA (zT cf Z (fun b5=>?_))
  change bu _ _ _ _ _ _ _ _ (HA.blk _ [_,_,_,_,_] _::_) _
  refine zA (zF 0 (M':=HA.blk _ [_,_,_,_,_] _::_) Z Z Z Z cM Z Z Z ?_)
  refine oO 5 Z (zC vN Z Z ?_)
  refine zA (zG 0 eE Z Z Z Z ?_)
  refine oR 3 Z (zK Z (fun h22=>?_) (fun h22=>?_))
  ·refine rO 2 Z (zG 5 oa Z Z Z Z ?_)
   refine zA (zL 0 Z cA Z Z ?_)
   refine zA (qT (pre:=[_,_,_,_,_,_]) Z Z Z (hf _ (List.getElem_mem h17) h22 _ a _ hO) Z (ce 0 2 Z Z) (fun u25 M25 D25 hv25=>?_))
   obtain⟨a25,v25,D25,hR25,hO25,rfl,⟨A5,c5,A6,c6,rfl,rfl⟩,rfl⟩:=hv25
   refine zA (zF 0 (M':=HA.blk _ [_,_,_,_,_] _::_) Z Z Z Z cM Z Z Z ?_)
   refine oK 1 [5,16,15,14,3,2,1] Z Z (rO 2 Z ?_)
   refine zC xG Z Z (zA ?_)
   refine zG 2 dJ Z Z Z Z (zA ?_)
   refine zL 0 Z cA Z Z (zA ?_)
   refine zM cU Z Z Z Z Z (fun b29=>?_)
   refine zA ?_
   refine sR 2 0 cU Z Z Z Z Z Z Z bT aC hA (fun A30 c30 hA30=>?_)
   refine zA (zC xG Z Z ?_)
   refine zA (zF 3 (M':=_::_::_::HA.blk _ [_,_,_,_,_] _::_) Z Z Z Z fT Z Z Z ?_)
   refine oO 4 Z (yD Z Z aC ?_)
   refine oR 3 Z (wX 3 0 Z Z Z ?_)
   exact kQ (hK (i+1,_,_,_,_,_) (⟨by show i+1≤_;omega,hF.stepP h17 h22 hR25,hO25,hA30⟩) ao) (eC Z (eC Z (eC Z (eC Z (eC Z (eC Z (eN _))))))) (hM:=(by repeat (first|exact wN _|exact zN _|refine zB 0 Z ?_|refine zB 1 Z ?_|refine zB 2 Z ?_|refine zB 3 Z ?_|refine zB 4 Z ?_|refine zB 5 Z ?_|refine zB 6 Z ?_|refine zB 7 Z ?_|refine zB 8 Z ?_|refine rL ?_))) (hD:=(by intro d hd;refine(List.mem_cons.1 hd).elim (fun e=>e▸ac) (fun hd=>?_);refine(List.mem_cons.1 hd).elim (fun e=>e▸ac) (fun hd=>?_);repeat (first|exact hd|apply List.mem_cons_of_mem)))
  refine rO 3 Z (zC xG Z Z ?_)
  refine zA (zG 2 dJ Z Z Z Z ?_)
  refine zA (zL 0 Z cA Z Z ?_)
  refine zA (zM cU Z Z Z Z Z (fun b29=>?_))
  refine zA ?_
  refine sR 2 0 cU Z Z Z Z Z Z Z bT aC hA (fun A30 c30 hA30=>?_)
  refine zA (zC xG Z Z ?_)
  refine zA (zF 3 (M':=_::_::_::HA.blk _ [_,_,_,_,_] _::_) Z Z Z Z fT Z Z Z ?_)
  refine oK 1 [16,15,14,3,2,1] Z Z (rO 3 Z ?_)
  refine yD Z Z aC (oR 3 Z ?_)
  refine wX 1 0 Z Z Z ?_
  exact kQ (hK (i+1,_,_,_,_,_) (⟨by show i+1≤_;omega,hF.stepN h17 h22,hOk _ _ hO,hA30⟩) ao) (eC Z (eC Z (eC Z (eC Z (eC Z (eC Z (eN _))))))) (hM:=(by repeat (first|exact wN _|exact zN _|refine zB 0 Z ?_|refine zB 1 Z ?_|refine zB 2 Z ?_|refine zB 3 Z ?_|refine zB 4 Z ?_|refine zB 5 Z ?_|refine zB 6 Z ?_|refine zB 7 Z ?_|refine zB 8 Z ?_|refine rL ?_))) (hD:=(by intro d hd;refine(List.mem_cons.1 hd).elim (fun e=>e▸ac) (fun hd=>?_);refine(List.mem_cons.1 hd).elim (fun e=>e▸ac) (fun hd=>?_);repeat (first|exact hd|apply List.mem_cons_of_mem)))
 obtain rfl:i=t.items.length:=by omega
 rw [List.take_length]at hF
 have hlen:=hF.len
 refine rO 4 Z (zL 1 Z cA Z Z ?_)
 refine zA (zF 2 (M':=_::_::HA.blk _ [_,_,_,_,_] _::_) Z Z Z Z cM Z Z Z ?_)
 refine zY (j5 0 0 ts hA Z Z hlen.symm ?_)
 refine vM (q:=t.kind) (m:=0) (s:=⟨#[]⟩) 3 0 Z Z aE ?_
 exact xC 1 Tryz.results94 Z Z cA ⟨a,_,_,⟨ts,hF,rfl⟩,rfl,⟨_,_,_,_,by simp only [V.kind,V.num,V.text,V.keys,V.items,hlen];rfl,rfl⟩,rfl⟩ aY (by intro d hd;refine(List.mem_cons.1 hd).elim (fun e=>e▸ac) (fun hd=>?_);refine(List.mem_cons.1 hd).elim (fun e=>e▸ac) (fun hd=>?_);repeat (first|exact hd|apply List.mem_cons_of_mem))
theorem GI{α:Type}{X:α→List HA}{DX:α→DA}{Ok:Nat→α→Prop}{Rl:V→α→α→V→Prop}(hOk: ∀ k a,Ok (k+1) a→Ok k a)(key:ByteArray)(t:V)(x:Value)(f:FuncId)(fst cap:Array Value)(hkl:t.keys.length≤1000000)(hil:t.items.length≤1000000)(hf: ∀ own∈kidsOf (bw key) t,GG X DX Ok Rl f fst cap own)(a0:α)(h0:Ok (t.items.length+1) a0):Ct Tryz.prog 54 #[.string key,x, .func (.func f) fst cap] (X a0) [.val x t,DX a0] (fun u M' D'=> ∃a' v' D1,dK Rl (bw key) t a0 a' v'∧M'=X a'∧RV v' u D1∧D'=D1++[DX a']):=by
 refine Ct.of_run (args:=[.string key,x, .func (.func f) fst cap]) Tryz.func54 aF Z Tryz.ntmps54 Z (fun c=>?_)
 refine xA 0 Z (fun A1 c1 A2 c2 hx hs hk1 hk2 hi1 hi2=>?_)
 subst hx
 unfold maxLen at hi2 hk2
 refine rO 3 Z (yM Z Z Z (fun b4=>?_))
 refine zA (yM Z Z Z (fun b5=>?_))
 refine zA (zT cf Z (fun b6=>?_))
 change bu _ _ _ _ _ _ _ _ (HA.blk _ [_,_,_,_,_] _::_) _
 refine oO 4 Z (rT Z Z Z ?_)
 refine oO 9 Z (zJ Z Z Z (JI key) cG ?_)
 refine oR 9 Z (zK Z (fun h11=>?_) (fun h11=>?_))
 ·refine rO 3 Z (zG 1 oa Z Z Z Z ?_)
  refine zA (zL 2 Z cA Z Z ?_)
  refine zA ?_
  refine qT (pre:=[_,_,_]) Z Z Z (hf t ba _ a0 _ h0) Z (ce 2 3 Z Z) (fun u15 M15 D15 hv15=>?_)
  obtain⟨a15,v15,D15,hR15,hO15,rfl,⟨A15,c15,B15,d15,rfl,rfl⟩,rfl⟩:=hv15
  refine zA (zF 0 (M':=HA.blk _ [_,_,_,_,_] _::_) Z Z Z Z cM Z Z Z ?_)
  refine oK 1 [6] Z Z ?_
  have e:dK Rl (bw key) t a0 a15 v15:=by simp [dK, *]
  exact xC 0 Tryz.results54 Z Z cA ⟨a15,v15,_,e,rfl,⟨_,_,_,_,rfl,rfl⟩,rfl⟩ aY (ce 0 1 Z Z)
 refine rR 7 Z (zK Z (fun h16=>?_) (fun h16=>?_))
 ·refine rO 3 Z (zC vN Z Z ?_)
  refine zA (zG 2 eE Z Z Z Z ?_)
  refine oK 3 [20,6,5,4] Z Z (zK Z (fun h20=>?_) (fun h20=>?_))
  ·refine rO 3 Z (zG 1 oa Z Z Z Z ?_)
   refine zA (zL 2 Z cA Z Z ?_)
   refine zA ?_
   refine qT (pre:=[_,_,_]) Z Z Z (hf t ba _ a0 _ h0) Z (ce 2 3 Z Z) (fun u23 M23 D23 hv23=>?_)
   obtain⟨a23,v23,D23,hR23,hO23,rfl,⟨A23,c23,B23,d23,rfl,rfl⟩,rfl⟩:=hv23
   refine zA (zF 0 (M':=HA.blk _ [_,_,_,_,_] _::_) Z Z Z Z cM Z Z Z ?_)
   refine zY ?_
   have e:dK Rl (bw key) t a0 a23 v23:=by simp [dK, *]
   exact xC 0 Tryz.results54 Z Z cA ⟨a23,v23,_,e,rfl,⟨_,_,_,_,rfl,rfl⟩,rfl⟩ aY (ce 0 1 Z Z)
  refine rO 5 Z (zL 2 Z cA Z Z ?_)
  refine zA (zF 0 (M':=HA.blk _ [_,_,_,_,_] _::_) Z Z Z Z cM Z Z Z ?_)
  refine zY ?_
  have e:dK Rl (bw key) t a0 a0 t:=by simp [dK, *]
  exact xC 0 Tryz.results54 Z Z cA ⟨a0,t,_,e,rfl,⟨_,_,_,_,rfl,rfl⟩,rfl⟩ aY (ce 2 3 Z Z)
 refine rK 7 [24,10,7,6,5,4] Z Z (zK Z (fun h24=>?_) (fun h24=>?_))
 ·refine rO 4 Z (zC vN Z Z ?_)
  refine zA (zG 2 eE Z Z Z Z ?_)
  refine oR 3 Z (zK Z (fun h28=>?_) (fun h28=>?_))
  ·refine rO 3 Z (zG 1 oa Z Z Z Z ?_)
   refine zA (zL 2 Z cA Z Z ?_)
   refine zA ?_
   refine qT (pre:=[_,_,_]) Z Z Z (hf t ba _ a0 _ h0) Z (ce 2 3 Z Z) (fun u31 M31 D31 hv31=>?_)
   obtain⟨a31,v31,D31,hR31,hO31,rfl,⟨A31,c31,B31,d31,rfl,rfl⟩,rfl⟩:=hv31
   refine zA (zF 0 (M':=HA.blk _ [_,_,_,_,_] _::_) Z Z Z Z cM Z Z Z ?_)
   refine oK 1 [6] Z Z ?_
   have e:dK Rl (bw key) t a0 a31 v31:=by simp [dK, *]
   exact xC 0 Tryz.results54 Z Z cA ⟨a31,v31,_,e,rfl,⟨_,_,_,_,rfl,rfl⟩,rfl⟩ aY (ce 0 1 Z Z)
  refine rS 5 Z (oF (HE.perm (.cons _ (List.Perm.swap _ _ _))) ?_)
  refine zA ?_
  refine qT (pre:=[_]) Z Z Z (GH hOk t f fst cap hkl hil (fun own ho hk5=>hf own ba) b4 b5 _ _ _ _ a0 (hOk _ _ h0)) Z (ce 2 3 Z Z) (fun u33 M33 D33 hv33=>?_)
  obtain⟨a33,v33,D33,hR33,rfl,⟨A33,c33,B33,d33,rfl,rfl⟩,rfl⟩:=hv33
  refine zA (zF 0 (M':=HA.blk _ [_,_,_,_,_] _::_) Z Z Z Z cM Z Z Z ?_)
  refine oK 1 [6] Z Z ?_
  have e:dK Rl (bw key) t a0 a33 v33:=by simp [dK, *]
  exact xC 0 Tryz.results54 Z Z cA ⟨a33,v33,_,e,rfl,⟨_,_,_,_,rfl,rfl⟩,rfl⟩ aY (ce 0 1 Z Z)
 refine rR 8 Z (wP Z (fun h34=>?_) (fun h34=>?_))
 ·refine rS 6 Z (oF (HE.perm (.cons _ (List.Perm.swap _ _ _))) ?_)
  refine zA ?_
  refine qT (pre:=[_]) Z Z Z (GH hOk t f fst cap hkl hil (fun own ho hk5=>hf own ba) b4 b5 _ _ _ _ a0 (hOk _ _ h0)) Z (ce 2 3 Z Z) (fun u38 M38 D38 hv38=>?_)
  obtain⟨a38,v38,D38,hR38,rfl,⟨A38,c38,B38,d38,rfl,rfl⟩,rfl⟩:=hv38
  refine zA (zF 0 (M':=HA.blk _ [_,_,_,_,_] _::_) Z Z Z Z cM Z Z Z ?_)
  refine oK 1 [6] Z Z ?_
  have e:dK Rl (bw key) t a0 a38 v38:=by simp [dK, *]
  exact xC 0 Tryz.results54 Z Z cA ⟨a38,v38,_,e,rfl,⟨_,_,_,_,rfl,rfl⟩,rfl⟩ aY (ce 0 1 Z Z)
 refine rR 6 Z (zK Z (fun h34_1=>?_) (fun h34_1=>?_))
 ·refine rS 4 Z (oF (HE.perm (.cons _ (List.Perm.swap _ _ _))) ?_)
  refine zA ?_
  refine qT (pre:=[_]) Z Z Z (GH hOk t f fst cap hkl hil (fun own ho hk5=>hf own ba) b4 b5 _ _ _ _ a0 (hOk _ _ h0)) Z (ce 2 3 Z Z) (fun u38 M38 D38 hv38=>?_)
  obtain⟨a38,v38,D38,hR38,rfl,⟨A38,c38,B38,d38,rfl,rfl⟩,rfl⟩:=hv38
  refine zA (zF 0 (M':=HA.blk _ [_,_,_,_,_] _::_) Z Z Z Z cM Z Z Z ?_)
  refine oK 1 [6] Z Z ?_
  have e:dK Rl (bw key) t a0 a38 v38:=by simp [dK, *]
  exact xC 0 Tryz.results54 Z Z cA ⟨a38,v38,_,e,rfl,⟨_,_,_,_,rfl,rfl⟩,rfl⟩ aY (ce 0 1 Z Z)
 refine rO 5 Z (zL 2 Z cA Z Z ?_)
 refine zA (zF 0 (M':=HA.blk _ [_,_,_,_,_] _::_) Z Z Z Z cM Z Z Z ?_)
 refine oK 1 [6] Z Z ?_
 have e:dK Rl (bw key) t a0 a0 t:=by simp [dK, *]
 exact xC 0 Tryz.results54 Z Z cA ⟨a0,t,_,e,rfl,⟨_,_,_,_,rfl,rfl⟩,rfl⟩ aY (ce 2 3 Z Z)
abbrev KS:=Option Addr×Nat×List Value×List V
def XK(b:Nat)(a:KS):List HA:=[.blk b [.slice a.1 a.2.2.2.length a.2.1] 23, .row a.1 a.2.2.2.length a.2.1 25 5 a.2.2.1]
def DK(a:KS):DA:= .its a.2.2.1 a.2.2.2
def JJ(k:Nat)(a:KS):Prop:=a.2.2.2.length+k≤1000000
def JK(own:V)(a a':KS)(v:V):Prop:=a'.2.2.2=a.2.2.2++[own]∧v=own
theorem MO(k:Nat)(a:KS)(h:JJ (k+1) a):JJ k a:=by unfold JJ at*;omega
theorem Ib{a0 a:KS}{l l':List V}(h:FoldR JK a0 l a l'):a.2.2.2=a0.2.2.2++l.filter (fun x=>decide (x.kind=5)):=by
  induction h with
  |nil=>simp
  |pos h hk hr ih=>rw [hr.1,ih,List.filter_append];simp [hk]
  |neg h hk ih=>rw [ih,List.filter_append];simp [hk]
theorem Ic{sh:Int}{t:V}{a a':KS}{v:V}(h:dK JK sh t a a' v):a'.2.2.2=a.2.2.2++kidsOf sh t:=by
 have al:Bh JK t a a' v→a'.2.2.2=a.2.2.2++t.items.filter (fun x=>decide (x.kind=5)):=fun⟨ts,h,_⟩=>Ib h
 unfold dK at h
 unfold kidsOf
 split at h
 ·rename_i h5;rw [if_pos h5];exact h.1
 rename_i h5;rw [if_neg h5]
 split at h
 ·rename_i h6
  rw [if_pos h6]
  split at h
  ·rename_i hk;rw [if_pos hk];exact h.1
  ·rename_i hk;rw [if_neg hk,h.1];simp
 rename_i h6;rw [if_neg h6]
 split at h
 ·rename_i h7
  rw [if_pos h7]
  split at h
  ·rename_i hk;rw [if_pos hk];exact h.1
  ·rename_i hk;rw [if_neg hk];exact al h
 rename_i h7;rw [if_neg h7]
 split at h
 ·rename_i h9;rw [if_pos h9];exact al h
 ·rename_i h9;rw [if_neg h9,h.1];simp
theorem KY(b3:Nat)(own:V):GG (XK b3) DK JJ JK 112 #[] #[cD b3] own:=by
 intro k a x hO
 obtain⟨A,ca,xs,out⟩:=a
 have hO:out.length+(k+1)≤1000000:=hO
 change Ct Tryz.prog 112 #[x,cD b3] [.blk b3 [.slice A out.length ca] 23, .row A out.length ca 25 5 xs] [.val x own, .its xs out] _
 refine Ct.of_run (args:=[x,cD b3]) Tryz.func112 aF Z Tryz.ntmps112 Z (fun c=>?_)
 refine xA 0 Z (fun A1 c1 A2 c2 hx hsz hk1 hk2 hi1 hi2=>?_)
 subst hx
 refine rO 3 Z (yM Z Z Z (fun b2=>?_))
 refine zA (zT cf Z (fun b3=>?_))
 change bu _ _ _ _ _ _ _ _ (HA.blk _ [_,_,_,_,_] _::_) _
 refine oR 2 Z (yW yH ?_)
 refine tM 0 Z br (xD 2 dJ Z Z Z) (tM 1 Z br (sX 1 Z cA Z) ?_)
 refine tM 2 Z br (ff cU Z) (zO 3 aD ?_)
 refine zQ (I2:=[[2,1,0]]) Z br aD (fun Kd hKd=>?_)
 refine zM cU Z Z Z Z Z (fun b7=>?_)
 refine hKd _ _ _ (uI aY sQ (zR)) (zO 4 aD ?_)
 refine zQ (I2:=[[]]) Z br aD (fun Kd hKd=>?_)
 refine cN 4 0 cU (fun A8 c8=>?_)
 refine hKd _ _ _ (zE (zR)) (tA (zB 4 Z (zN _)) ?_)
 refine wB (zB 4 Z (zN _)) 5 (yR _ _ _ _) Z br aD aD aD Z (tc 0 cU Z Z Z aC) (tN (rs:=[6,7]) aD aJ ?_)
 intro j hj
 simp only [List.mem_cons,List.not_mem_nil,or_false]at hj
 rcases hj with rfl|rfl
 ·refine zQ (I2:=[[],[]]) Z br aD (fun Kd hKd=>?_)
  refine j3 4 Z Z Z Z Z Z cM Z (hKd _ _ _ (zE (zE (zR))) ?_)
  refine zO 7 aD ?_
  refine zQ (I2:=[[],[]]) Z br aD (fun Kd hKd=>?_)
  refine zF 3 (M':=[_,_,_,HA.blk _ [_] _,_]) Z Z Z Z fT Z Z Z (hKd _ _ _ (zE (zE (zR))) ?_)
  refine yG aD (rO 3 Z ?_)
  refine zL 2 Z cA Z Z (zA ?_)
  refine zF 1 (M':=[_,HA.blk _ [_,_,_,_,_] _,_,_,_]) Z Z Z Z cM Z Z Z (oK 1 [3] Z Z ?_)
  refine wX 3 2 Z Z Z ?_
  have e:out.length+1=(out++[own]).length:=by simp
  rw [e]
  exact xC 1 Tryz.results112 Z Z cA ⟨(A8,c8,_,out++[own]),own,_,⟨rfl,rfl⟩,(by show(out++[own]).length+k≤_;rw [←e];omega),rfl,⟨_,_,_,_,rfl,rfl⟩,rfl⟩ aY (ce 3 0 Z Z)
 refine zQ (I2:=[[5],[]]) Z br aD (fun Kd hKd=>?_)
 refine zF 3 (M':=[_,_,_,HA.blk _ [_] _,_]) Z Z Z Z fT Z Z Z ?_
 refine hKd _ _ _ (vW (by repeat (first|exact wN _|exact zN _|refine zB 0 Z ?_|refine zB 1 Z ?_|refine zB 2 Z ?_|refine zB 3 Z ?_|refine zB 4 Z ?_|refine zB 5 Z ?_|refine zB 6 Z ?_|refine zB 7 Z ?_|refine zB 8 Z ?_|refine rL ?_)) sQ (zE (zR))) ?_
 refine zO 6 aD ?_
 refine zQ (I2:=[[],[]]) Z br aD (fun Kd hKd=>?_)
 refine j3 4 Z Z Z Z Z Z cM Z (hKd _ _ _ (zE (zE (zR))) ?_)
 refine yG aD (rO 3 Z ?_)
 refine zL 2 Z cA Z Z (zA ?_)
 refine zF 1 (M':=[_,HA.blk _ [_,_,_,_,_] _,_,_,_]) Z Z Z Z cM Z Z Z (oK 1 [3] Z Z ?_)
 refine wX 3 2 Z Z Z ?_
 have e:out.length+1=(out++[own]).length:=by simp
 rw [e]
 exact xC 1 Tryz.results112 Z Z cA ⟨(A8,c8,_,out++[own]),own,_,⟨rfl,rfl⟩,(by show(out++[own]).length+k≤_;rw [←e];omega),rfl,⟨_,_,_,_,rfl,rfl⟩,rfl⟩ aY (ce 3 0 Z Z)
def gB(v:V)(i:Nat):List V:=((v.keys.zip v.items).take i).flatMap (fun p=>kidsOf (bw p.1) p.2)
theorem j9{v:V}{i:Nat}(h1:i<v.keys.length)(h2:i<v.items.length):gB v (i+1)=gB v i++kidsOf (bw v.keys[i]) v.items[i]:=by
 unfold gB
 rw [List.take_add_one,(by rw [List.getElem?_zip_eq_some];exact⟨List.getElem?_eq_getElem h1,List.getElem?_eq_getElem h2⟩:(v.keys.zip v.items)[i]? =some (v.keys[i],v.items[i])),List.flatMap_append]
 simp
theorem l5{v:V}{i:Nat}(h:v.keys.length≤i):gB v i=kidsV v:=by
 unfold gB kidsV
 rw [List.take_of_length_le (by rw [List.length_zip];omega)]
theorem tj(sh:Int)(x:V):(kidsOf sh x).length≤x.items.length+1:=by
 have:=List.length_filter_le (fun x:V=>decide (x.kind=5)) x.items
 unfold kidsOf
 (repeat' split)<;>simp<;>omega
theorem l6{v:V}(hp:Pl v)(i:Nat)(h1:i≤v.keys.length)(h2:v.keys.length≤v.items.length):(gB v i).length≤61*i:=by
  induction i with
  |zero=>simp [gB]
  |succ i ih=>
    rw [j9 aC aC,List.length_append]
    have:=ih aC
    have h3:=tj (bw (v.keys[i]'aC)) (v.items[i]'aC)
    have h4:=(hp.item _ (List.getElem_mem (by omega:i<v.items.length))).len
    omega
theorem tK{z:V}{key:ByteArray}(h:z.keys.length≤z.items.length):(0≤dX z.keys key)↔(getV z key).isSome=true:=by
 rcases qP z.keys key with h1|⟨i,h1,h2⟩
 ·rw [kO aC,h1];simp
 ·rw [eu h1 aC,h1];simp
theorem Bi{p:V→Prop}{v:V}(h:p v): ¬ dI (fun z=> ¬ p z) v:=fun hd=>((tJ _ _).1 hd).1 h
theorem Bj{p:V→Prop}{v z:V}(hz:z∈kidsV v)(h: ¬ dI (fun z=> ¬ p z) z): ¬ dI (fun z=> ¬ p z) v:=fun hd=>h (((tJ _ _).1 hd).2 z hz)
theorem LH(v:V)(x:Value)(hp:Pl v):CtR Tryz.prog 69 #[x] [.val x v] (fun u D'=> ∃A c,u= .slice A (kidsV v).length c∧D'=[.vals u (kidsV v)]):=by
 refine Ct.of_run (args:=[x]) Tryz.func69 aF Z Tryz.ntmps69 Z (fun c=>?_)
 refine xA 0 Z (fun A1 c1 A2 c2 hx hsz hk1 hk2 hi1 hi2=>?_)
 subst hx
 unfold maxLen at hi2 hk2
 have hw:=hp.wf
 have hkl:=hw.kl
 have hil:=hw.il
 have hlen:=hw.le
 have h60:=hp.len
 refine rO 3 Z (yM Z Z Z (fun b1=>?_))
 refine oO 6 Z (uB cU Z (fun b6=>?_))
 refine zA (zT JQ Z (fun b3=>?_))
 change bu _ _ _ _ _ _ _ _ (HA.blk _ [_] _::_) _
 refine zA (zF 0 (M':=[HA.blk _ [_] _,_,_]) Z Z Z Z fT Z Z Z ?_)
 refine oO 5 Z (zC xS Z Z ?_)
 refine zA (zG 2 dD Z Z Z Z ?_)
 refine zA (zW cH Z Z ?_)
 refine oK 4 [10,9,8,3,1] Z Z (rX ?_)
 refine yQ 1 (fun(⟨i,A,ca,xs,out⟩:Nat×Option Addr×Nat×List Value×List V)=>i≤v.keys.length∧out=gB v i) (fun(⟨i,A,ca,xs,out⟩:Nat×Option Addr×Nat×List Value×List V)=>[(10, .int .i64 ((i:Nat):Int))]) (fun(⟨i,A,ca,xs,out⟩:Nat×Option Addr×Nat×List Value×List V)=>HA.blk b3 [.slice A out.length ca] 23::HA.row A out.length ca 25 5 xs::HA.blk b1 [.int .i64 v.kind, .int .i64 v.num, .string v.text, .slice A1 v.keys.length c1, .slice A2 v.items.length c2] 25::[]) (fun(⟨i,A,ca,xs,out⟩:Nat×Option Addr×Nat×List Value×List V)=> .its xs out:: .strs (.slice A1 v.keys.length c1) v.keys:: .vals (.slice A2 v.items.length c2) v.items:: .val (.agg #[.int .i64 v.kind, .int .i64 v.num, .string v.text, .slice A1 v.keys.length c1, .slice A2 v.items.length c2]) v::[]) (fun(⟨i,A,ca,xs,out⟩:Nat×Option Addr×Nat×List Value×List V)=>v.keys.length - i) (0,some ⟨b6,0,none⟩,0,[],[]) (⟨Nat.zero_le _,rfl⟩) (eC Z (eN _)) Z Z ?_ (eC Z (eC Z (eC Z (eC Z (eN _)))))
 intro ⟨i,A,ca,xs,out⟩ hI K hK
 change Run _ _ _ _ _ [(10,_),(9,_),(8,_),(3,_),(1,_)] [_,_,_] [_,_,_,_]
 obtain⟨hi,ho⟩:=hI
 have hol:out.length≤61*i:=by rw [ho];exact l6 hp i hi hlen
 refine rO 3 Z (yJ Z Z Z ?_)
 refine oR 2 Z (zK Z (fun h11=>?_) (fun h11=>?_))
 ·refine rO 8 Z (xX 1 cH Z Z Z Z h11 ?_)
  have hlt:i<v.items.length:=by omega
  refine zA (yE co Z Z (fun _ h=>xK h (j:=1) Z (List.getElem?_eq_getElem h11)) ?_)
  refine oO 9 Z (zC xG Z Z ?_)
  refine zA (zG 2 dJ Z Z Z Z ?_)
  refine oO 3 Z (wK 2 cU Z Z Z Z hlt ?_)
  refine zA (wG 2 cA Z Z Z (List.getElem?_eq_getElem hlt) (fun A20 c20 B20 d20=>?_))
  refine zA (rT Z Z Z ?_)
  refine zA ?_
  have hpi:=hp.item _ (List.getElem_mem hlt)
  have hli:=hpi.len
  refine sU (M1:=[_,_]) Z Z Z (GI MO (v.keys[i]'h11) (v.items[i]'hlt) _ 112 #[] #[cD b3] hpi.wf.kl hpi.wf.il (fun own _=>KY b3 own) (A,ca,xs,out) (by show out.length+_≤1000000;omega)) Z (ce 0 1 Z Z) (fun u22 M22 D22 hv22=>?_)
  obtain⟨⟨A22,ca22,xs22,out22⟩,v22,D22,hT,rfl,⟨A23,c23,B23,d23,rfl,rfl⟩,rfl⟩:=hv22
  have hout:out22=out++kidsOf (bw v.keys[i]) v.items[i]:=Ic hT
  refine oK 1 [10,9,8,3,1] Z Z (rO 3 Z ?_)
  refine yD Z Z aC (oR 3 Z ?_)
  exact kQ (hK (i+1,A22,ca22,xs22,out22) (⟨by show i+1≤_;omega,by rw [hout,ho,j9 h11 hlt]⟩) (by show v.keys.length - (i+1)<v.keys.length - i;omega)) (eC Z (eC Z (eC Z (eC Z (eC Z (eN _)))))) (hD:=(by intro d hd;refine(List.mem_cons.1 hd).elim (fun e=>e▸ac) (fun hd=>?_);repeat (first|exact hd|apply List.mem_cons_of_mem)))
 obtain rfl:i=v.keys.length:=by omega
 have hov:out=kidsV v:=by rw [ho];exact l5 (Nat.le_refl _)
 refine rO 4 Z (zG 0 dJ Z Z Z Z ?_)
 refine oR 3 Z (rG 1 0 out Z Z aG Z ?_)
 subst hov
 exact zD Tryz.results69 Z ⟨rfl,A,ca,rfl,rfl⟩ nS (cC 0 Z)
theorem KZ(f:FuncId)(p:V→Prop)(hf: ∀ z,Pl z→ ∀ y,dO Tryz.prog f #[y] [.val y z] (.bool (tb (p z))))(v:V):Pl v→ ∀ x,dO Tryz.prog 70 #[x, .func (.func f) #[] #[]] [.val x v] (.bool (tb (¬ dI (fun z=> ¬ p z) v))):=by
 refine V.indS (p:=fun v=>Pl v→ ∀ x,dO Tryz.prog 70 #[x, .func (.func f) #[] #[]] [.val x v] (.bool (tb (¬ dI (fun z=> ¬ p z) v)))) ?_ v
 intro v IH hp x
 refine Ct.of_run (args:=[x, .func (.func f) #[] #[]]) Tryz.func70 aF Z Tryz.ntmps70 Z (fun c=>?_)
 refine xA 0 Z (fun A1 c1 A2 c2 hx hsz hk1 hk2 hi1 hi2=>?_)
 subst hx
 unfold maxLen at hi2 hk2
 refine rO 3 Z (yM Z Z Z (fun b2=>?_))
 refine oO 9 Z (zL 0 Z cA Z Z ?_)
 refine zA (zJ Z Z Z (hf v hp _) (cC 2 Z) ?_)
 refine zY (zU Z (fun h9=>?_) (fun h9=>?_))
 ·refine rR 5 Z ?_
  exact zD Tryz.results70 Z ⟨congrArg Value.bool (tb_t (Bi (yO.1 h9))).symm,rfl,rfl⟩ nS (fun _ h=>by cases h)
 refine rO 5 Z (zL 0 Z cA Z Z ?_)
 refine zA (zX Z Z Z (LH v _ hp) (cC 2 Z) (fun u11 D11 hv11=>?_))
 obtain⟨A11,c11,rfl,rfl⟩:=hv11
 refine zA (zW cU Z Z ?_)
 refine oK 4 [13,12,11,1] Z Z ?_
 refine uN (p:=(kidsV v).length≤9223372036854775807) (fun w ok h=>by obtain⟨A,c,hv,h1,h2,_⟩:ValsP w ok (.slice A11 (kidsV v).length c11) (kidsV v):=dget h 0 rfl;unfold maxLen at h2;omega) (fun hkm=>?_)
 refine xF 1 (fun(i:Nat)=>i≤(kidsV v).length∧ ∀ j z,(kidsV v)[j]? =some z→j<i→dI (fun z=> ¬ p z) z) (fun(i:Nat)=>[(13, .int .i64 ((i:Nat):Int))]) (fun(i:Nat)=>(kidsV v).length - i) 0 (⟨Nat.zero_le _,fun _ _ _ h=>absurd h aC⟩) (eC Z (eN _)) ?_ (eC Z (eC Z (eC Z (eN _))))
 intro i hI K hK
 change Run _ _ _ _ _ [(13,_),(12,_),(11,_),(1,_)] _ _
 obtain⟨hi,hno⟩:=hI
 refine rO 3 Z (yJ Z Z Z ?_)
 refine oR 2 Z (zK Z (fun h14=>?_) (fun h14=>?_))
 ·refine rO 6 Z ?_
  have hzm:=List.getElem_mem h14
  refine wK 0 cU Z Z Z Z h14 (zA ?_)
  refine wG 0 cA Z Z Z (List.getElem?_eq_getElem h14) (fun A16 c16 B16 d16=>?_)
  refine zA (zT cf Z (fun b6=>?_))
  change bu _ _ _ _ _ _ _ _ (HA.blk _ [_,_,_,_,_] _::_) _
  refine zA (zF 0 (M':=[HA.blk _ [_,_,_,_,_] _,_]) Z Z Z Z cM Z Z Z ?_)
  refine oO 4 Z (zL 0 Z cA Z Z ?_)
  refine oO 3 Z (zJ Z Z Z (IH _ (vP hzm) (uV hp hzm) _) (cC 0 Z) ?_)
  refine zY (zU Z (fun h19=>?_) (fun h19=>?_))
  ·refine rK 5 [4] Z Z ?_
   exact zD Tryz.results70 Z ⟨congrArg Value.bool (tb_t (Bj hzm (yO.1 h19))).symm,rfl,rfl⟩ nS (fun _ h=>by cases h)
  refine rO 4 Z (yD Z Z aC ?_)
  refine oR 3 Z ?_
  exact kQ (hK (i+1) (⟨aC,og hno h14 (Classical.not_not.1 (wA.1 h19))⟩) aC)
 refine rR 6 Z ?_
 exact zD Tryz.results70 Z ⟨congrArg Value.bool (tb_f (fun hn=>hn ((tJ _ _).2 ⟨wA.1 h9,um aC hno⟩))).symm,rfl,rfl⟩ nS (fun _ h=>by cases h)
def Er(b:UInt8):Prop:=(97≤b.toNat∧b.toNat≤122)∨(65≤b.toNat∧b.toNat≤90)∨(48≤b.toNat∧b.toNat≤57)
def oJ(s:ByteArray):Prop:=(∀ j (h:j<s.size),Er s[j])∧s≠⟨#[]⟩
theorem oL{p:UInt8→Prop}{s:ByteArray}{i:Nat}(h: ∀ j (h:j<s.size),j<i→p s[j])(hi:i<s.size)(h0:p s[i]): ∀ j (h:j<s.size),j<i+1→p s[j]:=fun j hj hlt=>by
  rcases Nat.lt_or_ge j i with h1|h1
  · exact h j hj h1
  · have:j=i:=by omega
    subst this
    exact h0

theorem c113(s:ByteArray)(hs:s.size≤maxLen):dO Tryz.prog 113 #[.string s] [] (.bool (tb (oJ s))):=by
 refine Ct.of_run (args:=[.string s]) Tryz.func113 aF Z Tryz.ntmps113 Z (fun c=>?_)
 unfold maxLen at hs
 refine rK 12 [3,0] Z Z ?_
 refine xF 1 (fun(i:Nat)=>i≤s.size∧ ∀ j (h:j<s.size),j<i→Er s[j]) (fun(i:Nat)=>[(3, .int .i64 ((i:Nat):Int))]) (fun(i:Nat)=>s.size - i) 0 (⟨aC,fun _ _ h=>absurd h aC⟩) (eC Z (eN _)) ?_ (eC Z (eN _))
 intro i hI K hK
 change Run _ _ _ _ _ [(3,_),(0,_)] _ _
 obtain⟨hi,hno⟩:=hI
 refine rO 8 Z (xR d4 Z Z ?_)
 refine zA (yJ Z Z Z ?_)
 refine zY (zK Z (fun h8=>?_) (fun h8=>?_))
 ·refine rO 10 Z (vZ d4 Z Z Z aC ?_)
  refine oO 8 Z (wT Z Z Z ?_)
  refine oS 2 Z (yC (s:=16) Z (fun h16=>?_) (fun h16=>?_))
  ·refine oO 9 Z (wT Z Z Z ?_)
   refine oS 2 Z (yC (s:=23) Z (fun h23=>?_) (fun h23=>?_))
   ·refine oO 11 Z (wT Z Z Z ?_)
    refine oS 2 Z (yC (s:=31) Z (fun h31=>?_) (fun h31=>?_))
    ·refine oK 7 [35,3,0] Z Z (rR 6 Z ?_)
     exact zD Tryz.results113 Z ⟨yA aM,rfl,rfl⟩ nS (fun _ h=>by cases h)
    refine oO 3 Z (wR Z Z Z ?_)
    refine oK 5 [35,3,0] Z Z (zU Z (fun h35=>?_) (fun h35=>?_))
    ·refine rR 5 Z ?_
     exact zD Tryz.results113 Z ⟨yA aM,rfl,rfl⟩ nS (fun _ h=>by cases h)
    refine rO 6 Z (yD Z Z aC ?_)
    refine oR 3 Z ?_
    exact kQ (hK (i+1) (⟨aC,oL hno (hi:=h8) aU⟩) aC)
   refine oO 3 Z (wR Z Z Z ?_)
   refine oS 6 Z (yC (s:=28) Z (fun h28=>?_) (fun h28=>?_))
   ·refine oO 3 Z (wT Z Z Z ?_)
    refine oS 2 Z (yC (s:=31) Z (fun h31=>?_) (fun h31=>?_))
    ·refine oK 7 [35,3,0] Z Z (rR 6 Z ?_)
     exact zD Tryz.results113 Z ⟨yA aM,rfl,rfl⟩ nS (fun _ h=>by cases h)
    refine oO 3 Z (wR Z Z Z ?_)
    refine oK 5 [35,3,0] Z Z (zU Z (fun h35=>?_) (fun h35=>?_))
    ·refine rR 5 Z ?_
     exact zD Tryz.results113 Z ⟨yA aM,rfl,rfl⟩ nS (fun _ h=>by cases h)
    refine rO 6 Z (yD Z Z aC ?_)
    refine oR 3 Z ?_
    exact kQ (hK (i+1) (⟨aC,oL hno (hi:=h8) aU⟩) aC)
   refine oS 3 Z (xE Z Z Z ?_)
   refine xE Z Z Z (oK 4 [35,3,0] Z Z ?_)
   refine rO 7 Z (yD Z Z aC ?_)
   refine oR 3 Z ?_
   exact kQ (hK (i+1) (⟨aC,oL hno (hi:=h8) aU⟩) aC)
  refine oO 3 Z (wR Z Z Z ?_)
  refine oS 4 Z (yC (s:=20) Z (fun h20=>?_) (fun h20=>?_))
  ·refine oO 3 Z (wT Z Z Z ?_)
   refine oS 2 Z (yC (s:=23) Z (fun h23=>?_) (fun h23=>?_))
   ·refine oO 11 Z (wT Z Z Z ?_)
    refine oS 2 Z (yC (s:=31) Z (fun h31=>?_) (fun h31=>?_))
    ·refine oK 7 [35,3,0] Z Z (rR 6 Z ?_)
     exact zD Tryz.results113 Z ⟨yA aM,rfl,rfl⟩ nS (fun _ h=>by cases h)
    refine oO 3 Z (wR Z Z Z ?_)
    refine oK 5 [35,3,0] Z Z (zU Z (fun h35=>?_) (fun h35=>?_))
    ·refine rR 5 Z ?_
     exact zD Tryz.results113 Z ⟨yA aM,rfl,rfl⟩ nS (fun _ h=>by cases h)
    refine rO 6 Z (yD Z Z aC ?_)
    refine oR 3 Z ?_
    exact kQ (hK (i+1) (⟨aC,oL hno (hi:=h8) aU⟩) aC)
   refine oO 3 Z (wR Z Z Z ?_)
   refine oS 6 Z (yC (s:=28) Z (fun h28=>?_) (fun h28=>?_))
   ·refine oO 3 Z (wT Z Z Z ?_)
    refine oS 2 Z (yC (s:=31) Z (fun h31=>?_) (fun h31=>?_))
    ·refine oK 7 [35,3,0] Z Z (rR 6 Z ?_)
     exact zD Tryz.results113 Z ⟨yA aM,rfl,rfl⟩ nS (fun _ h=>by cases h)
    refine oO 3 Z (wR Z Z Z ?_)
    refine oK 5 [35,3,0] Z Z (zU Z (fun h35=>?_) (fun h35=>?_))
    ·refine rR 5 Z ?_
     exact zD Tryz.results113 Z ⟨yA aM,rfl,rfl⟩ nS (fun _ h=>by cases h)
    refine rO 6 Z (yD Z Z aC ?_)
    refine oR 3 Z ?_
    exact kQ (hK (i+1) (⟨aC,oL hno (hi:=h8) aU⟩) aC)
   refine oS 3 Z (xE Z Z Z ?_)
   refine xE Z Z Z (oK 4 [35,3,0] Z Z ?_)
   refine rO 7 Z (yD Z Z aC ?_)
   refine oR 3 Z ?_
   exact kQ (hK (i+1) (⟨aC,oL hno (hi:=h8) aU⟩) aC)
  refine oS 3 Z (xE Z Z Z ?_)
  refine xE Z Z Z (oS 8 Z ?_)
  refine xE Z Z Z (xE Z Z Z ?_)
  refine oK 4 [35,3,0] Z Z (rO 7 Z ?_)
  refine yD Z Z aC (oR 3 Z ?_)
  exact kQ (hK (i+1) (⟨aC,oL hno (hi:=h8) aU⟩) aC)
 refine rO 6 Z (uc Z Z Z ?_)
 refine oR 3 Z ?_
 exact zD Tryz.results113 Z ⟨yA (by simp only [decide_eq_true_eq,oJ];exact⟨fun h=>⟨fun j hj=>hno j hj aC,h⟩,fun h=>h.2⟩),rfl,rfl⟩ nS (fun _ h=>by cases h)
end Go.Jw

namespace Go.Jw
open Go Go.RowKit
abbrev kHash:ByteArray:=⟨#[35]⟩
abbrev LI:ByteArray:=⟨#[47]⟩
abbrev kDefs:ByteArray:=⟨#[100,101,102,105,110,105,116,105,111,110,115]⟩
abbrev kProps:ByteArray:=⟨#[112,114,111,112,101,114,116,105,101,115]⟩
def yu(base part:ByteArray):ByteArray:=base++LI++part++LI
def mI(ref base part:ByteArray):ByteArray:=ref.extract (yu base part).size ref.size
def GJ(ref base part:ByteArray):Prop:=(yu base part).size<ref.size∧ref.extract 0 (yu base part).size=yu base part∧oJ (mI ref base part)
def l7(id:ByteArray):List (ByteArray×ByteArray):=[(kHash,kDefs),(kHash,kProps),(id,kDefs),(id,kProps)]
noncomputable def fX(v:V):ByteArray:=((getV v kId).getD zV).text
noncomputable def dp(id ref:ByteArray):Option (ByteArray×ByteArray):=(l7 id).find? (fun p=>tb (GJ ref p.1 p.2))
noncomputable def oM(id ref:ByteArray):Value:=match dp id ref with
  |some p=> .tuple #[.string p.2, .string (mI ref p.1 p.2), .bool true]
  |none=> .tuple #[.string ⟨#[]⟩, .string ⟨#[]⟩, .bool false]
theorem Bk{id base part:ByteArray}{i j:Nat}(hb:[kHash,id][i]? =some base)(hp:[kDefs,kProps][j]? =some part):(l7 id)[2*i+j]? =some (base,part)∧i<2∧j<2:=by
  match i,j,hb,hp with
  |0,0,hb,hp=>cases hb;cases hp;exact⟨rfl,aC,aC⟩
  |0,1,hb,hp=>cases hb;cases hp;exact⟨rfl,aC,aC⟩
  |1,0,hb,hp=>cases hb;cases hp;exact⟨rfl,aC,aC⟩
  |1,1,hb,hp=>cases hb;cases hp;exact⟨rfl,aC,aC⟩
  |_+2,_,hb,hp=>simp at hb
  |0,_+2,hb,hp=>simp at hp
  |1,_+2,hb,hp=>simp at hp
def NoHead(id ref:ByteArray)(m:Nat):Prop:= ∀ q,q<m→ ∀ p,(l7 id)[q]? =some p→ ¬ GJ ref p.1 p.2
theorem NoHead.zero(id ref:ByteArray):NoHead id ref 0:=fun q hq=>absurd hq (Nat.not_lt_zero _)
theorem NoHead.step{id ref:ByteArray}{m:Nat}{p:ByteArray×ByteArray}(h:NoHead id ref m)(hp:(l7 id)[m]? =some p)(hn: ¬ GJ ref p.1 p.2):NoHead id ref (m+1):=fun q hq p' hp'=>by
  rcases Nat.lt_or_ge q m with h1|h1
  · exact h q h1 p' hp'
  · have:q=m:=by omega
    subst this
    rw [hp]at hp'
    cases hp'
    exact hn
theorem l8{α:Type}{p:α→Bool}: ∀ {l:List α} {m:Nat} {x:α},(∀ q,q<m→ ∀ y,l[q]? =some y→p y=false)→l[m]? =some x→p x=true→l.find? p=some x
  |[],m,x,_,h,_=>by simp at h
  |y::l,0,x,_,h,hx=>by
    have:y=x:=by simpa using h
    subst this
    simp [hx]
  |y::l,m+1,x,hno,h,hx=>by
    have hy:p y=false:=hno 0 (Nat.succ_pos _) y rfl
    rw [List.find?_cons,hy]
    exact l8 (m:=m) (fun q hq z hz=>hno (q+1) (Nat.succ_lt_succ hq) z (by simpa using hz)) bm hx
theorem yf{id ref:ByteArray}{m:Nat}{p:ByteArray×ByteArray}(h:NoHead id ref m)(hp:(l7 id)[m]? =some p)(hm:GJ ref p.1 p.2):dp id ref=some p:=
 l8 (fun q hq y hy=>tb_f (h q hq y hy)) hp (tb_t hm)
theorem yg{id ref:ByteArray}(h:NoHead id ref 4):dp id ref=none:=by
 unfold dp
 rw [List.find?_eq_none]
 intro p hp
 obtain⟨q,hq⟩:=List.getElem?_of_mem hp
 have hlt:q<4:=by
  have:=(List.getElem?_eq_some_iff.1 hq).1
  simpa [l7]using this
 rw [tb_f (h q hlt p hq)]
 decide
end Go.Jw

namespace Go.Jw
open Go Go.RowKit Go.Proofs
set_option maxRecDepth 8000
section rules
variable {P:Program} {n:Nat} {F:List Nat} {c:Ctx F} {ops:Array Oper} {d:Option Tmp} {op:Op} {T:TypeId} {l:List Oper} {k:List KI} {Q:Post} {e:cg} {M:List HA} {D:List DA}
theorem nH(i:Nat){b:Nat}{s t:ByteArray}{E:TypeId}(hi:M[i]? =some (.blk b [.string s, .string t] E))(hF:F=[])(h1:s.size≤maxLen)(h2:t.size≤maxLen)(next:bu P n c ops l k Q e (M.eraseIdx i) (.strs (.slice (some ⟨b,0,none⟩) 2 2) [s,t]::D)):bu P n c ops l k Q e M D:=
  gk (h:= .blk b [.string s, .string t] E) [.strs (.slice (some ⟨b,0,none⟩) 2 2) [s,t]] (fun x _ h=>by rw [hF]at h;cases h) (vC hi) (fun w ok h hok hD d hd=>by
    rcases List.mem_singleton.1 hd with rfl
    refine⟨some ⟨b,0,none⟩,2,rfl,Nat.le_refl _,by decide,fun x hx=>?_,fun q x hx=>⟨⟨b,0,none⟩,rfl,hok _ bf,?_⟩⟩
    · rcases List.mem_cons.1 hx with rfl|hx
      · exact h1
      · rw [List.mem_singleton.1 hx];exact h2
    · rw [wS,uL h,Nat.zero_add,Nat.mul_one]
      match q,hx with
      |0,hx=>cases hx;rfl
      |1,hx=>cases hx;rfl
      |_+2,hx=>simp at hx) next
end rules
theorem kk{v:V}(h:Pl v):v.text.size≤200:=by
  obtain⟨d,h⟩:=h
  have h0:(⟨#[]⟩:ByteArray).size≤200:=by decide
  have key:cy v.kind v.num v.text v.keys v.items→v.text.size≤200:=fun h=>by
    rcases h.2.2 with h|h|h|h|h
    · rw [h.2.2];exact h0
    · rw [h.2.2];exact h0
    · rw [h.2.2.2];exact h0
    · rw [h.2.2.2.2];exact h0
    · exact h.2.2.2
  cases d with
  |zero=>exact key h
  |succ d=>
    rcases h with h|h
    · exact key h
    · rw [h.1.2.1];exact h0
theorem vx{v:V}(hp:Pl v):((getV v kId).getD zV).text.size≤200:=by
  cases hg:getV v kId with
  |none=>show zV.text.size≤200;decide
  |some a=>exact kk (hp.item _ (uQ hg))

theorem vy{α:Type}{a b x:α}{i:Nat}(h:[a,b][i]? =some x):x=a∨x=b:=by have:=List.mem_of_getElem? h;simpa using this
theorem MP(v:V)(x:Value)(ref:ByteArray)(hp:Pl v)(hrf:ref.size≤maxLen):dO Tryz.prog 72 #[x, .string ref] [.val x v] (oM (fX v) ref):=by
 refine Ct.of_run (args:=[x, .string ref]) Tryz.func72 aF Z Tryz.ntmps72 Z (fun c=>?_)
 refine xA 0 Z (fun A1 c1 A2 c2 hx hsz1 hk1 hk2 hi1 hi2=>?_)
 subst hx
 have hlen:=hp.wf.le
 unfold maxLen at hrf
 refine rO 3 Z (yM Z Z Z (fun b2=>?_))
 refine oO 10 Z (zL 0 Z cA Z Z ?_)
 refine zA ?_
 refine zX Z Z Z (x6 _ v kId hlen) aA (fun u16 D16 hv16=>?_)
 obtain⟨idv,hidv⟩: ∃z,z=(getV v kId).getD zV:=⟨_,rfl⟩
 rw [←hidv]at hv16
 obtain⟨_,rfl,A16,m16,B16,d16,rfl,rfl⟩:=hv16
 refine oO 7 Z (zT cf Z (fun b7=>?_))
 change bu _ _ _ _ _ _ _ _ (HA.blk _ [_,_,_,_,_] _::_) _
 refine zA (zF 0 (M':=[HA.blk _ [_,_,_,_,_] _,_]) Z Z Z Z cM Z Z Z ?_)
 refine oK 3 [7,1] Z Z (rO 4 Z ?_)
 refine zC sE Z Z (zA ?_)
 refine zG 0 co Z Z Z Z (zA ?_)
 have hidz:idv.text.size≤200:=hidv▸vx hp
 refine rB cH Z Z Z Z Z (fun b21=>?_)
 refine nH 0 Z Z aE bT (zA ?_)
 refine zW cH Z Z (oK 4 [23,22,21,1] Z Z ?_)
 refine xF 1 (fun(i:Nat)=>i≤2∧NoHead idv.text ref (2*i)) (fun(i:Nat)=>[(23, .int .i64 ((i:Nat):Int))]) (fun(i:Nat)=>2 - i) 0 (⟨aC,NoHead.zero _ _⟩) (eC Z (eN _)) ?_ (eC Z (eC Z (eC Z (eN _))))
 intro i hI K hK
 change Run _ _ _ _ _ [(23,_),(22,_),(21,_),(1,_)] _ _
 obtain⟨hi,hno⟩:=hI
 refine rO 3 Z (yJ Z Z Z ?_)
 refine oR 2 Z (zK Z (fun h24=>?_) (fun h24=>?_))
 ·refine rO 6 Z ?_
  obtain⟨base,hb⟩: ∃base,[kHash,idv.text][i]? =some base:=⟨_,List.getElem?_eq_getElem (show i<[kHash,idv.text].length from h24)⟩
  have hbz:base.size≤200:=(vy hb).elim (fun e=>e▸by decide) (fun e=>e▸hidz)
  refine xX 0 cH Z Z Z Z h24 (zA ?_)
  refine yE co Z Z (fun _ h=>xK h (j:=0) Z hb) (oO 6 Z ?_)
  refine rB cH Z Z Z Z Z (fun b27=>?_)
  refine nH 0 Z Z aE aE (zA ?_)
  refine zW cH Z Z (oK 4 [29,28,27,10,23,22,21,1] Z Z ?_)
  refine xF 1 (fun(j:Nat)=>j≤2∧NoHead idv.text ref (2*i+j)) (fun(j:Nat)=>[(29, .int .i64 ((j:Nat):Int))]) (fun(j:Nat)=>2 - j) 0 (⟨aC,hno⟩) (eC Z (eN _)) ?_ (eC Z (eC Z (eC Z (eC Z (eC Z (eC Z (eC Z (eN _))))))))
  intro j hI K hK1
  change Run _ _ _ _ _ [(29,_),(28,_),(27,_),(10,_),(23,_),(22,_),(21,_),(1,_)] _ _
  obtain⟨hj,hnoj⟩:=hI
  refine rO 3 Z (yJ Z Z Z ?_)
  refine oR 2 Z (zK Z (fun h30=>?_) (fun h30=>?_))
  ·refine rO 6 Z ?_
   obtain⟨part,hpt⟩: ∃part,[kDefs,kProps][j]? =some part:=⟨_,List.getElem?_eq_getElem (show j<[kDefs,kProps].length from h30)⟩
   obtain⟨hh,_,_⟩:=Bk hb hpt
   have hpz:part.size≤11:=(vy hpt).elim (fun e=>e▸by decide) (fun e=>e▸by decide)
   refine xX 0 cH Z Z Z Z h30 (zA ?_)
   refine yE co Z Z (fun _ h=>xK h (j:=0) Z hpt) (oO 8 Z ?_)
   refine iF Z Z Z (by show base.size+1≤_;omega) (oO 3 Z ?_)
   refine iF Z Z Z (by rw [ByteArray.size_append];show base.size+1+part.size≤_;omega) (zA ?_)
   refine iF Z Z Z (by rw [ByteArray.size_append,ByteArray.size_append];show base.size+1+part.size+1≤_;omega) (oK 3 [13,12,29,28,27,10,23,22,21,1] Z Z ?_)
   refine rO 5 Z (xR d4 Z Z ?_)
   refine oO 3 Z (xR d4 Z Z ?_)
   refine zA (CZ Z Z Z ?_)
   refine oS 2 Z (yC (s:=43) Z (fun h43=>?_) (fun h43=>?_))
   ·refine oO 5 Z (xR d4 Z Z ?_)
    refine zI Z Z (gg d4 Z Z Z aC ?_)
    refine oS 8 Z (yC (s:=51) Z (fun h51=>?_) (fun h51=>?_))
    ·refine oO 5 Z (xR d4 Z Z ?_)
     refine zI Z Z (pI d4 Z Z Z aC ?_)
     refine zI Z Z (zJ Z Z Z (c113 _ (by rw [ByteArray.size_extract];unfold maxLen;omega)) cG ?_)
     refine oK 3 [57,13,12,29,28,27,10,23,22,21,1] Z Z (zU Z (fun h57=>?_) (fun h57=>?_))
     ·refine xJ (yW yH ?_)
      refine zS (tP 0 Z br (zZ Z) ?_)
      refine tP 1 Z br (zZ Z) (tP 2 Z br (zZ Z) ?_)
      refine tP 5 Z br (yY Z) (yI ?_)
      refine tM 3 Z br (wj d4 Z) (tM 4 Z br (mL d4 Z Z aC) ?_)
      refine zS (tP 6 Z br (yY Z) ?_)
      refine tP 7 Z br (yY Z) (yG aD ?_)
      refine rK 0 [6,5,4] Z Z ?_
      exact pL Tryz.results72 Z Z Z ⟨by unfold oM fX;rw [←hidv,yf hnoj hh ⟨(by unfold yu;omega),h51,yO.1 h57⟩];rfl,rfl,rfl⟩ nS (fun _ h=>by cases h)
     refine rO 4 Z (yD Z Z aC ?_)
     refine oR 3 Z ?_
     exact kQ (hK1 (j+1) (⟨aC,hnoj.step hh (fun hm=>Bool.noConfusion ((tb_t hm.2.2).symm.trans h57))⟩) aC)
    refine oK 8 [57,13,12,29,28,27,10,23,22,21,1] Z Z (rO 5 Z ?_)
    refine yD Z Z aC (oR 3 Z ?_)
    exact kQ (hK1 (j+1) (⟨aC,hnoj.step hh (fun hm=>h51 hm.2.1)⟩) aC)
   refine oK 18 [57,13,12,29,28,27,10,23,22,21,1] Z Z (rO 5 Z ?_)
   refine yD Z Z aC (oR 3 Z ?_)
   exact kQ (hK1 (j+1) (⟨aC,hnoj.step hh (fun hm=>absurd hm.1 (by unfold yu;omega))⟩) aC)
  refine rO 4 Z (yD Z Z aC ?_)
  refine oR 3 Z ?_
  exact kQ (hK (i+1) (⟨aC,(by have e:j=2:=aC;subst e;exact hnoj)⟩) aC)
 refine rR 10 Z ?_
 obtain rfl:i=2:=by omega
 exact pL Tryz.results72 Z Z Z ⟨by unfold oM fX;rw [←hidv,yg hno],rfl,rfl⟩ nS (fun _ h=>by cases h)
theorem Ka(v:V)(x:Value)(ref:ByteArray)(hp:Pl v)(hrf:ref.size≤maxLen):CtR Tryz.prog 72 #[x, .string ref] [.val x v] (fun u D'=> ∃part nm ok,u= .tuple #[.string part, .string nm, .bool ok]∧D'=[]∧(ok=true→ ∃p,dp (fX v) ref=some p∧part=p.2∧nm=mI ref p.1 p.2)∧(ok=false→dp (fX v) ref=none)):=
  (MP v x ref hp hrf).mono (fun u M' D' ⟨h1,h2,h3⟩=>⟨h2,by
    subst h1
    unfold oM
    cases hh:dp (fX v) ref with
    |none=>exact⟨_,_,false,rfl,h3,fun h=>Bool.noConfusion h,fun _=>rfl⟩
    |some p=>exact⟨_,_,true,rfl,h3,fun _=>⟨p,rfl,rfl,rfl⟩,fun h=>Bool.noConfusion h⟩⟩)
noncomputable def PtV(v:V)(ref:ByteArray):Option V:=(dp (fX v) ref).bind fun p=>(getV v p.2).bind fun all=>getV all (mI ref p.1 p.2)
theorem Id(key:ByteArray):getV zV key=none:=by
  cases h:getV zV key with
  |none=>rfl
  |some a=>have:=uQ h;cases this
theorem MQ(v:V)(x:Value)(ref:ByteArray)(hp:Pl v)(hrf:ref.size≤maxLen):CtR Tryz.prog 35 #[x, .string ref] [.val x v] (fun u D'=> ∃y,u= .tuple #[y, .bool (PtV v ref).isSome]∧RV ((PtV v ref).getD zV) y D'):=by
 refine Ct.of_run (args:=[x, .string ref]) Tryz.func35 aF Z Tryz.ntmps35 Z (fun c=>?_)
 refine xA 0 Z (fun A1 c1 A2 c2 hx hsz1 hk1 hk2 hi1 hi2=>?_)
 subst hx
 have hlen:=hp.wf.le
 refine rO 3 Z (yM Z Z Z (fun b2=>?_))
 refine zA (zT cf Z (fun b4=>?_))
 change bu _ _ _ _ _ _ _ _ (HA.blk _ [_,_,_,_,_] _::_) _
 refine oO 6 Z (zL 1 Z cA Z Z ?_)
 refine oO 3 Z ?_
 refine zX Z Z Z (Ka v _ ref hp hrf) aA (fun u14 D14 hv14=>?_)
 obtain⟨part,nm,ok,rfl,rfl,hyes,hnone⟩:=hv14
 refine oK 15 [8,7,6,4,2] Z Z (rR 8 Z ?_)
 refine zU Z (fun h19=>?_) (fun h19=>?_)
 ·refine rO 3 Z (yX Z Z (wm ..) ?_)
  refine zA (zF 0 (M':=[HA.blk _ [_,_,_,_,_] _,_]) Z Z Z Z cM Z Z Z ?_)
  refine oR 3 Z ?_
  have hpt:PtV v ref=none:=by unfold PtV;rw [hnone (by simpa using h19)];rfl
  refine yV (M':=[HA.blk b4 [_,_,_,_,_] 25]) (by repeat (first|exact zN _|refine zB 0 Z ?_|refine zB 1 Z ?_|refine zB 2 Z ?_|refine zB 3 Z ?_|refine zB 4 Z ?_)) ?_
  refine yN (.val (.agg #[.int .i64 0, .int .i64 0, .string ⟨#[]⟩, .slice none 0 0, .slice none 0 0]) zV) (fun w ok _=>fi w ok) ?_
  exact wI 0 Tryz.results35 Z Z Z cA ⟨rfl, .agg #[.int .i64 0, .int .i64 0, .string ⟨#[]⟩, .slice none 0 0, .slice none 0 0],by rw [hpt];rfl,by rw [hpt];exact⟨none,0,none,0,rfl,rfl⟩⟩ nS (cC 0 Z)
 refine rO 4 Z (zL 1 Z cA Z Z ?_)
 refine oO 3 Z ?_
 refine zX Z Z Z (x6 _ v part hlen) aA (fun u24 D24 hv24=>?_)
 obtain⟨all,hall⟩: ∃z,z=(getV v part).getD zV:=⟨_,rfl⟩
 have hal:all.keys.length≤all.items.length:=by
  cases hg:getV v part with
  |none=>rw [hall,hg];exact Nat.le_refl _
  |some a=>rw [hall,hg];exact(hp.item _ (uQ hg)).wf.le
 rw [←hall]at hv24
 obtain⟨_,rfl,A24,m24,B24,d24,rfl,rfl⟩:=hv24
 refine oO 7 Z (zT cf Z (fun b9=>?_))
 change bu _ _ _ _ _ _ _ _ (HA.blk _ [_,_,_,_,_] _::_) _
 refine zA (zF 0 (M':=[HA.blk _ [_,_,_,_,_] _,_,_]) Z Z Z Z cM Z Z Z ?_)
 refine oK 3 [9,7,4] Z Z (rO 3 Z ?_)
 refine zL 0 Z cA Z Z (oO 3 Z ?_)
 refine zX Z Z Z (x6 _ all nm hal) aA (fun u29 D29 hv29=>?_)
 obtain⟨_,rfl,A29,m29,B29,d29,rfl,rfl⟩:=hv29
 refine oO 5 Z (zF 1 (M':=[_,HA.blk _ [_,_,_,_,_] _,_]) Z Z Z Z cM Z Z Z ?_)
 refine oR 3 Z ?_
 obtain⟨p,hp1,rfl,rfl⟩:=hyes (by simpa using h19)
 have hpt:PtV v ref=getV all (mI ref p.1 p.2):=by
  unfold PtV
  rw [hp1]
  show(getV v p.2).bind (fun a=>getV a _)=_
  cases hg:getV v p.2 with
  |none=>rw [hall,hg];exact(Id _).symm
  |some a=>rw [hall,hg];rfl
 refine yV (M':=[HA.blk b4 [_,_,_,_,_] 25]) (by repeat (first|exact zN _|refine zB 0 Z ?_|refine zB 1 Z ?_|refine zB 2 Z ?_|refine zB 3 Z ?_|refine zB 4 Z ?_)) ?_
 exact wI 0 Tryz.results35 Z Z Z cA ⟨rfl, .agg #[.int .i64 ((getV all (mI ref p.1 p.2)).getD zV).kind, .int .i64 ((getV all (mI ref p.1 p.2)).getD zV).num, .string ((getV all (mI ref p.1 p.2)).getD zV).text, .slice A29 ((getV all (mI ref p.1 p.2)).getD zV).keys.length m29, .slice B29 ((getV all (mI ref p.1 p.2)).getD zV).items.length d29],by rw [hpt];rfl,by rw [hpt];exact⟨A29,m29,B29,d29,rfl,rfl⟩⟩ nS aA
abbrev Bl(z:V):Prop:=(getV z kId).isSome=true∨(getV z k1).isSome=true
def IsRootV(v:V):Prop:=2≤(fX v).size∧(∀ h:(fX v).size - 1<(fX v).size,(fX v)[(fX v).size - 1]=35)∧(∀ j (h:j<(fX v).size),j<(fX v).size - 1→(fX v)[j]≠35)∧ ∀ z∈kidsV v,dI (fun z=> ¬ Bl z) z
theorem JL(b:UInt8)(m:Nat)(hm:m<256):(((b.toNat:Nat):Int)=(m:Nat))↔b=UInt8.ofNat m:=by
 constructor
 ·intro h
  have h1:b.toNat=m:=by omega
  rw [←h1]
  simp
 ·intro h
  subst h
  simp only [UInt8.toNat_ofNat']
  omega
theorem stepK{p:V→Prop}{l:List V}{i:Nat}{z:V}(h: ∀ j z,j<i→l[j]? =some z→p z)(hz:l[i]? =some z)(hd:p z): ∀ j z,j<i+1→l[j]? =some z→p z:=fun j z2 hj hz2=>by
  rcases Nat.lt_or_ge j i with h1|h1
  · exact h j z2 h1 hz2
  · have e:j=i:=by omega
    subst e
    rw [hz]at hz2
    cases hz2
    exact hd

theorem MR(z:V)(hp:Pl z)(y:Value):dO Tryz.prog 71 #[y] [.val y z] (.bool (tb (Bl z))):=by
 refine Ct.of_run (args:=[y]) Tryz.func71 aF Z Tryz.ntmps71 Z (fun c=>?_)
 refine xA 0 Z (fun A1 c1 A2 c2 hx hsz hk1 hk2 hi1 hi2=>?_)
 subst hx
 have hle:=hp.wf.le
 refine rO 3 Z (yM Z Z Z (fun b1=>?_))
 refine oO 6 Z (zL 0 Z cA Z Z ?_)
 refine zA (zJ Z Z Z (CS _ z _) (cC 2 Z) ?_)
 refine zA (tW Z Z Z ?_)
 refine oS 2 Z (yC (s:=6) Z (fun h6=>?_) (fun h6=>?_))
 ·refine oK 8 [2] Z Z ?_
  exact zD Tryz.results71 Z ⟨congrArg Value.bool (tb_t (p:=Bl z) (.inl ((tK hle).1 (by simpa [kId]using h6)))).symm,rfl,rfl⟩ nS (fun _ h=>by cases h)
 refine zI Z Z (zL 0 Z cA Z Z ?_)
 refine zI Z Z (zJ Z Z Z (CS _ z _) (cC 2 Z) ?_)
 refine zI Z Z (tW Z Z Z ?_)
 refine oK 5 [2] Z Z ?_
 exact zD Tryz.results71 Z ⟨congrArg Value.bool (ky (by rw [decide_eq_true_iff];unfold Bl;rw [←tK hle,←tK hle];exact⟨fun h=> .inr h,fun h=>h.resolve_left (by simpa [kId]using h6)⟩)),rfl,rfl⟩ nS (fun _ h=>by cases h)
theorem c33(v:V)(x:Value)(hp:Pl v):dO Tryz.prog 33 #[x] [.val x v] (.bool (tb (IsRootV v))):=by
 refine Ct.of_run (args:=[x]) Tryz.func33 aF Z Tryz.ntmps33 Z (fun c=>?_)
 refine xA 0 Z (fun A1 c1 A2 c2 hx hsz1 hk1 hk2 hi1 hi2=>?_)
 subst hx
 have hlen:=hp.wf.le
 have hkz:(kidsV v).length≤61000000:=by have h1:=l6 hp v.keys.length (Nat.le_refl _) hlen;rw [l5 (Nat.le_refl _)]at h1;have:=hp.wf.kl;omega
 refine rO 3 Z (yM Z Z Z (fun b1=>?_))
 refine oO 6 Z (zL 0 Z cA Z Z ?_)
 refine zA ?_
 refine zX Z Z Z (x6 _ v kId hlen) aA (fun u11 D11 hv11=>?_)
 obtain⟨idv,hidv⟩: ∃z,z=(getV v kId).getD zV:=⟨_,rfl⟩
 have hid:fX v=idv.text:=by unfold fX;rw [hidv]
 rw [←hidv]at hv11
 obtain⟨_,rfl,A11,m11,B11,d11,rfl,rfl⟩:=hv11
 refine oO 7 Z (zT cf Z (fun b3=>?_))
 change bu _ _ _ _ _ _ _ _ (HA.blk _ [_,_,_,_,_] _::_) _
 refine zA (zF 0 (M':=[HA.blk _ [_,_,_,_,_] _,_]) Z Z Z Z cM Z Z Z ?_)
 refine oO 6 Z (zC sE Z Z ?_)
 refine zA (zG 0 co Z Z Z Z ?_)
 refine zA ?_
 have hidz:idv.text.size≤200:=hidv▸vx hp
 refine xR d4 Z Z (oK 3 [5,3,1] Z Z ?_)
 refine rO 6 Z (wT Z Z Z ?_)
 refine oS 2 Z (yC (s:=19) Z (fun h19=>?_) (fun h19=>?_))
 ·refine oK 9 [26,5,3,1] Z Z (rR 6 Z ?_)
  exact zD Tryz.results33 Z ⟨congrArg Value.bool (tb_f (p:=IsRootV v) (fun hc=>by have:=hc.1;rw [hid]at this;omega)).symm,rfl,rfl⟩ nS (fun _ h=>by cases h)
 refine zI Z Z (zC sE Z Z ?_)
 refine zI Z Z (zG 0 co Z Z Z Z ?_)
 refine oO 3 Z (xO (s:=((idv.text.size - 1:Nat):Int)) Z Z Z aC aC aC ?_)
 refine zI Z Z (vZ d4 Z Z Z aC ?_)
 refine zI Z Z (tV Z Z Z ?_)
 refine oK 3 [26,5,3,1] Z Z (zU Z (fun h26=>?_) (fun h26=>?_))
 ·refine rR 5 Z ?_
  exact zD Tryz.results33 Z ⟨congrArg Value.bool (tb_f (p:=IsRootV v) (fun hc=>by have h1:=hc.2.1;rw [hid]at h1;have h2:=h1 aC;simp only [decide_eq_true_eq,decide_eq_false_iff_not,ne_eq,Decidable.not_not]at*;exact h26 ((JL _ 35 aC).2 h2))).symm,rfl,rfl⟩ nS (fun _ h=>by cases h)
 have h2:2≤idv.text.size:=by omega
 have hlast: ∀ h:idv.text.size - 1<idv.text.size,idv.text[idv.text.size - 1]=35:=fun h=>(JL _ 35 aC).1 (by simpa using h26)
 refine rK 8 [6,5,3,1] Z Z ?_
 refine xF 1 (fun(i:Nat)=>i≤idv.text.size∧ ∀ j (h:j<idv.text.size),j<i→idv.text[j]≠35) (fun(i:Nat)=>[(6, .int .i64 ((i:Nat):Int))]) (fun(i:Nat)=>idv.text.size - i) 0 (⟨aC,fun _ _ h=>absurd h aC⟩) (eC Z (eN _)) ?_ (eC Z (eC Z (eC Z (eN _))))
 intro i hI K hK
 change Run _ _ _ _ _ [(6,_),(5,_),(3,_),(1,_)] _ _
 obtain⟨hi,hno⟩:=hI
 refine rO 8 Z (xO (s:=((idv.text.size - 1:Nat):Int)) Z Z Z aC aC aC ?_)
 refine zA (yJ Z Z Z ?_)
 refine zY (zK Z (fun h30=>?_) (fun h30=>?_))
 ·refine rO 6 Z (zC sE Z Z ?_)
  refine zA (zG 0 co Z Z Z Z ?_)
  refine oO 3 Z (vZ d4 Z Z Z aC ?_)
  refine oR 3 Z (zK Z (fun h37=>?_) (fun h37=>?_))
  ·refine rK 5 [2] Z Z ?_
   exact zD Tryz.results33 Z ⟨congrArg Value.bool (tb_f (p:=IsRootV v) (fun hc=>by have h1:=hc.2.2.1;rw [hid]at h1;exact h1 i aC aC ((JL _ 35 aC).1 h37))).symm,rfl,rfl⟩ nS (fun _ h=>by cases h)
  refine rO 6 Z (yD Z Z aC ?_)
  refine oK 3 [6,5,3,1] Z Z ?_
  exact kQ (hK (i+1) (⟨aC,oL (p:=fun b=>b≠35) hno (hi:=by omega) (fun e=>h37 ((JL _ 35 aC).2 e))⟩) aC) (eC Z (eC Z (eC Z (eC Z (eN _)))))
 refine rO 5 Z (zL 1 Z cA Z Z ?_)
 refine zA ?_
 refine zX Z Z Z (LH v _ hp) aA (fun u39 D39 hv39=>?_)
 obtain⟨A39,c39,rfl,rfl⟩:=hv39
 refine zA (zW cU Z Z ?_)
 refine oK 3 [41,40,39] Z Z (rK 1 [41,40,39] Z Z ?_)
 refine xF 1 (fun(i:Nat)=>i≤(kidsV v).length∧ ∀ j z,j<i→(kidsV v)[j]? =some z→dI (fun z=> ¬ Bl z) z) (fun(i:Nat)=>[(41, .int .i64 ((i:Nat):Int))]) (fun(i:Nat)=>(kidsV v).length - i) 0 (⟨aC,fun _ _ h=>absurd h aC⟩) (eC Z (eN _)) ?_ (eC Z (eC Z (eN _)))
 intro i hI K hK1
 change Run _ _ _ _ _ [(41,_),(40,_),(39,_)] _ _
 obtain⟨hik,hnk⟩:=hI
 refine rO 3 Z (yJ Z Z Z ?_)
 refine oR 2 Z (zK Z (fun h42=>?_) (fun h42=>?_))
 ·refine rO 6 Z (wK 0 cU Z Z Z Z aC ?_)
  refine zA ?_
  obtain⟨z,hz⟩: ∃z,(kidsV v)[i]? =some z:=⟨_,List.getElem?_eq_getElem h42⟩
  refine wG 0 cA Z Z Z hz (fun A3 c3 A4 c4=>?_)
  refine zA (zT cf Z (fun b8=>?_))
  change bu _ _ _ _ _ _ _ _ (HA.blk _ [_,_,_,_,_] _::_) _
  refine zA (zF 0 (M':=[HA.blk _ [_,_,_,_,_] _,_,_]) Z Z Z Z cM Z Z Z ?_)
  refine oO 4 Z (zL 0 Z cA Z Z ?_)
  refine zA (zJ Z Z Z (KZ 71 Bl (fun z hz y=>MR z hz y) z (uV hp (List.mem_of_getElem? hz)) _) aA ?_)
  refine zY (zU Z (fun h46=>?_) (fun h46=>?_))
  ·refine rK 5 [2] Z Z ?_
   exact zD Tryz.results33 Z ⟨congrArg Value.bool (tb_f (p:=IsRootV v) (fun hc=>by have h1:=hc.2.2.2 _ (List.mem_of_getElem? hz);exact(yO.1 h46) h1)).symm,rfl,rfl⟩ nS (fun _ h=>by cases h)
  refine rO 4 Z (yD Z Z aC ?_)
  refine oR 3 Z ?_
  exact kQ (hK1 (i+1) (⟨aC,stepK hnk hz (Classical.byContradiction fun hc=>by rw [tb_t (p:= ¬ dI (fun z=> ¬ Bl z) z) hc]at h46;cases h46)⟩) aC)
 refine rR 6 Z ?_
 exact zD Tryz.results33 Z ⟨congrArg Value.bool (tb_t (p:=IsRootV v) ⟨by rw [hid];omega,by rw [hid];exact hlast,by rw [hid];exact fun j hj hlt=>hno j hj aC,fun z hz=>by obtain⟨j,hj⟩:=List.getElem?_of_mem hz;exact hnk j z (by have:=(List.getElem?_eq_some_iff.1 hj).1;omega) hj⟩).symm,rfl,rfl⟩ nS (fun _ h=>by cases h)
end Go.Jw

namespace Go.Jw
open Go Go.RowKit
abbrev bl(s:ByteArray):List UInt8:=s.data.toList
theorem oN{s t:ByteArray}(h:bl s=bl t):s=t:=by
 obtain⟨⟨a⟩⟩:=s
 obtain⟨⟨b⟩⟩:=t
 have:a=b:=h
 rw [this]
theorem qA(s:ByteArray):(bl s).length=s.size:=by
 show s.data.toList.length=s.data.size
 rw [Array.length_toList]
theorem eh(s t:ByteArray):bl (s++t)=bl s++bl t:=by
 show(s++t).data.toList=_
 rw [ByteArray.data_append,Array.toList_append]
theorem Bm{l l':List ByteArray}(h:l.map bl=l'.map bl):l=l':=by
  induction l generalizing l' with
  |nil=>cases l' with
    |nil=>rfl
    |cons y l'=>cases h
  |cons x l ih=>cases l' with
    |nil=>cases h
    |cons y l'=>
      simp only [List.map_cons,List.cons.injEq]at h
      rw [oN h.1,ih h.2]
theorem sH(s:ByteArray)(i j:Nat):bl (s.extract i j)=((bl s).take j).drop i:=by simp [bl,List.drop_take]
theorem l9(s:ByteArray)(i:Nat)(h:i<s.size):(bl s)[i]? =some s[i]:=by
 have h2:i<s.data.size:=h
 simp only [bl]
 rw [Array.getElem?_toList,Array.getElem?_eq_getElem h2]
 rfl
inductive SplL (c:UInt8):List UInt8→List (List UInt8)→Prop
  |last {s:List UInt8} (h:c∉s):SplL c s [s]
  |cut {a b:List UInt8} {l:List (List UInt8)} (h:c∉a) (t:SplL c b l):SplL c (a++c::b) (a::l)
theorem vz{c:UInt8}: ∀ {a a' b b':List UInt8},c∉a→c∉a'→a++c::b=a'++c::b'→a=a'∧b=b'
  |[],[],b,b',_,_,h=>⟨rfl,by injection h⟩
  |[],x::a',b,b',_,h2,h=>by injection h with h _;subst h;exact absurd List.mem_cons_self h2
  |x::a,[],b,b',h1,_,h=>by injection h with h _;subst h;exact absurd List.mem_cons_self h1
  |x::a,y::a',b,b',h1,h2,h=>by
    injection h with h h'
    obtain⟨e1,e2⟩:=vz (fun hm=>h1 (List.mem_cons_of_mem _ hm)) (fun hm=>h2 (List.mem_cons_of_mem _ hm)) h'
    exact⟨by rw [h,e1],e2⟩
theorem SplL.no{c:UInt8}{s:List UInt8}{l:List (List UInt8)}(h:SplL c s l)(hn:c∉s):l=[s]:=by
  cases h with
  |last _=>rfl
  |cut h t=>exact absurd aJ hn
theorem SplL.at{c:UInt8}{a b:List UInt8}{l:List (List UInt8)}(h:SplL c (a++c::b) l)(hn:c∉a): ∃l',l=a::l'∧SplL c b l':=by
  generalize hs:a++c::b=s at h
  cases h with
  |last h=>exact absurd (by rw [←hs];simp) h
  |cut h t=>
    obtain⟨rfl,rfl⟩:=vz hn h hs
    exact⟨_,rfl,t⟩
def qp(c:UInt8)(s:ByteArray)(l:List ByteArray):Prop:=SplL c (bl s) (l.map bl)
theorem Dj{c:UInt8}{s a b:ByteArray}{l:List ByteArray}(h:qp c s l)(hs:bl s=bl a++c::bl b)(ha:c∉bl a)(hb:c∉bl b):l=[a,b]:=by
 unfold qp at h
 rw [hs]at h
 obtain⟨l',h1,h2⟩:=h.at ha
 have h3:=h2.no hb
 subst h3
 exact Bm (l':=[a,b]) h1
theorem yh{c:UInt8}{s a b d:ByteArray}{l:List ByteArray}(h:qp c s l)(hs:bl s=bl a++c::(bl b++c::bl d))(ha:c∉bl a)(hb:c∉bl b)(hd:c∉bl d):l=[a,b,d]:=by
 unfold qp at h
 rw [hs]at h
 obtain⟨l',h1,h2⟩:=h.at ha
 obtain⟨l2,rfl,h3⟩:=h2.at hb
 have h4:=h3.no hd
 subst h4
 exact Bm (l':=[a,b,d]) h1
def SplK(c:UInt8)(s0:ByteArray)(acc:List ByteArray)(s:ByteArray):Prop:= ∀ l:List (List UInt8),SplL c (bl s) l→SplL c (bl s0) (acc.map bl++l)
theorem SplK.zero(c:UInt8)(s:ByteArray):SplK c s [] s:=fun l h=>h
theorem fI{c:UInt8}{s:ByteArray}{i:Nat}(h: ∀ j (h:j<s.size),j<i→s[j]≠c):c∉(bl s).take i:=fun hm=>by
 obtain⟨j,hj⟩:=List.getElem?_of_mem hm
 rw [List.getElem?_take]at hj
 split at hj
 ·rename_i hlt
  have hs:j<s.size:=by
   have:=(List.getElem?_eq_some_iff.1 hj).1
   rwa [qA]at this
  rw [l9 s j hs]at hj
  injection hj with hj
  exact h j hs hlt hj
 ·cases hj
theorem SplK.cut{c:UInt8}{s0 s:ByteArray}{acc:List ByteArray}{i:Nat}(h:SplK c s0 acc s)(hi:i<s.size)(hc:s[i]=c)(hno: ∀ j (h:j<s.size),j<i→s[j]≠c):SplK c s0 (acc++[s.extract 0 i]) (s.extract (i+1) s.size):=fun l hl=>by
  have e:bl s=bl (s.extract 0 i)++c::bl (s.extract (i+1) s.size):=by
    rw [sH,sH,List.drop_zero,←qA,List.take_length]
    have h1:(bl s)[i]'(by rw [qA];exact hi)=c:=by
      have:=l9 s i hi
      rw [List.getElem?_eq_getElem (by rw [qA];exact hi)]at this
      injection this with this
    first|rw [←h1,List.getElem_cons_drop,List.take_append_drop]|rw [←h1,List.getElem_cons_drop]
  have h2:=h (bl (s.extract 0 i)::l) (by
    rw [e]
    refine SplL.cut ?_ hl
    rw [sH,List.drop_zero]
    exact fI hno)
  simpa using h2
theorem SplK.done{c:UInt8}{s0 s:ByteArray}{acc:List ByteArray}(h:SplK c s0 acc s)(hno: ∀ j (h:j<s.size),s[j]≠c):qp c s0 (acc++[s]):=by
 have:=h [bl s] (SplL.last fun hm=>by
  have:=fI (c:=c) (s:=s) (i:=s.size) (fun j hj _=>hno j hj)
  rw [←qA,List.take_length]at this
  exact this hm)
 unfold qp
 simpa using this
end Go.Jw

namespace Go.Jw
open Go Go.RowKit Go.Proofs
set_option maxRecDepth 8000
theorem v8{s:ByteArray}{c:UInt8}{i:Nat}(hi:i<s.size):s.extract i (i+1)=⟨#[c]⟩↔s[i]=c:=by
 have h1:bl (s.extract i (i+1))=[s[i]]:=by
  rw [sH]
  have hl:i<(bl s).length:=by rw [qA];exact hi
  have hg:(bl s)[i]=s[i]:=by
   have:=l9 s i hi
   rw [List.getElem?_eq_getElem hl]at this
   injection this
  rw [List.drop_take,Nat.add_sub_cancel_left,List.drop_eq_getElem_cons hl,hg]
  rfl
 constructor
 ·intro h
  rw [h]at h1
  have:[c]=[s[i]]:=h1
  injection this with this
  exact this.symm
 ·intro h
  refine oN ?_
  rw [h1,h]
abbrev LJ(c0:UInt8)(s:ByteArray)(i:Nat)(s1:ByteArray)(n:Nat)(xs:List Value)(acc:List ByteArray):Prop:=i≤s1.size∧s1.size≤2147483648∧n=acc.length∧xs=acc.map Value.string∧SplK c0 s acc s1∧(∀ j (h:j<s1.size),j<i→s1[j]≠c0)∧n+s1.size≤2147483648∧ ∀ p∈acc,p.size≤maxLen

theorem Dk(s:ByteArray)(c0:UInt8)(hs:s.size≤2147483648):CtR Tryz.prog 168 #[.string s, .string ⟨#[c0]⟩] [] (fun u D'=> ∃A cap l,u= .slice A l.length cap∧D'=[.strs u l]∧qp c0 s l):=by
 refine Ct.of_run (args:=[.string s, .string ⟨#[c0]⟩]) Tryz.func168 aF Z Tryz.ntmps168 Z (fun c=>?_)
 refine rK 17 [0,5,6,1] Z Z (wV 9 1 ?_)
 refine yQ 3 (fun(⟨i,s1,n,A,ca,xs,acc⟩:Nat×ByteArray×Nat×Option Addr×Nat×List Value×List ByteArray)=>LJ c0 s i s1 n xs acc) (fun(⟨i,s1,n,A,ca,xs,acc⟩:Nat×ByteArray×Nat×Option Addr×Nat×List Value×List ByteArray)=>[(0, .string s1),(5, .slice A n ca),(6, .int .i64 ((i:Nat):Int))]) (fun(⟨i,s1,n,A,ca,xs,acc⟩:Nat×ByteArray×Nat×Option Addr×Nat×List Value×List ByteArray)=>HA.row A n ca 9 1 xs::[]) (fun(⟨i,s1,n,A,ca,xs,acc⟩:Nat×ByteArray×Nat×Option Addr×Nat×List Value×List ByteArray)=>([]:List DA)) (fun(⟨i,s1,n,A,ca,xs,acc⟩:Nat×ByteArray×Nat×Option Addr×Nat×List Value×List ByteArray)=>s1.size - i) (0,s,0,none,0,[],[]) (show LJ c0 s 0 s 0 [] []from⟨Nat.zero_le _,hs,rfl,rfl,SplK.zero _ _,fun j h hj=>absurd hj (Nat.not_lt_zero _),(by show 0+s.size≤_;omega),fun p hp=>(by cases hp)⟩) (eC Z (eC Z (eC Z (eN _)))) Z Z ?_ (eC Z (eN _))
 intro ⟨i,s1,n,A,ca,xs,acc⟩ hI K hK
 change Run _ _ _ _ _ [(0,_),(5,_),(6,_),(1,_)] [_] (([]:List DA))
 obtain⟨hi,hs1,hn,hxs,hK0,hno,hb,hsz⟩:=hI
 refine rO 8 Z (xR d4 Z Z ?_)
 refine zA (xL (s:=((i+1:Nat):Int)) Z Z Z bF aC aC ?_)
 refine oO 3 Z (xR d4 Z Z ?_)
 refine zA (fa Z Z Z ?_)
 refine zY (zK Z (fun h13=>?_) (fun h13=>?_))
 ·have hlt:i<s1.size:=by omega
  refine rO 14 Z (xR d4 Z Z ?_)
  refine zA (xL (s:=((i+1:Nat):Int)) Z Z Z bF aC aC ?_)
  refine zA (oX d4 Z Z Z Z aC aC ?_)
  refine oK 5 [22,0,5,6,1] Z Z (zK Z (fun h22=>?_) (fun h22=>?_))
  ·have heq:s1[i]=c0:=(v8 hlt).1 h22
   have hse:(s1.extract (i+1) s1.size).size=s1.size - (i+1):=by rw [ByteArray.size_extract];omega
   refine rO 9 Z (gg d4 Z Z Z aC ?_)
   refine zA (zM cH Z Z Z Z Z (fun b27=>?_))
   refine zA ?_
   refine cN 1 0 cH (fun A28 c28=>?_)
   refine oO 12 Z (xR d4 Z Z ?_)
   refine zA (xL (s:=((i+1:Nat):Int)) Z Z Z bF aC aC ?_)
   refine zA (pI d4 Z Z Z aC ?_)
   refine oK 5 [6,0,5,1] Z Z (uX Z ?_)
   exact kQ (hK (0,s1.extract (i+1) s1.size,n+1,_,_,xs++[.string (s1.extract 0 i)],acc++[s1.extract 0 i]) (⟨Nat.zero_le _,(by rw [hse];omega),(by rw [List.length_append,←hn];rfl),(by rw [List.map_append,hxs];rfl),hK0.cut hlt heq hno,fun j h hj=>absurd hj (Nat.not_lt_zero _),(by rw [hse];omega),fun p hp=>(List.mem_append.1 hp).elim (hsz p) (fun e=>by rw [List.mem_singleton.1 e,ByteArray.size_extract];unfold maxLen;omega)⟩) (by first|(show s1.size - (i+1)<s1.size - i;omega)|(show(s1.extract (i+1) s1.size).size - 0<s1.size - i;rw [hse];omega))) (eC Z (eC Z (eC Z (eC Z (eN _))))) (hD:=(fun _ h=>by cases h))
  refine rO 5 Z (yD Z Z aC ?_)
  refine oR 4 Z ?_
  exact kQ (hK (i+1,s1,n,A,ca,xs,acc) (⟨aC,hs1,hn,hxs,hK0,oL (p:=fun b=>b≠c0) hno hlt (fun e=>h22 ((v8 hlt).2 e)),hb,hsz⟩) (by first|(show s1.size - (i+1)<s1.size - i;omega)|(show(s1.extract (i+1) s1.size).size - 0<s1.size - i;rw [hse];omega))) (hD:=(fun _ h=>by cases h))
 have hie:i=s1.size:=by omega
 refine rO 8 Z (zM cH Z Z Z Z Z (fun b39=>?_))
 refine zA ?_
 refine cN 1 0 cH (fun A40 c40=>?_)
 refine oK 3 [4] Z Z (vD 1 (acc++[s1]) Z aG (by rw [hxs,List.map_append];rfl) (fun p hp=>(List.mem_append.1 hp).elim (hsz p) (fun e=>by rw [List.mem_singleton.1 e];unfold maxLen;omega)) ?_)
 exact zD Tryz.results168 Z ⟨rfl,_,_,acc++[s1],by rw [List.length_append,←hn];rfl,rfl,hK0.done (fun j hj=>hno j hj aC)⟩ nS (cC 0 Z)
end Go.Jw

namespace Go.Jw
open Go Go.RowKit
theorem Bn{s:ByteArray}(h:oJ s){c:UInt8}(hc:c∈bl s):Er c:=by
 obtain⟨j,hj⟩:=List.getElem?_of_mem hc
 have hs:j<s.size:=by
  have:=(List.getElem?_eq_some_iff.1 hj).1
  rwa [qA]at this
 rw [l9 s j hs]at hj
 injection hj with hj
 rw [←hj]
 exact h.1 j hs
theorem GK{c:UInt8}(h:Er c):c≠35∧c≠47:=by
 constructor
 ·intro e;subst e;unfold Er at h;revert h;decide
 ·intro e;subst e;unfold Er at h;revert h;decide
theorem GL{ref base part:ByteArray}(h:GJ ref base part):bl ref=bl base++47::(bl part++47::bl (mI ref base part)):=by
 have h1:(bl ref).take (yu base part).size=bl (yu base part):=by
  have:=congrArg bl h.2.1
  rw [sH,List.drop_zero]at this
  exact this
 have h2:(bl ref).drop (yu base part).size=bl (mI ref base part):=by
  unfold mI
  rw [sH,←qA ref,List.take_length]
 have h3:bl (yu base part)=bl base++[47]++bl part++[47]:=by
  unfold yu
  rw [eh,eh,eh]
 rw [←List.take_append_drop (yu base part).size (bl ref),h1,h2,h3]
 simp
theorem yi{ref base part p0:ByteArray}(hm:GJ ref base part)(hb:bl base=bl p0++[35])(h0:(35:UInt8)∉bl p0)(hpt:part=kDefs∨part=kProps):
    ∃rest:ByteArray,(∀ l,qp 35 ref l→l=[p0,rest])∧(∀ l,qp 47 rest l→l=[⟨#[]⟩,part,mI ref base part])∧rest.size≤ref.size:=by
  have e:=GL hm
  have hn: ∀ c∈bl (mI ref base part),c≠35∧c≠47:=fun c hc=>GK (Bn hm.2.2 hc)
  have hp: ∀ c∈bl part,c≠35∧c≠47:=by
    rcases hpt with rfl|rfl
    · decide
    · decide
  refine⟨⟨(47::(bl part++47::bl (mI ref base part))).toArray⟩,fun l hl=>?_,fun l hl=>?_,?_⟩
  · refine Dj hl ?_ h0 ?_
    · rw [e,hb];simp
    · intro hc
      have hc':(35:UInt8)∈47::(bl part++47::bl (mI ref base part)):=by simpa using hc
      rcases List.mem_cons.1 hc' with h|h
      · revert h;decide
      · rcases List.mem_append.1 h with h|h
        · exact(hp _ h).1 Z
        · rcases List.mem_cons.1 h with h|h
          · revert h;decide
          · exact(hn _ h).1 Z
  · refine yh hl ?_ aE (fun h=>(hp _ h).2 Z) (fun h=>(hn _ h).2 Z)
    simp
  · have h1:=congrArg List.length e
    rw [qA]at h1
    have h2:(⟨(47::(bl part++47::bl (mI ref base part))).toArray⟩:ByteArray).size=(47::(bl part++47::bl (mI ref base part))).length:=by
      rw [←qA]
    rw [h2]
    simp only [List.length_append,List.length_cons]at h1⊢
    omega
def Ie(s:ByteArray):Prop:=2≤s.size∧(∀ h:s.size - 1<s.size,s[s.size - 1]=35)∧ ∀ j (h:j<s.size),j<s.size - 1→s[j]≠35
theorem tm{s:ByteArray}(h:Ie s):bl s=bl (s.extract 0 (s.size - 1))++[35]∧(35:UInt8)∉bl (s.extract 0 (s.size - 1)):=by
 obtain⟨h1,h2,h3⟩:=h
 have hlt:s.size - 1<s.size:=by omega
 rw [sH,List.drop_zero]
 refine⟨?_,fI h3⟩
 have hg:(bl s)[s.size - 1]? =some 35:=by rw [l9 s _ hlt,h2 hlt]
 have hl:(bl s).drop (s.size - 1)=[35]:=by
  have hlen:s.size - 1<(bl s).length:=by rw [qA];exact hlt
  rw [List.drop_eq_getElem_cons hlen]
  rw [List.getElem?_eq_getElem hlen]at hg
  injection hg with hg
  rw [hg,List.drop_eq_nil_of_le (by rw [qA];omega)]
 conv=>lhs;rw [←List.take_append_drop (s.size - 1) (bl s),hl]
theorem Bo{p0 base:ByteArray}(h:bl base=bl p0++[35]):p0++kHash=base:=oN (by rw [eh,h])
end Go.Jw

