/- Part 5 of the proof's texts, made small by a program. -/
import Derived.Test.YtlcfillobkdnmaaGreatDoorTv4
set_option linter.unusedVariables false
set_option linter.unusedSimpArgs false
set_option maxHeartbeats 4000000
namespace Go.Jw
open Go Go.RowKit Go.Proofs
set_option maxRecDepth 8000
open Go.Sort (SWO)
section rules
variable {P:Program} {n:Nat} {F:List Nat} {c:Ctx F} {ops:Array Oper} {d:Nat} {T:TypeId} {l:List Oper} {k:List KI} {Q:cu} {e:dF} {M:List HA} {D:List DA}
theorem gn(i:Nat){b:Nat}{cs:List Value}{U:TypeId}(hi:M[i]? =some (.blk b cs U))(hF:F=[])(next:cG P n c ops l k Q e (M.eraseIdx i) (.dblk b cs U::D)):cG P n c ops l k Q e M D:=
  fC (h:= .blk b cs U) [.dblk b cs U] (fun x _ h=>by rw [hF]at h;cases h) (wQ hi) (fun w ok h hok hD d hd=>by
    rcases List.mem_singleton.1 hd with rfl
    exact⟨hok _ br,h⟩) next
theorem o7(i:Nat){x y:Operand}{A:Option Addr}{m cap j:Nat}{kd:IntKind}{S E sz by_ U:Nat}{xs:List Value}(hS:cS P S E sz by_)(hd:Nat.blt d n=true)(hx:ev e x=some (.slice A m cap))(hy:ev e y=some (.int kd (j:Nat)))(hi:M[i]? =some (.row A m cap U 1 xs))(hj:j<m)
  (next:cG P n c ops l k Q ((d, .pointer (some (At A (j*sz))))::e) M D):cL P n c ops (some d) (.indexAddr S x y) T l k Q e M D:=by
 intro a w hf
 obtain⟨_,_,h3⟩:=uK (hf.toFitsW.mem hi)
 have hl:xs.length=m:=by have:=(hf.toFitsW.mem hi:(HA.row A m cap U 1 xs).holds w).1;omega
 obtain⟨a',ha,_⟩:=h3 j xs[j] (List.getElem?_eq_getElem aC)
 subst ha
 exact xY hS hd hx hy hj next a w hf
end rules
abbrev ye(x:Nat):Value:=encN (2*x)
def vals(ys:List Y):List ByteArray:=ys.map Y.val
theorem vh(i:Nat):(List.range i).map ye++[ye i]=(List.range (i+1)).map ye:=by rw [List.range_succ,List.map_append];rfl
theorem Kt(n:Nat):(List.range n).map ye=((List.range n).map (2* ·)).map encN:=by rw [List.map_map];rfl
theorem r7{ks:List ByteArray}{us:List V}(hl:ks.length=us.length):(ks.zip (us.map dU)).length=us.length:=by rw [List.length_zip,List.length_map];omega
theorem AV{ks:List ByteArray}{us:List V}(hl:ks.length=us.length){i:Nat}(h:i<us.length):((ks.zip (us.map dU)).flatMap eH)[2*i]? =some (cU dT (ks.getD i ⟨#[]⟩)):=by
 rw [oh (by rw [r7 hl];exact h),List.getElem_zip,tC aC]
theorem HD{ks:List ByteArray}{us:List V}(hl:ks.length=us.length){i:Nat}(h:i<us.length):((ks.zip (us.map dU)).flatMap eH)[2*i+1]? =some (dU (us[i])):=by
 rw [ol (by rw [r7 hl];exact h),List.getElem_zip,List.getElem_map]
theorem Ku{ks:List ByteArray}{us:List V}(hl:ks.length=us.length){ds:List Nat}(hp:ds.Perm ((List.range us.length).map (2* ·)))(hs:ds.Pairwise (fun x y=>Ft (vals ((ks.zip (us.map dU)).flatMap eH)) y x=false)):
  ∃es:List Nat,es.Perm (List.range us.length)∧es.Pairwise (fun x y=>Ft ks y x=false)∧ds.map encN=es.map ye:=by
 have hev: ∀ x∈ds,∃y,y<us.length∧x=2*y:=fun x hx=>by
  obtain⟨y,hy,rfl⟩:=List.mem_map.1 (hp.mem_iff.1 hx)
  exact⟨y,List.mem_range.1 hy,rfl⟩
 have hkey: ∀ y,y<us.length→(vals ((ks.zip (us.map dU)).flatMap eH)).getD (2*y) ⟨#[]⟩=ks.getD y ⟨#[]⟩:=fun y hy=>by
  unfold vals
  rw [List.getD_eq_getElem?_getD,List.getElem?_map,AV hl hy]
  rfl
 refine⟨ds.map (· /2),?_,?_,?_⟩
 ·have:=hp.map (· /2)
  rw [List.map_map]at this
  have e:((fun x=>x/2)∘fun x=>2*x)=(id:Nat→Nat):=by funext x;simp only [Function.comp,id];omega
  rwa [e,List.map_id]at this
 ·rw [List.pairwise_map]
  refine hs.imp_of_mem fun {x y} hx hy h=>?_
  obtain⟨a,ha,rfl⟩:=hev x hx
  obtain⟨b,hb,rfl⟩:=hev y hy
  unfold Ft at h⊢
  rw [hkey a ha,hkey b hb]at h
  rw [show 2*a/2=a by omega,show 2*b/2=b by omega]
  exact h
 ·rw [List.map_map]
  refine List.map_congr_left fun x hx=>?_
  obtain⟨y,_,rfl⟩:=hev x hx
  show encN (2*y)=encN (2*(2*y/2))
  congr 1
  omega
set_option maxHeartbeats 2000000 in
theorem HG(W:World)(keys:List ByteArray)(dk:List Nat)(b1 nb b9 b n c m:Nat)(ka:Addr)(kc:Nat)(hn1:W.cell? ⟨b1,0,none⟩=some (ptr nb))(hks:W.cell? ⟨nb,6,none⟩=some (.slice (some ka) m kc))(hm:m=keys.length)(hps:W.cell? ⟨b9,0,none⟩=some (.slice (some ⟨b,0,none⟩) n c))(hn:dk.length=n)
  (hdk: ∀ j x,dk[j]? =some x→W.cell? ⟨b,j,none⟩=some (encN x)) (hkk: ∀ j s,keys[j]? =some s→ ∃q,W.cell? (ka.add j)=some (ptr q)∧W.cell? ⟨q,3,none⟩=some (.string s)) (hlt: ∀ x∈dk,x<keys.length) (i j:Nat) (hi:i<dk.length) (hj:j<dk.length):
  Calls Tryz.prog 167 #[.int .i64 i, .int .i64 j,ptr b1,ptr b9] W fun e w'=>e= .returned (.bool (Ft keys dk[i] dk[j]))∧ ∃q,w'=W.drewN q:=by
 have hxi:=hlt _ (List.getElem_mem hi)
 have hxj:=hlt _ (List.getElem_mem hj)
 have ci:=hdk i _ (List.getElem?_eq_getElem hi)
 have cj:=hdk j _ (List.getElem?_eq_getElem hj)
 obtain⟨qi,ki,vi⟩:=hkk _ _ (List.getElem?_eq_getElem hxi)
 obtain⟨qj,kj,vj⟩:=hkk _ _ (List.getElem?_eq_getElem hxj)
 have hin:i<n:=by omega
 have hjn:j<n:=by omega
 have him:dk[i]<m:=by omega
 have hjm:dk[j]<m:=by omega
 have hlk:Ft keys dk[i] dk[j]=Op.bytesLess keys[dk[i]].toList keys[dk[j]].toList:=by
  unfold Ft
  rw [fK,tC hxi,tC hxj,rX,rX]
 go_enter Tryz.func167,Tryz.ntmps167
 go_wp2
 go_quiet (fail)
 go_wp2
 go_ret
 refine⟨?_,nq,rfl⟩
 rw [hlk]
 rfl
theorem Kv:zn Tryz.prog 167:=⟨_,Tryz.func167,by kernel_rfl,rfl⟩
theorem EZ(ys:List Y)(A:Option Addr)(m ca nb b1 b9 pb n c9:Nat)(t v:ByteArray)(k:Int)(hm:m=ys.length): ∀ (W:World) (dk:List Nat),dk.length=n→(∀ x∈dk,x<ys.length)→(∀ x∈[HA.blk b9 [.slice (some ⟨pb,0,none⟩) n c9] 139],x.holds W)→(∀ j x,dk[j]? =some x→W.cell? ⟨pb,j,none⟩=some (encN x))→
  (∃ok,∀ d∈[DA.dblk b1 [ptr nb] 102, .dblk nb (dY k t v A m ca) 150, .kids (.slice A m ca) ys],d.p W ok)→ ∀ (i j:Nat) (hi:i<dk.length) (hj:j<dk.length),
   Calls Tryz.prog 167 (#[.int .i64 i, .int .i64 j]++ #[ptr b1,ptr b9]) W fun e w'=>e= .returned (.bool (Ft (vals ys) dk[i] dk[j]))∧ ∃q,w'=W.drewN q:=by
 intro W dk hn hlt hM hdk hD i j hi hj
 obtain⟨ok,hD⟩:=hD
 have h1:BlkP W ok b1 [ptr nb] 102:=hD _ List.mem_cons_self
 have h2:BlkP W ok nb (dY k t v A m ca) 150:=hD _ (List.mem_cons_of_mem _ List.mem_cons_self)
 obtain⟨A',c',hv,_,_,hk⟩:KidsV W ok (.slice A m ca) ys:=hD _ (List.mem_cons_of_mem _ (List.mem_cons_of_mem _ List.mem_cons_self))
 injection hv with e1 e2 e3
 subst e1;subst e3
 have hkid: ∀ (x:Nat) (y:Y),ys[x]? =some y→ ∃a b,A=some a∧ok a.block∧W.cell? (a.add x)=some (ptr b)∧NodeP W ok y b:=fun x y hx=>by
  have:=hk.get hx
  simpa using this
 obtain⟨a,_,rfl,_⟩:=hkid _ _ (List.getElem?_eq_getElem (hlt _ (List.getElem_mem hi)))
 refine HG W (vals ys) dk b1 nb b9 pb n c9 m a ca ?_ ?_ (by unfold vals;rw [List.length_map];exact hm) ?_ hn hdk (fun j s hj=>?_) (fun x hx=>by unfold vals;rw [List.length_map];exact hlt x hx) i j hi hj
 ·rw [vL h1.2];rfl
 ·rw [vL h2.2];rfl
 ·have:=hM _ List.mem_cons_self
  rw [vL this];rfl
 ·unfold vals at hj
  rw [List.getElem?_map]at hj
  obtain⟨y,hy,rfl⟩:=Option.map_eq_some_iff.1 hj
  obtain⟨a',b',ha,_,hc,hnode⟩:=hkid _ _ hy
  cases ha
  refine⟨b',hc,?_⟩
  obtain⟨q,tt,vv,zs⟩:=y
  obtain⟨_,_,_,A2,c2,hb,_⟩:=hnode
  rw [vL hb]
  rfl
def HH(fb:Addr)(u:V):Prop:= ∀ b,CtR Tryz.prog 107 #[ptr b] [.node b (dU u),jq fb] (AU (cp u))

theorem Nr(fb:Addr)(b:Nat)(y:Y)(v:V)(hk:y.kind=8)(H:CtR Tryz.prog 166 #[ptr b] [.node b y,jq fb] (AU v)):CtR Tryz.prog 107 #[ptr b] [.node b y,jq fb] (AU v):=by
 refine Ct.of_run (args:=[ptr b]) Tryz.func107 aF Z Tryz.ntmps107 Z (fun c=>?_)
 refine jd 0 Z (fun A0 cap0 ht0 hv0 hl0 hc0=>?_)
 refine rO 3 Z (yK Z Z Z (fun b1=>?_))
 refine gn 0 Z Z (zA ?_)
 refine yA dE Z (fun b2=>?_)
 change cG _ _ _ _ _ _ _ _ (HA.blk _ [_,_,_,_,_] _::_) _
 refine oO 7 Z (zJ 0 dQ Z Z Z Z ?_)
 refine zA (rW ui Z Z ?_)
 refine oO 7 Z (zJ 0 dQ Z Z Z Z ?_)
 refine oO 3 Z (zC wD Z Z ?_)
 refine zA (zJ 1 dX Z Z Z Z ?_)
 refine oR 9 Z (wP Z (decide_eq_true (by exact_mod_cast hk)) ?_)
 refine rO 3 Z (zJ 0 dQ Z Z Z Z ?_)
 refine zA (yE Z Z Z H (dP 3 4 Z Z) (fun u27 D27 hv27=>?_))
 obtain⟨_,rfl,A27,c27,B27,d27,rfl,rfl⟩:=hv27
 refine oO 5 Z (zG 0 (M':=[HA.blk _ [_,_,_,_,_] _]) Z Z Z Z co Z Z Z ?_)
 refine oK 3 [3,2] Z Z ?_
 refine yD (M':=[HA.blk b2 [_,_,_,_,_] 25]) (by repeat (first|exact zQ _|refine zB 0 Z ?_|refine zB 1 Z ?_|refine zB 2 Z ?_|refine zB 3 Z ?_|refine zB 4 Z ?_)) ?_
 exact vI 0 Tryz.results107 Z Z Z cM ⟨rfl,_,rfl,_,_,_,_,rfl,rfl⟩ nS (cO 0 Z)
theorem Ns(fb:Addr)(b:Nat)(us:List V)(h60:us.length≤60)(H: ∀ x∈us,HH fb x):CtR Tryz.prog 107 #[ptr b] [.node b (dA 2 (us.map dU)),jq fb] (AU (.mk 4 0 ⟨#[]⟩ [] (us.map cp))):=by
 refine Ct.of_run (args:=[ptr b]) Tryz.func107 aF Z Tryz.ntmps107 Z (fun c=>?_)
 refine xT 0 Z (fun A0 cap0 ht0 hv0 hl0 hc0=>?_)
 rw [List.length_map]
 rw [List.length_map]at hl0
 unfold maxLen at hc0
 refine rO 3 Z (yK Z Z Z (fun b1=>?_))
 refine gn 0 Z Z (zA ?_)
 refine yA dE Z (fun b2=>?_)
 change cG _ _ _ _ _ _ _ _ (HA.blk _ [_,_,_,_,_] _::_) _
 refine oO 7 Z (zJ 0 dQ Z Z Z Z ?_)
 refine zA (rW ui Z Z ?_)
 refine oO 7 Z (zJ 0 dQ Z Z Z Z ?_)
 refine oO 3 Z (zC wD Z Z ?_)
 refine zA (zJ 1 dX Z Z Z Z ?_)
 refine oK 17 [30,23,2,1] Z Z (rO 4 Z ?_)
 refine yV Z Z (qp ..) (zA ?_)
 refine yA dE Z (fun b4=>?_)
 change cG _ _ _ _ _ _ _ _ (HA.blk _ [_,_,_,_,_] _::_) _
 refine zA (zG 0 (M':=[HA.blk _ [_,_,_,_,_] _,_]) Z Z Z Z co Z Z Z ?_)
 refine oO 5 Z (zJ 0 dQ Z Z Z Z ?_)
 refine oO 3 Z (zC wE Z Z ?_)
 refine zA (zJ 1 dj Z Z Z Z ?_)
 refine zA (zX cn Z Z ?_)
 refine oK 4 [38,37,36,4,2] Z Z (wT 25 5 ?_)
 refine f6 ?_
 refine yB 1 (fun(⟨i,A,ca,xs⟩:Nat×Option Addr×Nat×List Value)=>i≤us.length) (fun(⟨i,A,ca,xs⟩:Nat×Option Addr×Nat×List Value)=>[(38, .int .i64 ((i:Nat):Int))]) (fun(⟨i,A,ca,xs⟩:Nat×Option Addr×Nat×List Value)=>HA.row A i ca 25 5 xs::HA.blk b4 [.int .i64 4, .int .i64 0, .string ⟨#[]⟩, .slice none 0 0, .slice A i ca] 25::HA.blk b2 [.int .i64 0, .int .i64 0, .string ⟨#[]⟩, .slice none 0 0, .slice none 0 0] 25::[]) (fun(⟨i,A,ca,xs⟩:Nat×Option Addr×Nat×List Value)=> .its xs ((us.take i).map cp):: .dblk b1 [ptr b] 102:: .dblk b (dY 2 ⟨#[]⟩ ⟨#[]⟩ A0 us.length cap0) 150:: .kids (.slice A0 us.length cap0) (us.map dU):: .node b (dA 2 (us.map dU))::jq fb::[]) (fun(⟨i,A,ca,xs⟩:Nat×Option Addr×Nat×List Value)=>us.length - i) (0,none,0,[]) bg (eC Z (eN _)) Z Z ?_ (eC Z (eC Z (eC Z (eC Z (eN _)))))
 intro ⟨i,A,ca,xs⟩ hI K hK
 change Run _ _ _ _ _ [(38,_),(37,_),(36,_),(4,_),(2,_)] [_,_,_] [_,_,_,_,_,_]
 have hi:i≤us.length:=hI
 refine rO 3 Z (yL Z Z Z ?_)
 refine oR 2 Z (zI Z (fun h39=>?_) (fun h39=>?_))
 ·refine rO 6 Z (wK 3 cn Z Z Z Z h39 ?_)
  refine uQ 3 i Z (fG h39) (fun bk=>?_)
  refine zA (yR dQ Z Z (fun _ h=>wX h (j:=0) Z) ?_)
  refine oO 8 Z (yE Z Z Z (H _ (List.getElem_mem h39) bk) (dP 1 7 Z Z) (fun u44 D44 hv44=>?_))
  obtain⟨_,rfl,A44,c44,B44,d44,rfl,rfl⟩:=hv44
  refine oO 7 Z (yA dE Z (fun b7=>?_))
  change cG _ _ _ _ _ _ _ _ (HA.blk _ [_,_,_,_,_] _::_) _
  refine zA (zG 0 (M':=[HA.blk _ [_,_,_,_,_] _,_,_,_]) Z Z Z Z co Z Z Z ?_)
  refine oK 3 [8,7,38,37,36,4,2] Z Z (rO 12 Z ?_)
  refine zC yX Z Z (zA ?_)
  refine zF 2 c7 Z Z Z Z (zA ?_)
  refine zK 0 Z cM Z Z (zA ?_)
  refine zM cX Z Z Z Z Z (fun b53=>?_)
  refine zA ?_
  refine cW 2 0 cX (fun A54 c54=>?_)
  refine zA (zC yX Z Z ?_)
  refine zA (zG 3 (M':=[_,_,_,HA.blk _ [_,_,_,_,_] _,_]) Z Z Z Z lM Z Z Z ?_)
  refine oK 1 [38,37,36,4,2] Z Z (rO 3 Z ?_)
  refine zN Z Z aC (oR 3 Z ?_)
  refine vV 3 0 Z Z Z ?_
  rw [tT (f:=cp) h39]
  exact kQ (hK (i+1,_,_,_) bW (by show us.length - (i+1)<us.length - i;omega)) (eC Z (eC Z (eC Z (eC Z (eC Z (eN _)))))) (hD:=(cd 0 Z sQ))
 obtain rfl:i=us.length:=by omega
 rw [List.take_length]
 refine rO 4 Z (zK 1 Z cM Z Z ?_)
 refine zA (zG 2 (M':=[_,_,HA.blk _ [_,_,_,_,_] _]) Z Z Z Z co Z Z Z ?_)
 refine oR 3 Z (sY ?_)
 refine sX 0 1 (us.map cp) Z Z bV (by rw [List.length_map]) (vP 1 0 Z Z (s:=⟨#[]⟩) (q:=4) (m:=0) aE ?_)
 refine yD (M':=[HA.blk b2 [_,_,_,_,_] 25]) (by repeat (first|exact zQ _|refine zB 0 Z ?_|refine zB 1 Z ?_|refine zB 2 Z ?_|refine zB 3 Z ?_|refine zB 4 Z ?_)) ?_
 exact vI 0 Tryz.results107 Z Z Z cM ⟨rfl,_,rfl,none,0,_,_,by simp only [V.kind,V.num,V.text,V.keys,V.items,List.length_map,List.length_nil];rfl,rfl⟩ nS (cO 0 Z)
theorem sK{M M2:List HA}(h:iP M2 M:=by repeat (first|exact uI _|exact zQ _|refine zB 0 rfl ?_|refine zB 1 rfl ?_|refine zB 2 rfl ?_|refine zB 3 rfl ?_|refine zB 4 rfl ?_|refine zB 5 rfl ?_|refine zB 6 rfl ?_|refine zB 7 rfl ?_|refine zB 8 rfl ?_)):iP M2 M:=h
set_option maxHeartbeats 4000000 in
theorem Nt(fb:Addr)(b:Nat)(ks:List ByteArray)(us:List V)(hl:ks.length=us.length)(h60:us.length≤60)(hnd:ks.Nodup)(hszs: ∀ s∈ks,s.size≤maxLen)(H: ∀ x∈us,HH fb x)(ys:List Y)(hys:ys=(ks.zip (us.map dU)).flatMap eH):CtR Tryz.prog 107 #[ptr b] [.node b (dA 4 ys),jq fb] (AU (cp (.mk 5 0 ⟨#[]⟩ ks us))):=by
 refine Ct.of_run (args:=[ptr b]) Tryz.func107 aF Z Tryz.ntmps107 Z (fun c=>?_)
 have hfl:ys.length=2*us.length:=by rw [hys,uc,r7 hl]
 have hk0: ∀ x,x<us.length→ys[2*x]? =some (cU dT (ks.getD x ⟨#[]⟩)):=fun x hx=>by rw [hys];exact AV hl hx
 have hk1: ∀ x (h:x<us.length),ys[2*x+1]? =some (dU us[x]):=fun x hx=>by rw [hys];exact HD hl hx
 have h2t:((2*us.length:Nat):Int).tmod 2=0:=by rw [show((2*us.length:Nat):Int)=2*(us.length:Int)by omega];exact Int.mul_tmod_right _ _
 refine xT 0 Z (fun A0 cap0 ht0 hv0 hl0 hc0=>?_)
 rw [hfl]
 rw [hfl]at hl0
 unfold maxLen at hc0
 refine rO 3 Z (yK Z Z Z (fun b1=>?_))
 refine gn 0 Z Z (zA ?_)
 refine yA dE Z (fun b2=>?_)
 change cG _ _ _ _ _ _ _ _ (HA.blk _ [_,_,_,_,_] _::_) _
 refine oO 7 Z (zJ 0 dQ Z Z Z Z ?_)
 refine zA (rW ui Z Z ?_)
 refine oO 7 Z (zJ 0 dQ Z Z Z Z ?_)
 refine oO 3 Z (zC wD Z Z ?_)
 refine zA (zJ 1 dX Z Z Z Z ?_)
 refine oK 17 [30,23,2,1] Z Z (rO 13 Z ?_)
 refine zJ 0 dQ Z Z Z Z (oO 3 Z ?_)
 refine zC wE Z Z (zA ?_)
 refine zJ 1 dj Z Z Z Z (zA ?_)
 refine zX cn Z Z (zA ?_)
 refine wx Z Z Z aE ?_
 rw [h2t]
 refine zA (uG Z Z Z ?_)
 refine oK 1 [66,2,1] Z Z (rO 5 Z ?_)
 refine qF uk Z (fun b68=>?_)
 refine zA (yA NB Z (fun b9=>?_))
 change cG _ _ _ _ _ _ _ _ (HA.blk _ [_] _::_) _
 refine zA (zG 0 (M':=[HA.blk _ [_] _,_,_]) Z Z Z Z Iw Z Z Z ?_)
 refine oK 8 [10,9,2,1] Z Z ?_
 refine yB 1 (fun(⟨i,pb,c9⟩:Nat×Nat×Nat)=>i≤us.length) (fun(⟨i,pb,c9⟩:Nat×Nat×Nat)=>[(10, .int .i64 ((2*i:Nat):Int))]) (fun(⟨i,pb,c9⟩:Nat×Nat×Nat)=>HA.blk b9 [.slice (some ⟨pb,0,none⟩) i c9] 139::HA.row (some ⟨pb,0,none⟩) i c9 3 1 ((List.range i).map ye)::HA.blk b2 [.int .i64 0, .int .i64 0, .string ⟨#[]⟩, .slice none 0 0, .slice none 0 0] 25::[]) (fun(⟨i,pb,c9⟩:Nat×Nat×Nat)=> .dblk b1 [ptr b] 102:: .dblk b (dY 4 ⟨#[]⟩ ⟨#[]⟩ A0 (2*us.length) cap0) 150:: .kids (.slice A0 (2*us.length) cap0) ys:: .node b (dA 4 ys)::jq fb::[]) (fun(⟨i,pb,c9⟩:Nat×Nat×Nat)=>us.length - i) (0,_,_) bg (eC Z (eN _)) Z Z ?_ (eC Z (eC Z (eC Z (eN _))))
 intro ⟨i,pb,c9⟩ hI K hK
 change Run _ _ _ _ _ [(10,_),(9,_),(2,_),(1,_)] [_,_,_] [_,_,_,_,_]
 have hi:i≤us.length:=hI
 refine rO 6 Z (zJ 0 dQ Z Z Z Z ?_)
 refine oO 3 Z (zC wE Z Z ?_)
 refine zA (zJ 1 dj Z Z Z Z ?_)
 refine zA (zX cn Z Z ?_)
 refine zA (yL Z Z Z ?_)
 refine yO (zI Z (fun h75=>?_) (fun h75=>?_))
 ·refine rO 5 Z (zF 0 Dz Z Z Z Z ?_)
  refine oO 3 Z (zM uk Z Z Z Z Z (fun b80=>?_))
  refine zA ?_
  refine cW 2 0 uk (fun A81 c81=>?_)
  refine zA (zG 1 (M':=[_,HA.blk _ [_] _,_,_]) Z Z Z Z Iw Z Z Z ?_)
  refine oK 1 [10,9,2,1] Z Z (rO 5 Z ?_)
  refine xN (s:=((2*(i+1):Nat):Int)) Z Z Z aC aC aC (oR 3 Z ?_)
  refine EG 2 Z aC (fun pb1 hpb=>?_)
  subst hpb
  rw [vh]
  exact kQ (hK (i+1,pb1,_) bW (by show us.length - (i+1)<us.length - i;omega)) (eC Z (eC Z (eC Z (eC Z (eN _)))))
 obtain rfl:i=us.length:=by omega
 rw [Kt]
 refine rO 4 Z (zF 0 Dz Z Z Z Z ?_)
 refine zA (ro aF Z Z ?_)
 refine zA (qM Z Z Z ?_)
 refine zA ?_
 refine pF 1 0 Z Z Z (Ps 167 #[ptr b1,ptr b9] pb us.length c9 ys.length ((List.range us.length).map (2* ·)) (fun x hx=>by obtain⟨z,hz,rfl⟩:=List.mem_map.1 hx;have:=List.mem_range.1 hz;omega) (Ft (vals ys)) (Gp _) [HA.blk b9 [.slice (some ⟨pb,0,none⟩) us.length c9] 139] [.dblk b1 [ptr b] 102, .dblk b (dY 4 ⟨#[]⟩ ⟨#[]⟩ A0 (2*us.length) cap0) 150, .kids (.slice A0 (2*us.length) cap0) ys] aC (fun args w=>iw Kv args w) (fun W dk h1 h2=>EZ ys A0 (2*us.length) cap0 b b1 b9 pb us.length c9 _ _ _ hfl.symm W dk h1 h2)) Z Z (cd 0 Z (dP 1 2 Z Z)) (fun u85 M85 D85 hv85=>?_)
 obtain⟨rfl,⟨ds,hdp,hds,rfl⟩,rfl⟩:=hv85
 rw [hys]at hds
 obtain⟨es,hep,hes,hee⟩:=Ku hl hdp hds
 rw [hee]
 have hel:es.length=us.length:=by rw [hep.length_eq,List.length_range]
 have hep2:es.Perm (List.range ks.length):=by rw [hl];exact hep
 refine oK 1 [9,2,1] Z Z (rO 3 Z ?_)
 refine yV Z Z (qp ..) (zA ?_)
 refine yA dE Z (fun b11=>?_)
 change cG _ _ _ _ _ _ _ _ (HA.blk _ [_,_,_,_,_] _::_) _
 refine zA (zG 0 (M':=[HA.blk _ [_,_,_,_,_] _,_,_,_]) Z Z Z Z co Z Z Z ?_)
 refine oO 5 Z (zF 2 Dz Z Z Z Z ?_)
 refine zA (zX uk Z Z ?_)
 refine oK 4 [89,88,87,11,2,1] Z Z (wT 25 5 ?_)
 refine wT 9 1 (f6 ?_)
 refine yB 1 (fun(⟨i3,KA,kc,KI,ic,xv⟩:Nat×Option Addr×Nat×Option Addr×Nat×List Value)=>i3≤us.length) (fun(⟨i3,KA,kc,KI,ic,xv⟩:Nat×Option Addr×Nat×Option Addr×Nat×List Value)=>[(89, .int .i64 ((i3:Nat):Int))]) (fun(⟨i3,KA,kc,KI,ic,xv⟩:Nat×Option Addr×Nat×Option Addr×Nat×List Value)=>HA.row KA i3 kc 9 1 ((es.take i3).map (fun x=>Value.string (ks.getD x ⟨#[]⟩)))::HA.row KI i3 ic 25 5 xv::HA.blk b11 [.int .i64 5, .int .i64 0, .string ⟨#[]⟩, .slice KA i3 kc, .slice KI i3 ic] 25::HA.row (some ⟨pb,0,none⟩) us.length c9 3 1 (es.map ye)::HA.blk b9 [.slice (some ⟨pb,0,none⟩) us.length c9] 139::HA.blk b2 [.int .i64 0, .int .i64 0, .string ⟨#[]⟩, .slice none 0 0, .slice none 0 0] 25::[]) (fun(⟨i3,KA,kc,KI,ic,xv⟩:Nat×Option Addr×Nat×Option Addr×Nat×List Value)=> .its xv ((es.take i3).map (fun x=>(us.map cp).getD x CX)):: .dblk b1 [ptr b] 102:: .dblk b (dY 4 ⟨#[]⟩ ⟨#[]⟩ A0 (2*us.length) cap0) 150:: .kids (.slice A0 (2*us.length) cap0) ys:: .node b (dA 4 ys)::jq fb::[]) (fun(⟨i3,KA,kc,KI,ic,xv⟩:Nat×Option Addr×Nat×Option Addr×Nat×List Value)=>us.length - i3) (0,none,0,none,0,[]) bg (eC Z (eN _)) Z Z ?_ (eC Z (eC Z (eC Z (eC Z (eC Z (eN _))))))
 intro ⟨i3,KA,kc,KI,ic,xv⟩ hI K hK1
 change Run _ _ _ _ _ [(89,_),(88,_),(87,_),(11,_),(2,_),(1,_)] [_,_,_,_,_,_] [_,_,_,_,_,_]
 have hi3:i3≤us.length:=hI
 refine rO 3 Z (yL Z Z Z ?_)
 refine oR 2 Z (zI Z (fun h90=>?_) (fun h90=>?_))
 ·have hld:i3<es.length:=by omega
  have hde:es[i3]<us.length:=gj hep _ (List.getElem_mem hld)
  have hdk:es[i3]<ks.length:=by omega
  have hdv:es[i3]<(us.map cp).length:=by rw [List.length_map];exact hde
  refine rO 8 Z (xY uk Z Z Z h90 ?_)
  refine zA ?_
  refine yR lL Z Z (fun _ h=>KS h (i:=3) Z (by rw [List.getElem?_map,List.getElem?_eq_getElem hld];rfl)) ?_
  refine oO 8 Z (zJ 1 dQ Z Z Z Z ?_)
  refine oO 3 Z (zC wE Z Z ?_)
  refine zA (zJ 2 dj Z Z Z Z ?_)
  refine oO 3 Z (wK (i:=2*es[i3]) 3 cn Z Z Z Z aC ?_)
  refine uQ 3 (2*es[i3]) Z (hk0 _ hde) (fun bk=>?_)
  refine sI 1 Z (fun A1 cap1 ht1 hv1 hl1 hc1=>?_)
  refine zA (yR dQ Z Z (fun _ h=>wX h (j:=2) Z) ?_)
  refine oO 3 Z (zC wN Z Z ?_)
  refine zA (zJ 0 dO Z Z Z Z ?_)
  refine oK 3 [14,13,12,89,88,87,11,2,1] Z Z (rO 3 Z ?_)
  refine zJ 5 dQ Z Z Z Z (oO 3 Z ?_)
  refine zC wE Z Z (zA ?_)
  refine zJ 6 dj Z Z Z Z (oO 3 Z ?_)
  refine zN Z Z aC (zA ?_)
  refine wK (i:=2*es[i3]+1) 7 cn Z Z Z Z aC (uQ 7 (2*es[i3]+1) Z (hk1 _ hde) (fun bv=>?_))
  refine zA (yR dQ Z Z (fun _ h=>wX h (j:=0) Z) ?_)
  refine zA (yE Z Z Z (H _ (List.getElem_mem hde) bv) (dP 1 11 Z Z) (fun u113 D113 hv113=>?_))
  obtain⟨_,rfl,A113,c113,B113,d113,rfl,rfl⟩:=hv113
  refine oO 7 Z (yA dE Z (fun b15=>?_))
  change cG _ _ _ _ _ _ _ _ (HA.blk _ [_,_,_,_,_] _::_) _
  refine zA (zG 0 (M':=[HA.blk _ [_,_,_,_,_] _,_,_,_,_,_,_]) Z Z Z Z co Z Z Z ?_)
  refine oK 3 [16,15,14,12,89,88,87,11,2,1] Z Z (rS 9 Z ?_)
  refine wL (s:=118) Z (rfl) (oO 3 Z ?_)
  refine wO Z Z Z (oS 2 Z ?_)
  refine zW (s:=121) Z (fun h121=>?_) (fun h121=>?_)
  ·refine zH Z Z (zC xM Z Z ?_)
   refine zH Z Z (zF 3 dV Z Z Z Z ?_)
   refine oO 3 Z (xQ (s:=((i3 - 1:Nat):Int)) Z Z Z aC aC aC ?_)
   refine zH Z Z (o7 1 cV Z Z Z Z aC ?_)
   refine zH Z Z (yR (v:= .string (ks.getD (es[i3 - 1]'aC) ⟨#[]⟩)) dO Z Z (fun _ h=>AG h (i:=1) Z (EH aC aC)) ?_)
   refine oK 9 [131,15,14,89,88,87,11,2,1] Z Z (xA Z (decide_eq_false (fun he=>Bq hnd hep2 (i:=i3 - 1) (j:=i3) aC aC he)) ?_)
   refine uF (yW yM ?_)
   refine zO (tP 0 Z cF (zZ xM Z) ?_)
   refine tP 2 Z cF (zP Z) (tP 5 Z cF (zZ yX Z) ?_)
   refine fp (zB 0 Z (zB 2 Z (zQ _))) (uU (zB 0 Z (zB 2 Z (zQ _))) 1 (xL _ _ _ _) Z cF aD aD aD Z (yT 1 dV Z Z Z) ?_)
   refine uU (zB 0 Z (zB 2 Z (zQ _))) 6 (xL _ _ _ _) Z cF aD aD aD Z (yT 1 c7 Z Z Z) (uU (zB 0 Z (zB 2 Z (zQ _))) 7 (xL _ _ _ _) Z cF aD aD aD Z (vD 0 Z cM Z) ?_)
   refine tN (rs:=[3,8]) aD aJ ?_
   intro j hj
   simp only [List.mem_cons,List.not_mem_nil,or_false]at hj
   rcases hj with rfl|rfl
   ·refine zT (I2:=[[7,6,1],[5,0],[]]) Z cF aD (fun Kd hKd=>?_)
    refine zM cV Z Z Z Z Z (fun b136=>?_)
    refine hKd _ _ _ (wU sK sQ (hC (zE (zU)))) ?_
    refine tN (rs:=[4,8]) aD aJ ?_
    intro j hj
    simp only [List.mem_cons,List.not_mem_nil,or_false]at hj
    rcases hj with rfl|rfl
    ·refine zT (I2:=[[7,6],[5],[]]) Z cF aD (fun Kd hKd=>?_)
     refine cW 2 0 cV (fun A137 c137=>?_)
     refine hKd _ _ _ (wU sK sQ (hC (zE (zU)))) ?_
     refine zO (tP 10 Z cF (zZ xM Z) ?_)
     refine zS 8 aD ?_
     refine zT (I2:=[[10],[6],[5],[]]) Z cF aD (fun Kd hKd=>?_)
     refine zM cX Z Z Z Z Z (fun b141=>?_)
     refine hKd _ _ _ (hC (wU sK sQ (hC (zE (zU))))) ?_
     refine zS 9 aD ?_
     refine zT (I2:=[[10],[],[],[]]) Z cF aD (fun Kd hKd=>?_)
     refine cW 4 0 cX (fun A142 c142=>?_)
     refine hKd _ _ _ (hC (zE (zE (zE (zU))))) (zS 11 aD ?_)
     refine zT (I2:=[[],[],[],[]]) Z cF aD (fun Kd hKd=>?_)
     refine zG 5 (M':=[_,_,_,_,_,HA.blk _ [_,_,_,_,_] _,_,_,_]) Z Z Z Z iy Z Z Z (hKd _ _ _ (zE (zE (zE (zE (zU))))) ?_)
     refine tP 12 Z cF (zZ yX Z) (zS 13 aD ?_)
     refine zT (I2:=[[],[],[],[]]) Z cF aD (fun Kd hKd=>?_)
     refine zG 5 (M':=[_,_,_,_,_,HA.blk _ [_,_,_,_,_] _,_,_,_]) Z Z Z Z lM Z Z Z (hKd _ _ _ (zE (zE (zE (zE (zU))))) ?_)
     refine yJ aD (rK 0 [89,88,87,11,2,1] Z Z ?_)
     refine rO 3 Z (zN Z Z aC ?_)
     refine oR 3 Z (vV 7 0 Z Z Z ?_)
     rw [vS (f:=fun x=>(us.map cp).getD x CX) hld bJ,vS (f:=fun x=>Value.string (ks.getD x ⟨#[]⟩)) hld rfl]
     exact kQ (hK1 (i3+1,_,_,_,_,_) bU ay) (eC Z (eC Z (eC Z (eC Z (eC Z (eC Z (eN _))))))) (hD:=(cd 0 Z sQ))
    refine zT (I2:=[[6,1],[5,0],[]]) Z cF aD (fun Kd hKd=>?_)
    refine zM cX Z Z Z Z Z (fun b141=>?_)
    refine hKd _ _ _ (wU sK sQ (hC (zE (zU)))) ?_
    refine zS 4 aD ?_
    refine zT (I2:=[[6],[5],[]]) Z cF aD (fun Kd hKd=>?_)
    refine cW 3 1 cV (fun A137 c137=>?_)
    refine hKd _ _ _ (wU sK sQ (hC (zE (zU)))) ?_
    refine zO (tP 10 Z cF (zZ xM Z) ?_)
    refine zS 9 aD ?_
    refine zT (I2:=[[10],[],[],[]]) Z cF aD (fun Kd hKd=>?_)
    refine cW 4 0 cX (fun A142 c142=>?_)
    refine hKd _ _ _ (hC (zE (zE (zE (zU))))) (zS 11 aD ?_)
    refine zT (I2:=[[],[],[],[]]) Z cF aD (fun Kd hKd=>?_)
    refine zG 5 (M':=[_,_,_,_,_,HA.blk _ [_,_,_,_,_] _,_,_,_]) Z Z Z Z iy Z Z Z (hKd _ _ _ (zE (zE (zE (zE (zU))))) ?_)
    refine tP 12 Z cF (zZ yX Z) (zS 13 aD ?_)
    refine zT (I2:=[[],[],[],[]]) Z cF aD (fun Kd hKd=>?_)
    refine zG 5 (M':=[_,_,_,_,_,HA.blk _ [_,_,_,_,_] _,_,_,_]) Z Z Z Z lM Z Z Z (hKd _ _ _ (zE (zE (zE (zE (zU))))) ?_)
    refine yJ aD (rK 0 [89,88,87,11,2,1] Z Z ?_)
    refine rO 3 Z (zN Z Z aC ?_)
    refine oR 3 Z (vV 7 0 Z Z Z ?_)
    rw [vS (f:=fun x=>(us.map cp).getD x CX) hld bJ,vS (f:=fun x=>Value.string (ks.getD x ⟨#[]⟩)) hld rfl]
    exact kQ (hK1 (i3+1,_,_,_,_,_) bU ay) (eC Z (eC Z (eC Z (eC Z (eC Z (eC Z (eN _))))))) (hD:=(cd 0 Z sQ))
   refine zT (I2:=[[6,1],[5,2,0],[]]) Z cF aD (fun Kd hKd=>?_)
   refine zM cX Z Z Z Z Z (fun b141=>?_)
   refine hKd _ _ _ (wU sK sQ (hC (zE (zU)))) ?_
   refine zS 3 aD ?_
   refine zT (I2:=[[6,1],[5,0],[]]) Z cF aD (fun Kd hKd=>?_)
   refine zM cV Z Z Z Z Z (fun b136=>?_)
   refine hKd _ _ _ (wU sK sQ (hC (zE (zU)))) ?_
   refine zS 4 aD ?_
   refine zT (I2:=[[6],[5],[]]) Z cF aD (fun Kd hKd=>?_)
   refine cW 3 0 cV (fun A137 c137=>?_)
   refine hKd _ _ _ (wU sK sQ (hC (zE (zU)))) ?_
   refine zO (tP 10 Z cF (zZ xM Z) ?_)
   refine zS 9 aD ?_
   refine zT (I2:=[[10],[],[],[]]) Z cF aD (fun Kd hKd=>?_)
   refine cW 4 1 cX (fun A142 c142=>?_)
   refine hKd _ _ _ (hC (zE (zE (zE (zU))))) (zS 11 aD ?_)
   refine zT (I2:=[[],[],[],[]]) Z cF aD (fun Kd hKd=>?_)
   refine zG 5 (M':=[_,_,_,_,_,HA.blk _ [_,_,_,_,_] _,_,_,_]) Z Z Z Z iy Z Z Z (hKd _ _ _ (zE (zE (zE (zE (zU))))) ?_)
   refine tP 12 Z cF (zZ yX Z) (zS 13 aD ?_)
   refine zT (I2:=[[],[],[],[]]) Z cF aD (fun Kd hKd=>?_)
   refine zG 5 (M':=[_,_,_,_,_,HA.blk _ [_,_,_,_,_] _,_,_,_]) Z Z Z Z lM Z Z Z (hKd _ _ _ (zE (zE (zE (zE (zU))))) ?_)
   refine yJ aD (rK 0 [89,88,87,11,2,1] Z Z ?_)
   refine rO 3 Z (zN Z Z aC ?_)
   refine oR 3 Z (vV 7 0 Z Z Z ?_)
   rw [vS (f:=fun x=>(us.map cp).getD x CX) hld bJ,vS (f:=fun x=>Value.string (ks.getD x ⟨#[]⟩)) hld rfl]
   exact kQ (hK1 (i3+1,_,_,_,_,_) bU ay) (eC Z (eC Z (eC Z (eC Z (eC Z (eC Z (eN _))))))) (hD:=(cd 0 Z sQ))
  refine oK 13 [131,15,14,89,88,87,11,2,1] Z Z (rR 2 Z ?_)
  refine yW yM (zO ?_)
  refine tP 0 Z cF (zZ xM Z) (tP 2 Z cF (zP Z) ?_)
  refine tP 5 Z cF (zZ yX Z) (fp (zB 0 Z (zB 2 Z (zQ _))) ?_)
  refine uU (zB 0 Z (zB 2 Z (zQ _))) 1 (xL _ _ _ _) Z cF aD aD aD Z (yT 1 dV Z Z Z) (uU (zB 0 Z (zB 2 Z (zQ _))) 6 (xL _ _ _ _) Z cF aD aD aD Z (yT 1 c7 Z Z Z) ?_)
  refine uU (zB 0 Z (zB 2 Z (zQ _))) 7 (xL _ _ _ _) Z cF aD aD aD Z (vD 0 Z cM Z) (tN (rs:=[3,8]) aD aJ ?_)
  intro j hj
  simp only [List.mem_cons,List.not_mem_nil,or_false]at hj
  rcases hj with rfl|rfl
  ·refine zT (I2:=[[7,6,1],[5,0],[]]) Z cF aD (fun Kd hKd=>?_)
   refine zM cV Z Z Z Z Z (fun b136=>?_)
   refine hKd _ _ _ (wU sK sQ (hC (zE (zU)))) ?_
   refine tN (rs:=[4,8]) aD aJ ?_
   intro j hj
   simp only [List.mem_cons,List.not_mem_nil,or_false]at hj
   rcases hj with rfl|rfl
   ·refine zT (I2:=[[7,6],[5],[]]) Z cF aD (fun Kd hKd=>?_)
    refine cW 2 0 cV (fun A137 c137=>?_)
    refine hKd _ _ _ (wU sK sQ (hC (zE (zU)))) ?_
    refine zO (tP 10 Z cF (zZ xM Z) ?_)
    refine zS 8 aD ?_
    refine zT (I2:=[[10],[6],[5],[]]) Z cF aD (fun Kd hKd=>?_)
    refine zM cX Z Z Z Z Z (fun b141=>?_)
    refine hKd _ _ _ (hC (wU sK sQ (hC (zE (zU))))) ?_
    refine zS 9 aD ?_
    refine zT (I2:=[[10],[],[],[]]) Z cF aD (fun Kd hKd=>?_)
    refine cW 4 0 cX (fun A142 c142=>?_)
    refine hKd _ _ _ (hC (zE (zE (zE (zU))))) (zS 11 aD ?_)
    refine zT (I2:=[[],[],[],[]]) Z cF aD (fun Kd hKd=>?_)
    refine zG 5 (M':=[_,_,_,_,_,HA.blk _ [_,_,_,_,_] _,_,_,_]) Z Z Z Z iy Z Z Z (hKd _ _ _ (zE (zE (zE (zE (zU))))) ?_)
    refine tP 12 Z cF (zZ yX Z) (zS 13 aD ?_)
    refine zT (I2:=[[],[],[],[]]) Z cF aD (fun Kd hKd=>?_)
    refine zG 5 (M':=[_,_,_,_,_,HA.blk _ [_,_,_,_,_] _,_,_,_]) Z Z Z Z lM Z Z Z (hKd _ _ _ (zE (zE (zE (zE (zU))))) ?_)
    refine yJ aD (rK 0 [89,88,87,11,2,1] Z Z ?_)
    refine rO 3 Z (zN Z Z aC ?_)
    refine oR 3 Z (vV 7 0 Z Z Z ?_)
    rw [vS (f:=fun x=>(us.map cp).getD x CX) hld bJ,vS (f:=fun x=>Value.string (ks.getD x ⟨#[]⟩)) hld rfl]
    exact kQ (hK1 (i3+1,_,_,_,_,_) bU ay) (eC Z (eC Z (eC Z (eC Z (eC Z (eC Z (eN _))))))) (hD:=(cd 0 Z sQ))
   refine zT (I2:=[[6,1],[5,0],[]]) Z cF aD (fun Kd hKd=>?_)
   refine zM cX Z Z Z Z Z (fun b141=>?_)
   refine hKd _ _ _ (wU sK sQ (hC (zE (zU)))) ?_
   refine zS 4 aD ?_
   refine zT (I2:=[[6],[5],[]]) Z cF aD (fun Kd hKd=>?_)
   refine cW 3 1 cV (fun A137 c137=>?_)
   refine hKd _ _ _ (wU sK sQ (hC (zE (zU)))) ?_
   refine zO (tP 10 Z cF (zZ xM Z) ?_)
   refine zS 9 aD ?_
   refine zT (I2:=[[10],[],[],[]]) Z cF aD (fun Kd hKd=>?_)
   refine cW 4 0 cX (fun A142 c142=>?_)
   refine hKd _ _ _ (hC (zE (zE (zE (zU))))) (zS 11 aD ?_)
   refine zT (I2:=[[],[],[],[]]) Z cF aD (fun Kd hKd=>?_)
   refine zG 5 (M':=[_,_,_,_,_,HA.blk _ [_,_,_,_,_] _,_,_,_]) Z Z Z Z iy Z Z Z (hKd _ _ _ (zE (zE (zE (zE (zU))))) ?_)
   refine tP 12 Z cF (zZ yX Z) (zS 13 aD ?_)
   refine zT (I2:=[[],[],[],[]]) Z cF aD (fun Kd hKd=>?_)
   refine zG 5 (M':=[_,_,_,_,_,HA.blk _ [_,_,_,_,_] _,_,_,_]) Z Z Z Z lM Z Z Z (hKd _ _ _ (zE (zE (zE (zE (zU))))) ?_)
   refine yJ aD (rK 0 [89,88,87,11,2,1] Z Z ?_)
   refine rO 3 Z (zN Z Z aC ?_)
   refine oR 3 Z (vV 7 0 Z Z Z ?_)
   rw [vS (f:=fun x=>(us.map cp).getD x CX) hld bJ,vS (f:=fun x=>Value.string (ks.getD x ⟨#[]⟩)) hld rfl]
   exact kQ (hK1 (i3+1,_,_,_,_,_) bU ay) (eC Z (eC Z (eC Z (eC Z (eC Z (eC Z (eN _))))))) (hD:=(cd 0 Z sQ))
  refine zT (I2:=[[6,1],[5,2,0],[]]) Z cF aD (fun Kd hKd=>?_)
  refine zM cX Z Z Z Z Z (fun b141=>?_)
  refine hKd _ _ _ (wU sK sQ (hC (zE (zU)))) ?_
  refine zS 3 aD ?_
  refine zT (I2:=[[6,1],[5,0],[]]) Z cF aD (fun Kd hKd=>?_)
  refine zM cV Z Z Z Z Z (fun b136=>?_)
  refine hKd _ _ _ (wU sK sQ (hC (zE (zU)))) ?_
  refine zS 4 aD ?_
  refine zT (I2:=[[6],[5],[]]) Z cF aD (fun Kd hKd=>?_)
  refine cW 3 0 cV (fun A137 c137=>?_)
  refine hKd _ _ _ (wU sK sQ (hC (zE (zU)))) ?_
  refine zO (tP 10 Z cF (zZ xM Z) ?_)
  refine zS 9 aD ?_
  refine zT (I2:=[[10],[],[],[]]) Z cF aD (fun Kd hKd=>?_)
  refine cW 4 1 cX (fun A142 c142=>?_)
  refine hKd _ _ _ (hC (zE (zE (zE (zU))))) (zS 11 aD ?_)
  refine zT (I2:=[[],[],[],[]]) Z cF aD (fun Kd hKd=>?_)
  refine zG 5 (M':=[_,_,_,_,_,HA.blk _ [_,_,_,_,_] _,_,_,_]) Z Z Z Z iy Z Z Z (hKd _ _ _ (zE (zE (zE (zE (zU))))) ?_)
  refine tP 12 Z cF (zZ yX Z) (zS 13 aD ?_)
  refine zT (I2:=[[],[],[],[]]) Z cF aD (fun Kd hKd=>?_)
  refine zG 5 (M':=[_,_,_,_,_,HA.blk _ [_,_,_,_,_] _,_,_,_]) Z Z Z Z lM Z Z Z (hKd _ _ _ (zE (zE (zE (zE (zU))))) ?_)
  refine yJ aD (rK 0 [89,88,87,11,2,1] Z Z ?_)
  refine rO 3 Z (zN Z Z aC ?_)
  refine oR 3 Z (vV 7 0 Z Z Z ?_)
  rw [vS (f:=fun x=>(us.map cp).getD x CX) hld bJ,vS (f:=fun x=>Value.string (ks.getD x ⟨#[]⟩)) hld rfl]
  exact kQ (hK1 (i3+1,_,_,_,_,_) bU ay) (eC Z (eC Z (eC Z (eC Z (eC Z (eC Z (eN _))))))) (hD:=(cd 0 Z sQ))
 obtain rfl:i3=us.length:=by omega
 have het:es.take us.length=es:=by rw [←hel];exact List.take_length
 rw [het]
 refine uC 0 (es.map fun x=>ks.getD x ⟨#[]⟩) Z bV (by rw [List.map_map];rfl) (by intro s hs;obtain⟨x,hx,rfl⟩:=List.mem_map.1 hs;rw [tC (gj hep2 _ hx)];exact hszs _ (List.getElem_mem _)) (sX 0 1 (es.map fun x=>(us.map cp).getD x CX) Z Z bV (by rw [List.length_map,hel]) ?_)
 refine vP 1 0 Z Z (s:=⟨#[]⟩) (q:=5) (m:=0) aE (rO 4 Z ?_)
 refine zK 0 Z cM Z Z (zA ?_)
 refine zG 3 (M':=[_,_,_,HA.blk _ [_,_,_,_,_] _]) Z Z Z Z co Z Z Z (oR 3 Z ?_)
 have hsv:cp (.mk 5 0 ⟨#[]⟩ ks us)= .mk 5 0 ⟨#[]⟩ (es.map fun x=>ks.getD x ⟨#[]⟩) (es.map fun x=>(us.map cp).getD x CX):=by
  rw [jn (x6 CX ks (us.map cp) es bH hnd hep2 hes),List.map_map,List.map_map]
  rfl
 rw [hsv]
 refine yD (M':=[HA.blk b2 [_,_,_,_,_] 25]) (by repeat (first|exact zQ _|refine zB 0 Z ?_|refine zB 1 Z ?_|refine zB 2 Z ?_|refine zB 3 Z ?_|refine zB 4 Z ?_)) ?_
 exact vI 0 Tryz.results107 Z Z Z cM ⟨rfl,_,rfl,KA,kc,KI,ic,by simp only [V.kind,V.num,V.text,V.keys,V.items,List.length_map,hel],rfl⟩ nS (cO 0 Z)
theorem QG(fb:Addr)(u:V):Pl (cp u)→Eql u→HH fb u:=by
  refine V.indS (p:=fun u=>Pl (cp u)→Eql u→HH fb u) (fun u IH hp he=>?_) u
  have hk:=Gn hp
  have hD: ∀ {b:Nat} {y:Y} {v:V},CtR Tryz.prog 166 #[ptr b] [.node b y] (AU v)→CtR Tryz.prog 166 #[ptr b] [.node b y,jq fb] (AU v):=fun h=>Ct.data h (fun d hd=>by rw [List.mem_singleton.1 hd];exact List.mem_cons_self)
  intro b
  by_cases h4:u.kind=4
  · obtain⟨hu,h60,hit⟩:=Pq hp he h4
    have h1:=Ns fb b u.items h60 (fun x hx=>IH x (yU hx) (hit x hx).1 (hit x hx).2)
    rw [←x5,←lq (q:=4) (n:=0) (s:=⟨#[]⟩) (ks:=[]) aE,←hu]at h1
    exact h1
  by_cases h5:u.kind=5
  · obtain⟨hu,hl,h60,hnd,hkw,hit⟩:=Pr hp he h5
    have h1:=Nt fb b u.keys u.items hl h60 hnd (fun k hk=>by have:=(hkw k hk).1.2;unfold maxLen;omega) (fun x hx=>IH x (yU hx) (hit x hx).1 (hit x hx).2) _ rfl
    rw [←rn,←hu]at h1
    exact h1
  obtain⟨hpu,hu⟩:=Gm hp h4 h5
  rw [hu]
  have hk8:(dU u).kind=8:=by rw [Bo hk.1 hk.2,if_neg h4,if_neg h5]
  refine Nr fb b _ u hk8 ?_
  have hnum:=hpu.num
  rcases(by omega:u.kind=0∨u.kind=1∨u.kind=2∨u.kind=3∨u.kind=6)with h|h|h|h|h
  · have hs:=fN hpu aC aC
    obtain⟨q,m,s,ks,ts⟩:=u
    simp only [V.kind]at h
    subst h
    simp only [V.kind,V.num,V.text,V.keys,V.items]at hs
    have e:V.mk 0 m s ks ts= .mk 0 0 ⟨#[]⟩ [] []:=by
      unfold dJ at hs
      simp at hs
      simp [hs]
    rw [e,rT]
    exact hD (No b)
  · obtain⟨hl,hn⟩:=gh hpu h
    rw [hl,gi]
    rcases hn with hn|hn
    · rw [hn];exact hD (Nn b)
    · rw [hn];exact hD (Nl b)
  · have hl:=mp hpu h
    obtain⟨a1,a2⟩:=hnum.num aC
    rw [hl,mr]
    exact hD (Np b _ a1 a2)
  · have hl:=pO hpu h
    rw [hl,pP]
    exact hD (Nk b _)
  · have hl:=ED hpu h
    obtain⟨a1,a2⟩:=hnum.num aC
    have h0:=hpu.frac h
    rw [hl,EE]
    exact Nq fb b _ h0 a1 a2
end Go.Jw

namespace Go.Jw
open Go Go.RowKit Go.Proofs
set_option maxRecDepth 8000
section rules
variable {P:Program} {n:Nat} {F:List Nat} {c:Ctx F} {ops:Array Oper} {d:Nat} {T:TypeId} {l:List Oper} {k:List KI} {Q:cu} {e:dF} {M:List HA} {D:List DA}
end rules
def RH(t:V)(u:Value)(D':List DA):Prop:= ∃A1 c1 A2 c2,u= .agg #[.int .i64 0, .int .i64 t.kind, .int .i64 t.num, .string t.text, .slice A1 t.keys.length c1, .slice A2 t.items.length c2]∧D'=[.val (.agg #[.int .i64 t.kind, .int .i64 t.num, .string t.text, .slice A1 t.keys.length c1, .slice A2 t.items.length c2]) t]
theorem Nu(fb:Addr){u:V}(hp:Pl (cp u))(he:Eql u)(b:Nat):CtR Tryz.prog 107 #[ptr b] [.node b (dU u),yd fb] (AU (cp u)):=Ct.wide (QG fb u hp he b) (fun w ok h d hd=>by
 have h4:=h (yd fb) aJ
 simp only [List.mem_cons,List.not_mem_nil,or_false]at hd
 rcases hd with rfl|rfl
 ·exact h _ List.mem_cons_self
 ·exact h4.2)

theorem QH(ft:DA)(mb:Nat)(G:Gr)(v:V)(b:Nat)(hU:Unf G v b)(hC:oA ft mb G v):CtR Tryz.prog 108 #[ptr b] [.gr mb G, .tab,ft] (fun u D'=> ∃y,eA v y∧RN y u D'):=by
 refine Ct.of_run (args:=[ptr b]) Tryz.func108 aF Z Tryz.ntmps108 Z (fun c=>?_)
 refine rO 10 Z (yE Z Z Z (hC b hU) (cd 0 Z (dP 1 2 Z Z)) (fun u4 D4 hv4=>?_))
 obtain⟨y4,hy4,b4,rfl,rfl⟩:=hv4
 exact oR 3 Z (zD Tryz.results108 Z ⟨rfl,y4,hy4,b4,rfl,rfl⟩ nS (cO 0 Z))
theorem c60(fb:Addr)(mb:Nat)(G:Gr)(v:V)(b:Nat)(hU:Unf G v b)(hp:Pl v)(hs:IsShape v):CtR Tryz.prog 60 #[ptr b] [.gr mb G, .tab,yd fb] (RH (wr v)):=by
 refine Ct.of_run (args:=[ptr b]) Tryz.func60 aF Z Tryz.ntmps60 Z (fun c=>?_)
 refine rO 3 Z (yA Jl Z (fun b2=>?_))
 change cG _ _ _ _ _ _ _ _ (HA.blk _ [_,_,_,_,_,_] _::_) _
 refine oO 7 Z (rW n8 Z Z ?_)
 refine oO 8 Z (yE Z Z Z (QH (yd fb) mb G v b hU (Pp (yd fb) mb G v (.inl (QF fb)) hp hs)) (cd 0 Z (dP 1 2 Z Z)) (fun u10 D10 hv10=>?_))
 obtain⟨y10,hy10,b10,rfl,rfl⟩:=hv10
 obtain⟨u,rfl,hu,he⟩:=KQ v hp hs y10 hy10
 have hpu:Pl (cp u):=hu▸AF hs hp
 refine zA (yE Z Z Z (Nu fb hpu he b10) (dP 0 3 Z Z) (fun u11 D11 hv11=>?_))
 obtain⟨_,rfl,A11,m11,B11,d11,rfl,rfl⟩:=hv11
 rw [hu]
 refine oO 7 Z (yA dE Z (fun b3=>?_))
 change cG _ _ _ _ _ _ _ _ (HA.blk _ [_,_,_,_,_] _::_) _
 refine zA (zG 0 (M':=[HA.blk _ [_,_,_,_,_] _,_]) Z Z Z Z co Z Z Z ?_)
 refine oK 3 [4,3,2] Z Z (rO 13 Z ?_)
 refine zK 0 Z cM Z Z (zA ?_)
 refine yV Z Z (Ju ..) (zA ?_)
 refine zG 1 (M':=[_,HA.blk _ [_,_,_,_,_,_] _]) Z Z Z Z Jk Z Z Z (yO ?_)
 refine yD (M':=[HA.blk b2 [_,_,_,_,_,_] 34]) (by repeat (first|exact zQ _|refine zB 0 Z ?_|refine zB 1 Z ?_|refine zB 2 Z ?_|refine zB 3 Z ?_|refine zB 4 Z ?_)) ?_
 exact vM 0 Tryz.results60 Z Z MT ⟨rfl,A11,m11,B11,d11,rfl,rfl⟩ nS (cO 0 Z)
theorem yf(v:V):(wr v).keys.zip (wr v).items=((v.keys.zip v.items).filter (fun p=>da p.1)).map (fun p=>(p.1,cJ (cH p.1) wr p.2)):=by
  rw [mn]
  unfold dG
  simp only [V.keys,V.items]
  rw [List.zip_map]
  generalize (List.filter _ _)=l
  induction l with
  |nil=>rfl
  |cons a l ih=>simp [ih]
theorem r8{x:V}(h: ∀ y∈x.items,y.kind=5)(hs: ∀ y∈x.items,IsShape (wr y)): ∀ z∈(cY wr x).items,IsShape z:=by
 intro z hz
 unfold cY at hz
 simp only [V.items]at hz
 obtain⟨y,hy,rfl⟩:=List.mem_map.1 hz
 rw [vF (h y hy)]
 exact hs y hy
theorem yg{sh:Int}{x:V}(hf:cN sh x)(h: ∀ y∈cK sh x,IsShape (wr y)):cN sh (cJ sh wr x)∧ ∀ y∈cK sh (cJ sh wr x),IsShape y:=by
 unfold cJ
 split
 ·rename_i h5
  subst h5
  exact fits5.2 (h x cB)
 split
 ·rename_i h6
  subst h6
  split
  ·rename_i hk
   exact fits6.2 (.inr (h x bc))
  ·rename_i hk
   have hf':x.kind=1∨x.kind=5:=by simpa [cN]using hf
   exact fits6.2 (.inl (hf'.resolve_right hk))
 split
 ·rename_i h7
  subst h7
  split
  ·rename_i hk
   exact fits7.2 (.inl (h x be))
  ·rename_i hk
   have hf':x.kind=5∨(x.kind=4∧ ∀ x'∈x.items,x'.kind=5):=by simpa [cN]using hf
   have h4:=hf'.resolve_left hk
   exact fits7.2 (.inr ⟨h4.1,r8 h4.2 fun y hy=>h y bG⟩)
 split
 ·rename_i h9
  rcases h9 with h9|h9
  ·subst h9
   have hf':x.kind=5∧ ∀ x'∈x.items,x'.kind=5:=by simpa [cN]using hf
   exact fits9.2 ⟨hf'.1,r8 hf'.2 fun y hy=>h y bM⟩
  ·subst h9
   have hf':x.kind=4∧ ∀ x'∈x.items,x'.kind=5:=by simpa [cN]using hf
   exact fits13.2 ⟨hf'.1,r8 hf'.2 fun y hy=>h y bL⟩
 ·rename_i h5 h6 h7 h9
  refine⟨hf,fun y hy=>?_⟩
  unfold cK at hy
  rw [if_neg h5,if_neg h6,if_neg h7,if_neg h9]at hy
  cases hy
theorem Kw{sh:Int}{x y:V}(h:y∈cK sh x):y=x∨y∈x.items:=by
 unfold cK at h
 (repeat' split at h)<;>first|(exact .inl (List.mem_singleton.1 h))|(exact .inr (List.mem_filter.1 h).1)|cases h
theorem Ea{v x y:V}{sh:Int}(hp:Pl v)(hx:x∈v.items)(h:y∈cK sh x):Pl y:=(Kw h).elim (fun e=>e▸hp.item x hx) (fun e=>(hp.item x hx).item y e)
theorem vl:da dM=true:=by decide+kernel
theorem js:cH dM=1:=by decide+kernel
theorem vm(v:V):IsShape v→Pl v→IsShape (wr v):=by
 refine V.indS (p:=fun v=>IsShape v→Pl v→IsShape (wr v)) (fun v IH hs hp=>?_) v
 have hk5:=hs.kind
 have hpw:Pl (wr v):=AF hs hp
 have hfit:=((wA v).1 hs).2
 have hget: ∀ k y,(k,y)∈(wr v).keys.zip (wr v).items↔ ∃x,(k,x)∈v.keys.zip v.items∧da k=true∧y=cJ (cH k) wr x:=by
  intro k y
  rw [yf,List.mem_map]
  constructor
  ·rintro ⟨⟨k',x⟩,hm,he⟩
   injection he with e1 e2
   subst e1;subst e2
   obtain⟨h1,h2⟩:=List.mem_filter.1 hm
   exact⟨x,h1,h2,rfl⟩
  ·rintro ⟨x,h1,h2,rfl⟩
   exact⟨(k,x),List.mem_filter.2 ⟨h1,h2⟩,rfl⟩
 refine(wA _).2 ⟨jo v,fun j k y hj hy=>?_⟩
 have hm:(k,y)∈(wr v).keys.zip (wr v).items:=by
  have h1:=List.getElem?_eq_some_iff.1 hj
  have h2:=List.getElem?_eq_some_iff.1 hy
  refine List.mem_of_getElem? (i:=j) ?_
  rw [List.getElem?_zip_eq_some]
  exact⟨hj,hy⟩
 obtain⟨x,hx,hw,rfl⟩:=(hget k y).1 hm
 obtain⟨j',hj1,hj2⟩:=rL ((xI hp hk5).1 hx)
 obtain⟨hf,hkid,hid⟩:=hfit j' _ _ hj1 hj2
 have hxm:=List.mem_of_getElem? hj2
 obtain⟨hf2,hkid2⟩:=yg hf (fun z hz=>IH z (Nat.lt_of_le_of_lt (uW hz) (yU hxm)) (hkid z hz) (Ea hp hxm hz))
 refine⟨hf2,hkid2,fun he=>?_⟩
 obtain⟨u,hu,h4⟩:=hid he
 have hz:=(xI hp hk5).2 hu
 have:=(hget dM (cJ (cH dM) wr u)).2 ⟨u,hz,vl,rfl⟩
 refine⟨_,(xI hpw (jo v)).1 this,?_⟩
 rw [js]
 exact h4
theorem Eb{v x:V}{key:ByteArray}(hs:IsShape v)(hp:Pl v)(h9:cH key=9)(hx:getV v key=some x):Pl x∧x.kind=5∧ ∀ z∈x.items,z.kind=5∧IsShape z∧Pl z:=by
 obtain⟨j,hj1,hj2⟩:=rL hx
 obtain⟨hf,hkid,_⟩:=((wA v).1 hs).2 j _ _ hj1 hj2
 have hm:=List.mem_of_getElem? hj2
 rw [h9]at hf hkid
 obtain⟨h5,hi⟩:=fits9.1 ⟨hf,hkid⟩
 exact⟨hp.item x hm,h5,fun z hz=>⟨(hi z hz).kind,hi z hz,(hp.item x hm).item z hz⟩⟩
theorem Ec(v:V):(normalV v).keys.zip (normalV v).items=((v.keys.zip v.items).filter (fun p=>eb p.1)).map (fun p=>(p.1,cJ (cH p.1) normalV p.2)):=by
  rw [sZ]
  unfold dG
  simp only [V.keys,V.items]
  rw [List.zip_map]
  generalize (List.filter _ _)=l
  induction l with
  |nil=>rfl
  |cons a l ih=>simp [ih]
theorem qW{v:V}(hs:IsShape v)(hp:Pl v):Pl (normalV v):=hp.elim fun d h=>⟨d,x7 v hs d h⟩
theorem pR{v:V}(hs:IsShape v)(hp:Pl v)(key:ByteArray):getV (normalV v) key=if eb key=true then(getV v key).map (cJ (cH key) normalV)else none:=by
  have hget: ∀ y,getV (normalV v) key=some y↔ ∃x,getV v key=some x∧eb key=true∧y=cJ (cH key) normalV x:=by
    intro y
    rw [←xI (qW hs hp) (sL v),Ec,List.mem_map]
    constructor
    · rintro ⟨⟨k',x⟩,hm,he⟩
      injection he with e1 e2
      subst e1;subst e2
      obtain⟨h1,h2⟩:=List.mem_filter.1 hm
      exact⟨x,(xI hp hs.kind).1 h1,h2,rfl⟩
    · rintro ⟨x,h1,h2,rfl⟩
      exact⟨(key,x),List.mem_filter.2 ⟨(xI hp hs.kind).2 h1,h2⟩,rfl⟩
  cases h:getV (normalV v) key with
  |some y=>
    obtain⟨x,h1,h2,rfl⟩:=(hget y).1 h
    rw [if_pos h2,h1]
    rfl
  |none=>
    split
    · rename_i hk
      cases hv:getV v key with
      |none=>rfl
      |some x=>
        have:=(hget _).2 ⟨x,hv,hk,rfl⟩
        rw [h]at this
        cases this
    · rfl
theorem AW(q m:Int)(s:ByteArray)(ks:List ByteArray)(ts:List V)(key:ByteArray):getV (.mk q m s ks ts) key=if dL ks key= -1 then none else ts[(dL ks key).toNat]? :=rfl
theorem yh{w:World}{ok:Nat→Prop}{t:V}{y:Value}(h:ValP w ok t y): ∃A1 c1 A2 c2,y= .agg #[.int .i64 t.kind, .int .i64 t.num, .string t.text, .slice A1 t.keys.length c1, .slice A2 t.items.length c2]:=by
 obtain⟨q,r,s,ks,its⟩:=t
 simp only [ValP]at h
 obtain⟨kv,iv,rfl,_,⟨A1,c1,rfl,_⟩,A2,c2,rfl,_⟩:=h
 exact⟨A1,c1,A2,c2,rfl⟩
theorem oE(x:Value)(t:V)(key:ByteArray)(hkl:t.keys.length≤t.items.length):CtR Tryz.prog 62 #[x, .string key] [.val x t] (fun u D'=> ∃y,u= .tuple #[y, .bool (getV t key).isSome]∧RV ((getV t key).getD zV) y D'):=by
 refine⟨(c62 x t key hkl).1,fun w ok hok hM hn hD=>Calls.mono ((c62 x t key hkl).2 w ok hok hM hn hD) ?_⟩
 rintro e w' ⟨u,M',D',rfl,⟨hM',y,rfl,rfl⟩,hchg,hm,hn',hft,hd⟩
 obtain⟨A1,c1,A2,c2,hy⟩:=yh (hd _ List.mem_cons_self)
 exact⟨_,M',_,rfl,⟨hM',y,rfl,A1,c1,A2,c2,hy,rfl⟩,hchg,hm,hn',hft,hd⟩
end Go.Jw

namespace Go.Jw
open Go Go.RowKit
theorem vn(pre zs vs post:List Value)(h:zs.length=vs.length):de (pre++(zs++post)) pre.length vs=pre++(vs++post):=by
  induction vs generalizing pre zs with
  |nil=>
    have:zs=[]:=List.eq_nil_of_length_eq_zero h
    subst this
    rfl
  |cons v vs ih=>
    cases zs with
    |nil=>cases h
    |cons z zs=>
      have e:(pre++(z::zs++post)).set pre.length v=(pre++[v])++(zs++post):=by simp
      have:=ih (pre++[v]) zs cA
      rw [de,e]
      simp only [List.length_append,List.length_singleton]at this
      rw [this]
      simp
section rules
variable {P:Program} {n:Nat} {F:List Nat} {c:Ctx F} {ops:Array Oper} {d:Nat} {T:TypeId} {l:List Oper} {k:List KI} {Q:cu} {e:dF} {M:List HA} {D:List DA}
theorem yi(i:Nat){x y:Operand}{A:Option Addr}{m cap j:Nat}{kd:IntKind}{S E sz by_ U:Nat}{xs:List Value}(hS:cS P S E sz by_)(hx:ev e x=some (.slice A m cap))(hy:ev e y=some (.int kd (j:Nat)))(hi:M[i]? =some (.row A m cap U sz xs))(hj:j<m):
  St P n c (.indexAddr S x y) T e M D (.pointer (some (At A (j*sz)))):=by
 intro d a w hf
 have hrow:=hf.toFitsW.mem hi
 rcases hrow.2 with ⟨_,h⟩|⟨g,cap',cur,hv,_⟩
 ·omega
 ·injection hv with h4
  subst h4
  exact uP (T:=T) hS hx hy hj d a w hf
theorem lE(i:Nat){x y:Operand}{A:Option Addr}{m cap E sz S:Nat}{pre zs vs:List Value}{v:Value}(hx:ev e x=some (.pointer (some (At A (m*sz)))))(hy:ev e y=some v)(hi:M[i]? =some (.row A (m+1) cap E sz (pre++zs)))(hz:zs.length=sz)(hvs:vs.length=sz)(hv:v.cells=vs.toArray)
  (hs: ∃i,P.info? S=some i∧i.size=sz) (h1:vs.all (·.oneCell')=true) (next:cG P n c ops l k Q e (M.set i (.row A (m+1) cap E sz (pre++vs))) D):cL P n c ops none (.store S x y) T l k Q e M D:=by
 intro a w hf
 have hrow:=hf.toFitsW.mem hi
 have hpl:pre.length=m*sz:=by
  have:=hrow.1
  rw [List.length_append,hz,Nat.succ_mul]at this
  omega
 rcases hrow.2 with ⟨_,h⟩|⟨g,cap',cur,hv',hg,hc,hnc,hm,hsz,ht⟩
 ·omega
 ·injection hv' with hA _ hcap
  subst hA;subst hcap
  have hcur:cur.toList=pre++(zs++cur.toList.drop ((m+1)*sz)):=by
   rw [←List.append_assoc,←ht,List.take_append_drop]
  have hcs:w.heap[g]? =some (.cells cur.toList.toArray E (0,0)):=by rw [Array.toArray_toList];exact hc
  obtain⟨w',hr,hh,hcg⟩:=fc (P:=P) (T':=S) (v:=v) (o:=pre.length) hcs hv (by rw [hvs];exact hs) (by rw [hcur];simp;omega) (fun u hu=>(List.all_eq_true.1 h1) u hu)
  have hadr:At (some ⟨g,0,none⟩) (m*sz)=⟨g,pre.length,none⟩:=by
   show(⟨g,0,none⟩:Addr).add (m*sz)=_
   rw [wB,Nat.zero_add,hpl]
  unfold Oper.wp
  have:(execOp a.eval (dH none (.store S x y) T)).run P w= .ok .skip w':=by simp [execOp,dH,hf.ev hx,hf.ev hy,hadr,hr]
  rw [this]
  refine next _ _ (hf.world (hf.toFitsW.swapAt hi (x':= .row (some ⟨g,0,none⟩) (m+1) cap E sz (pre++vs)) ?_ (by simpa [HA.foot]using hcg) br (fun q hq=> .inl hq)))
  refine⟨by rw [List.length_append,hpl,hvs,Nat.succ_mul], .inr ⟨g,cap,_,rfl,Nat.zero_le _,hh,hnc,hm,?_,?_⟩⟩
  ·rw [List.size_toArray,l9];simpa using hsz
  ·have e:de cur.toList pre.length vs=pre++(vs++cur.toList.drop ((m+1)*sz)):=by
    conv=>lhs;rw [hcur]
    exact vn _ _ _ _ aC
   rw [e]
   show List.take ((m+1)*sz) (pre++(vs++_))=_
   rw [←List.append_assoc]
   exact List.take_left' (by rw [List.length_append,hpl,hvs,Nat.succ_mul])
end rules
end Go.Jw

namespace Go.Jw
open Go Go.RowKit Go.Proofs
def HE(M N:List HA):Prop:=(∀ w:World,(∀ h∈M,h.holds w)↔ ∀ h∈N,h.holds w)∧(cP M).Perm (cP N)
theorem HE.refl(M:List HA):HE M M:=⟨fun _=>Iff.rfl, .refl _⟩
theorem HE.symm{M N:List HA}(h:HE M N):HE N M:=⟨fun w=>(h.1 w).symm,h.2.symm⟩
theorem HE.trans{M N L:List HA}(h:HE M N)(k:HE N L):HE M L:=⟨fun w=>(h.1 w).trans (k.1 w),h.2.trans k.2⟩
theorem HE.perm{M N:List HA}(h:M.Perm N):HE M N:=⟨fun w=>⟨fun a x hx=>a x (h.mem_iff.2 hx),fun a x hx=>a x (h.mem_iff.1 hx)⟩,l7 h⟩
theorem HE.append{M N M' N':List HA}(h:HE M N)(k:HE M' N'):HE (M++M') (N++N'):=by
 refine⟨fun w=>?_,by rw [yY,yY];exact h.2.append k.2⟩
 have e: ∀ A B:List HA,(∀ x∈A++B,x.holds w)↔(∀ x∈A,x.holds w)∧ ∀ x∈B,x.holds w:=fun A B=>
  ⟨fun a=>⟨fun x hx=>a x (List.mem_append_left _ hx),fun x hx=>a x (List.mem_append_right _ hx)⟩,fun a x hx=>(List.mem_append.1 hx).elim (a.1 x) (a.2 x)⟩
 rw [e,e,h.1 w,k.1 w]
theorem FitsW.he{F:List Nat}{c:Ctx F}{M N:List HA}{D:List DA}{w:World}(h:FitsW c M D w)(he:HE M N):FitsW c N D w:=
 ⟨h.chg,(he.1 w).1 h.own,he.2.nodup_iff.1 h.nodup,fun b hb=>h.foot b (he.2.mem_iff.2 hb),fun d hd=>
  d.mono (fun k hk=>⟨hk.1,hk.2.1,fun h'=>hk.2.2 (he.2.mem_iff.2 h')⟩) (fun _ _=>rfl) (h.dat d hd)⟩

abbrev o8:=Nat→Option Flds
def Kx(σ:o8)(b:Nat)(o:Option Flds):o8:=fun d=>if d=b then o else σ d
theorem vo(σ:o8)(b:Nat)(o:Option Flds):Kx σ b o b=o:=if_pos rfl
theorem yj{σ:o8}{b d:Nat}(h:d≠b)(o:Option Flds):Kx σ b o d=σ d:=if_neg h
def GOk(G:Gr)(σ:o8):Prop:=(G.map (·.1)).Nodup∧ ∀ b f,G.at b f↔σ b=some f
theorem GOk.ex{G:Gr}(h:(G.map (·.1)).Nodup): ∃σ,GOk G σ:=by
  induction G with
  |nil=>exact⟨fun _=>none,h,fun b f=>⟨(fun⟨cs,hm⟩=>absurd hm aJ),(fun h=>by cases h)⟩⟩
  |cons g G ih=>
    rw [List.map_cons,List.nodup_cons]at h
    obtain⟨σ,h1,h2⟩:=ih h.2
    refine⟨Kx σ g.1 (some g.2.2),by rw [List.map_cons,List.nodup_cons];exact h,fun b f=>?_⟩
    by_cases hb:b=g.1
    · subst hb
      rw [vo]
      constructor
      · rintro ⟨cs,hm⟩
        rcases List.mem_cons.1 hm with e|e
        · rw [←e]
        · exact absurd (List.mem_map.2 ⟨_,e,rfl⟩) h.1
      · intro e
        injection e with e
        exact⟨g.2.1,by rw [←e];exact List.mem_cons_self⟩
    · rw [yj hb,←h2]
      constructor
      · rintro ⟨cs,hm⟩
        rcases List.mem_cons.1 hm with e|e
        · exact absurd (congrArg Prod.fst e) hb
        · exact⟨cs,e⟩
      · rintro ⟨cs,hm⟩
        exact⟨cs,List.mem_cons_of_mem _ hm⟩
theorem GOk.perm{G G':Gr}{σ:o8}(h:GOk G σ)(hp:G.Perm G'):GOk G' σ:=
 ⟨(hp.map _).nodup_iff.1 h.1,fun b f=>by rw [←h.2];exact⟨fun⟨cs,hm⟩=>⟨cs,hp.mem_iff.2 hm⟩,fun⟨cs,hm⟩=>⟨cs,hp.mem_iff.1 hm⟩⟩⟩
theorem GOk.tail{g:Nat×List Value×Flds}{R:Gr}{σ:o8}(h:GOk (g::R) σ):GOk R (Kx σ g.1 none):=by
 have hn:=h.1
 rw [List.map_cons,List.nodup_cons]at hn
 refine⟨hn.2,fun b f=>?_⟩
 by_cases hb:b=g.1
 ·subst hb
  rw [vo]
  exact⟨fun⟨cs,hm⟩=>absurd (List.mem_map.2 ⟨_,hm,rfl⟩) hn.1,fun e=>by cases e⟩
 ·rw [yj hb,←h.2]
  constructor
  ·rintro ⟨cs,hm⟩;exact⟨cs,List.mem_cons_of_mem _ hm⟩
  ·rintro ⟨cs,hm⟩
   rcases List.mem_cons.1 hm with e|e
   ·exact absurd (congrArg Prod.fst e) hb
   ·exact⟨cs,e⟩
theorem GOk.split{G:Gr}{σ:o8}{b:Nat}{f:Flds}(h:GOk G σ)(hb:σ b=some f): ∃cs R,G.Perm ((b,cs,f)::R)∧GOk R (Kx σ b none):=by
 obtain⟨cs,hm⟩:=(h.2 b f).2 hb
 obtain⟨s,t,rfl⟩:=List.append_of_mem hm
 have hp:(s++(b,cs,f)::t).Perm ((b,cs,f)::(s++t)):=List.perm_middle
 exact⟨cs,s++t,hp,(h.perm hp).tail⟩
theorem CC{G G':Gr}(h:G.Perm G'):(Gr.blks G).Perm (Gr.blks G'):=h.map _
theorem Ed{U:TypeId}{gs gs':List (Nat×List Value)}(h:gs.Perm gs'):HE [.many U gs] [.many U gs']:=
 ⟨fun w=>by
  constructor<;>intro a x hx<;>rcases List.mem_singleton.1 hx with rfl<;>intro g hg
  ·exact(a _ List.mem_cons_self:(HA.many U gs).holds w) g (h.mem_iff.2 hg)
  ·exact(a _ List.mem_cons_self:(HA.many U gs').holds w) g (h.mem_iff.1 hg),by simpa [cP,HA.foot]using h.map _⟩
theorem nF(U:TypeId)(b:Nat)(cs:List Value)(gs:List (Nat×List Value)):HE [.many U ((b,cs)::gs)] [.blk b cs U, .many U gs]:=
 ⟨fun w=>by
  constructor
  ·intro a x hx
   have h1:(HA.many U ((b,cs)::gs)).holds w:=a _ List.mem_cons_self
   simp only [List.mem_cons,List.not_mem_nil,or_false]at hx
   rcases hx with rfl|rfl
   ·exact h1 (b,cs) List.mem_cons_self
   ·exact fun g hg=>h1 g (List.mem_cons_of_mem _ hg)
  ·intro a x hx
   rcases List.mem_singleton.1 hx with rfl
   intro g hg
   rcases List.mem_cons.1 hg with rfl|hg
   ·exact(a _ List.mem_cons_self:(HA.blk b cs U).holds w)
   ·exact(a _ (List.mem_cons_of_mem _ List.mem_cons_self):(HA.many U gs).holds w) g hg,by simp [cP,HA.foot]⟩
theorem vp{G R:Gr}{b:Nat}{cs:List Value}{f:Flds}(h:G.Perm ((b,cs,f)::R)):HE [.many 124 (Gr.blks G)] [.blk b cs 124, .many 124 (Gr.blks R)]:=
 (Ed (CC h)).trans (nF 124 b cs (Gr.blks R))
theorem yl{U:TypeId}{gs:List (Nat×List Value)}{M:List HA}(h:(cP (.many U gs::M)).Nodup):(gs.map (·.1)).Nodup:=(List.nodup_append.1 h).1
theorem lF{G:Gr}{M:List HA}(h:(cP (.many 124 (Gr.blks G)::M)).Nodup):(G.map (·.1)).Nodup:=by
 have:=yl h
 rw [Gr.blks,List.map_map]at this
 exact this
def Flds.put(f:Flds)(i:Nat)(o:Option dZ):Flds:=fun j=>if j=i then o else f j
section rules
variable {P:Program} {n:Nat} {F:List Nat} {c:Ctx F} {ops:Array Oper} {d:Nat} {T:TypeId} {l:List Oper} {k:List KI} {Q:cu} {e:dF} {M:List HA} {D:List DA}
theorem Ee{N:List HA}(he:HE M N)(next:cG P n c ops l k Q e N D):cG P n c ops l k Q e M D:=fun a w hf=>next a w (hf.world (hf.toFitsW.he he))
theorem Ky(next:(cP M).Nodup→cG P n c ops l k Q e M D):cG P n c ops l k Q e M D:=fun a w hf=>next hf.toFitsW.nodup a w hf
theorem nG{w:World}{ok:Nat→Prop}{mb:Nat}{cs:List Value}{f:Flds}(h:CellsP w ok mb cs f){i:Nat}(h1:1≤i)(h2:i≤36): ∃p:Option Addr,cs[i]? =some (.pointer p)∧p.isSome=(f i).isSome∧ ∀ fv,f i=some fv→FvP w ok fv (.pointer p):=by
  obtain⟨u,hu,hm⟩:=h.2.2 i h1 h2
  cases hf:f i with
  |none=>
    rw [hf]at hm
    exact⟨none,by rw [hu];exact congrArg some hm,rfl,fun fv h=>by cases h⟩
  |some fv=>
    rw [hf]at hm
    have: ∃p:Addr,u= .pointer (some p):=by
      cases fv with
      |text s=>obtain⟨p,a,b⟩:=hm;exact⟨_,a⟩
      |bool x=>obtain⟨p,a,b⟩:=hm;exact⟨_,a⟩
      |int n=>obtain⟨p,a,b⟩:=hm;exact⟨_,a⟩
      |numI n=>obtain⟨b,p,a,c⟩:=hm;exact⟨_,a⟩
      |numF n=>obtain⟨b,p,a,c⟩:=hm;exact⟨_,a⟩
      |sbS c=>obtain⟨b,a,d⟩:=hm;exact⟨_,a⟩
      |sbB x=>obtain⟨b,p,a,c⟩:=hm;exact⟨_,a⟩
      |itS c=>obtain⟨b,a,d⟩:=hm;exact⟨_,a⟩
      |itL bs=>obtain⟨b,p,sl,a,c⟩:=hm;exact⟨_,a⟩
      |texts l=>obtain⟨p,sl,a,d⟩:=hm;exact⟨_,a⟩
      |named l=>obtain⟨p,sl,nbs,a,d⟩:=hm;exact⟨_,a⟩
      |deps l=>obtain⟨p,sl,nbs,a,d⟩:=hm;exact⟨_,a⟩
      |enums l=>obtain⟨p,A,c,a,d⟩:=hm;exact⟨_,a⟩
      |tyS s=>obtain⟨b,p,a,c⟩:=hm;exact⟨_,a⟩
      |tyL l=>obtain⟨b,p,sl,a,c⟩:=hm;exact⟨_,a⟩
      |list bs=>obtain⟨p,sl,a,d⟩:=hm;exact⟨_,a⟩
      |one c=>exact⟨_,hm⟩
      |any=>obtain⟨p,a⟩:=hm;exact⟨_,a⟩
    obtain⟨p,rfl⟩:=this
    exact⟨some p,hu,rfl,fun fv' h=>by injection h with h;subst h;exact hm⟩
theorem ym{w:World}{ok:Nat→Prop}{mb:Nat}{cs:List Value}{f:Flds}(h:CellsP w ok mb cs f){i:Nat}(h1:1≤i){p:Option Addr}{o:Option dZ}(hp:p.isSome=o.isSome)(ho: ∀ fv,o=some fv→FvP w ok fv (.pointer p)):CellsP w ok mb (cs.set i (.pointer p)) (f.put i o):=by
  refine⟨by simp [h.1],by rw [List.getElem?_set_ne aC];exact h.2.1,fun q hq hq2=>?_⟩
  by_cases hoq:q=i
  · subst hoq
    refine⟨.pointer p,by rw [List.getElem?_set_self bj],?_⟩
    simp only [Flds.put,if_true]
    cases o with
    |none=>cases p with
      |none=>rfl
      |some a=>cases hp
    |some fv=>exact ho fv rfl
  · obtain⟨u',hu',hm⟩:=h.2.2 q hq hq2
    exact⟨u',by rw [List.getElem?_set_ne aC];exact hu',by simp only [Flds.put,if_neg hoq];exact hm⟩
end rules
end Go.Jw

namespace Go.Jw
open Go Go.RowKit
def gI(q:Nat)(f s:Flds):Flds:=fun i=>if i=q then(s i).or (f i)else f i
theorem Ef(l:List Nat)(hn:l.Nodup)(f s:Flds):l.foldl (fun g q=>gI q g s) f=fun i=>if i∈l then(s i).or (f i)else f i:=by
  induction l generalizing f with
  |nil=>funext i;simp
  |cons q l ih=>
    rw [List.nodup_cons]at hn
    rw [List.foldl_cons,ih hn.2]
    funext i
    by_cases hi:i∈l
    · have hq:i≠q:=fun e=>hn.1 (e▸hi)
      simp [hi,gI,hq]
    · by_cases hq:i=q
      · subst hq;simp [hi,gI]
      · simp [hi,gI,hq]
section rules
variable {P:Program} {n:Nat} {F:List Nat} {c:Ctx F} {ops:Array Oper} {d:Nat} {T:TypeId} {l:List Oper} {k:List KI} {Q:cu} {e:dF} {M:List HA} {D:List DA}
theorem pS(t:Nat)(v:Value)(e:dF):cz ((t,v)::e) t=some v:=by rw [vG,if_pos rfl]
theorem AX{t s:Nat}(v:Value)(e:dF)(h:s≠t):cz ((s,v)::e) t=cz e t:=by rw [vG,if_neg h]
theorem Kz{a n:Nat}(h:a<n):Nat.blt a n=true:=by simpa using h
theorem xE{b s mb mb2:Nat}{cs cs2:List Value}{f f2:Flds}(a q T:Nat)(ha:2≤a)(hn:a+11<n)(h1:1≤q)(h2:q≤36)(hT:cT P T)(hfo:cI P 124 q q)(hpn:P.underlying T=some (.pointer (P.pointee T)))(hsi: ∃i,P.info? T=some i∧i.size=1)
    {i1 i2:Nat} {A1 A2 A3 A4 A5 B1 B2 B3 B4 B5 B6 B7 B8 C1:TypeId} {p1 p2 p3 p4 p5 q1 q2 q3 q4 q5 q6 q7 q8:String} {e1 e2 e3 e4 e5 g1 g2 g3 g4 g5 g6 g7 g8:Array Edge}
    (next: ∀ cs',Run P n c k Q [(0,ptr b),(1,ptr s)] [.blk b cs' 124, .blk s cs2 124] [.flds mb cs' (gI q f f2), .flds mb2 cs2 f2]):
    Run P n c (.code (.seq (.region i1 #[⟨some a, .move (.tmp 1),A1,p1,e1,none⟩,⟨some (a+1), .nilCheck (.tmp a),A2,p2,e2,none⟩,⟨some (a+2), .fieldAddr 124 (.tmp (a+1)) q,A3,p3,e3,none⟩,⟨some (a+3), .load T (.tmp (a+2)),A4,p4,e4,none⟩,⟨some (a+4), .binOp .neq T (.tmp (a+3)) (.const (.pointer none)) C1,A5,p5,e5,none⟩] false)
      (.cond (.tmp (a+4)) (.region i2 #[⟨some (a+5), .move (.tmp 0),B1,q1,g1,none⟩,⟨some (a+6), .move (.tmp 1),B2,q2,g2,none⟩,⟨some (a+7), .nilCheck (.tmp (a+6)),B3,q3,g3,none⟩,⟨some (a+8), .fieldAddr 124 (.tmp (a+7)) q,B4,q4,g4,none⟩,⟨some (a+9), .load T (.tmp (a+8)),B5,q5,g5,none⟩,⟨some (a+10), .nilCheck (.tmp (a+5)),B6,q6,g6,none⟩,⟨some (a+11), .fieldAddr 124 (.tmp (a+10)) q,B7,q7,g7,none⟩,⟨none, .store T (.tmp (a+11)) (.tmp (a+9)),B8,q8,g8,none⟩] false) .skip))::k)
      Q [(0,ptr b),(1,ptr s)] [.blk b cs 124, .blk s cs2 124] [.flds mb cs f, .flds mb2 cs2 f2]:=by
  have ev1: ∀ (t:Nat) (v:Value) (e:dF),ev ((t,v)::e) (.tmp t)=some v:=fun t v e=>pS t v e
  have evn: ∀ (t s:Nat) (v:Value) (e:dF),s≠t→ev ((s,v)::e) (.tmp t)=ev e (.tmp t):=fun t s v e h=>AX v e h
  have hbl: ∀ j,j≤11→Nat.blt (a+j) n=true:=fun j hj=>Kz aC
  refine qD (p:=cs.length=37) (fun w ok h=>(h (.flds mb cs f) aJ).1) (fun hcl=>?_)
  refine qD (p:= ∃p:Option Addr,cs2[q]? =some (.pointer p)∧p.isSome=(f2 q).isSome) (fun w ok h=>?_) (fun⟨p,hcp,hps⟩=>?_)
  · obtain⟨p,a1,a2,_⟩:=nG (h (.flds mb2 cs2 f2) aJ) h1 h2
    exact⟨p,a1,a2⟩
  refine xD (iN (zA ?_))
  refine lU (hbl 0 aC) (v:=ptr s) (by rw [evn 1 0 _ _ aE];exact ev1 1 _ _) (zA ?_)
  refine qN (hbl 1 aC) (ev1 _ _ _) (zA ?_)
  refine zC hfo (hbl 2 aC) (ev1 _ _ _) (zA ?_)
  refine wR 1 hT (hbl 3 aC) (ev1 _ _ _) Z (by rw [Nat.zero_add];exact hcp) (zA ?_)
  refine xV hpn (hbl 4 aC) (ev1 _ _ _) (yO ?_)
  refine yC (ev1 _ _ _) (fun hb=>?_) (fun hb=>?_)
  · refine iN (zA ?_)
    refine lU (hbl 5 aC) (v:=ptr b) (by(repeat rw [evn 0 _ _ _ aC]);exact ev1 0 _ _) (zA ?_)
    refine lU (hbl 6 aC) (v:=ptr s) (by(repeat rw [evn 1 _ _ _ aC]);exact ev1 1 _ _) (zA ?_)
    refine qN (hbl 7 aC) (ev1 _ _ _) (zA ?_)
    refine zC hfo (hbl 8 aC) (ev1 _ _ _) (zA ?_)
    refine wR 1 hT (hbl 9 aC) (ev1 _ _ _) Z (by rw [Nat.zero_add];exact hcp) (zA ?_)
    refine qN (p:=⟨b,0,none⟩) (hbl 10 aC) (by(repeat rw [evn (a+5) _ _ _ aC]);exact ev1 _ _ _) (zA ?_)
    refine zC hfo (hbl 11 aC) (ev1 _ _ _) (zA ?_)
    rw [Nat.zero_add]
    refine uL 0 (v:= .pointer p) (ev1 _ _ _) (by(repeat rw [evn (a+9) _ _ _ aC]);exact ev1 _ _ _) Z Z Z hsi aC (yO ?_)
    refine gR (e':=[(0,ptr b),(1,ptr s)]) (eC bA (eC bA (eN _))) ?_
    refine uJ (fun w ok h x hx=>?_) (next (cs.set q (.pointer p)))
    have hf1:CellsP w ok mb cs f:=h (.flds mb cs f) aJ
    have hf2:CellsP w ok mb2 cs2 f2:=h (.flds mb2 cs2 f2) aJ
    simp only [List.mem_cons,List.not_mem_nil,or_false]at hx
    rcases hx with rfl|rfl
    · obtain⟨p',a1,a2,a3⟩:=nG hf2 h1 h2
      rw [hcp]at a1
      injection a1 with a1
      injection a1 with a1
      subst a1
      have e:gI q f f2=f.put q (f2 q):=by
        funext i
        unfold gI Flds.put
        by_cases hi:i=q
        · subst hi
          rw [if_pos rfl,if_pos rfl]
          cases hfi:f2 i with
          |none=>rw [hfi]at a2;rw [hb]at a2;cases a2
          |some fv=>rfl
        · rw [if_neg hi,if_neg hi]
      show CellsP w ok mb (cs.set q (.pointer p)) (gI q f f2)
      rw [e]
      exact ym hf1 h1 a2 a3
    · exact hf2
  · refine uF ?_
    refine gR (e':=[(0,ptr b),(1,ptr s)]) (eC bA (eC bA (eN _))) ?_
    have e:gI q f f2=f:=by
      funext i
      unfold gI
      by_cases hi:i=q
      · subst hi
        rw [if_pos rfl]
        cases hfi:f2 i with
        |none=>rfl
        |some fv=>rw [hfi,hb]at hps;cases hps
      · rw [if_neg hi]
    have:=next cs
    rw [e]at this
    exact this
end rules
end Go.Jw

namespace Go.Jw
open Go Go.RowKit Go.Proofs
set_option maxRecDepth 8000
abbrev iA:=List (ByteArray×V)
def lk(l:iA)(k:ByteArray):Option V:=(l.find? (fun p=>decide (p.1=k))).map (·.2)
theorem Eg(k:ByteArray):lk [] k=none:=rfl
theorem tY(p:ByteArray×V)(l:iA)(k:ByteArray):lk (p::l) k=if p.1=k then some p.2 else lk l k:=by
 unfold lk
 rw [List.find?_cons]
 by_cases h:p.1=k
 ·simp [h]
 ·simp [h]
theorem K0(l:iA)(f:ByteArray→V→V)(k:ByteArray):lk (l.map fun p=>(p.1,f p.1 p.2)) k=(lk l k).map (f k):=by
  induction l with
  |nil=>rfl
  |cons p l ih=>
    rw [List.map_cons,tY,tY,ih]
    split
    · rename_i h;simp only at h;rw [h];rfl
    · rfl
theorem o9(l:iA)(q:ByteArray→Bool)(k:ByteArray):lk (l.filter fun p=>q p.1) k=if q k=true then lk l k else none:=by
  induction l with
  |nil=>simp [Eg]
  |cons p l ih=>
    rw [List.filter_cons]
    by_cases hq:q p.1=true
    · rw [if_pos hq,tY,tY,ih]
      by_cases h:p.1=k
      · rw [if_pos h,if_pos h,←h,if_pos hq]
      · rw [if_neg h,if_neg h]
    · rw [if_neg hq,ih,tY]
      by_cases h:p.1=k
      · rw [←h,if_neg hq,if_neg hq]
      · rw [if_neg h]
theorem K1{l:iA}{k:ByteArray}{x:V}(h:lk l k=some x):(k,x)∈l:=by
  induction l with
  |nil=>cases h
  |cons p l ih=>
    rw [tY]at h
    split at h
    · rename_i hp
      injection h with h
      rw [←hp,←h]
      exact List.mem_cons_self
    · exact List.mem_cons_of_mem _ (ih h)
theorem yn(ks:List ByteArray)(ts:List V)(key:ByteArray)(h:ks.length≤ts.length):(if ks.findIdx (fun x=>decide (x=key))<ks.length then ts[ks.findIdx (fun x=>decide (x=key))]? else none)=lk (ks.zip ts) key:=by
  induction ks generalizing ts with
  |nil=>rfl
  |cons k ks ih=>
    cases ts with
    |nil=>simp at h
    |cons t ts=>
      rw [List.zip_cons_cons,tY,List.findIdx_cons]
      by_cases hk:k=key
      · simp [hk]
      · have:=ih ts cA
        simp only [hk,decide_false,cond_false,if_false,List.length_cons,Nat.add_lt_add_iff_right,List.getElem?_cons_succ]
        exact this
theorem jt{v:V}(h:v.keys.length≤v.items.length)(key:ByteArray):getV v key=lk (v.keys.zip v.items) key:=by
 rw [←yn _ _ _ h]
 unfold getV dL
 split
 ·rename_i hlt
  rw [if_neg aC]
  simp
 ·rw [if_pos rfl]
def I8(l:iA):V:= .mk 5 0 ⟨#[]⟩ (l.map (·.1)) (l.map (·.2))
theorem HI(l:iA):(I8 l).keys.zip (I8 l).items=l:=by
  show(l.map (·.1)).zip (l.map (·.2))=l
  induction l with
  |nil=>rfl
  |cons p l ih=>simp [ih]
theorem Eh(l:iA)(key:ByteArray):getV (I8 l) key=lk l key:=by
 rw [jt (by simp [I8,V.keys,V.items]),HI]
def cy(key:ByteArray)(own:V):iA→iA
  |[]=>[(key,own)]
  |p::l=>if Op.bytesLess p.1.toList key.toList=false then(key,own)::(p::l).filter (fun q=> !decide (q.1=key))else p::cy key own l
def eQ(v:V)(key:ByteArray)(own:V):V:=I8 (cy key own (v.keys.zip v.items))
theorem Ei(k:ByteArray):Op.bytesLess k.toList k.toList=false:=by
 rw [fK]
 exact decide_eq_false (List.lt_irrefl _)
theorem HJ(key:ByteArray)(own:V)(l:iA)(k:ByteArray):lk (cy key own l) k=if k=key then some own else lk l k:=by
  induction l with
  |nil=>
    rw [cy,tY]
    by_cases h:k=key
    · rw [if_pos h.symm,if_pos h]
    · rw [if_neg (Ne.symm h),if_neg h]
  |cons p l ih=>
    rw [cy]
    split
    · rw [tY,o9 (p::l) (fun x=> !decide (x=key))]
      by_cases h:k=key
      · rw [if_pos h.symm,if_pos h]
      · rw [if_neg (Ne.symm h),if_neg h,if_pos (by simp [h])]
    · rename_i hlt
      rw [tY,tY,ih]
      by_cases h:k=key
      · rw [if_pos h,if_pos h]
        split
        · rename_i hp
          rw [hp,h,Ei]at hlt
          exact absurd Z hlt
        · rfl
      · rw [if_neg h,if_neg h]
theorem Ej{v:V}(h:v.keys.length≤v.items.length)(key:ByteArray)(own:V)(k:ByteArray):getV (eQ v key own) k=if k=key then some own else getV v k:=by
 rw [eQ,Eh,HJ,jt h]
theorem r9(v:V)(key:ByteArray)(own:V):(eQ v key own).keys.length≤(eQ v key own).items.length:=by simp [eQ,I8,V.keys,V.items]

theorem Ek{key:ByteArray}{own:V}{l:iA}{p:ByteArray×V}(h:p∈cy key own l):p=(key,own)∨p∈l:=by
  induction l with
  |nil=>exact .inl (List.mem_singleton.1 h)
  |cons q l ih=>
    rw [cy]at h
    split at h
    · rcases List.mem_cons.1 h with h|h
      · exact .inl h
      · exact .inr (List.mem_filter.1 h).1
    · rcases List.mem_cons.1 h with h|h
      · exact .inr (by rw [h];exact List.mem_cons_self)
      · exact(ih h).imp id (List.mem_cons_of_mem _)
theorem El(key:ByteArray)(own:V)(l:iA):(cy key own l).length≤l.length+1:=by
  induction l with
  |nil=>exact Nat.le_refl _
  |cons p l ih=>
    rw [cy]
    split
    · have:=List.length_filter_le (fun q:ByteArray×V=> !decide (q.1=key)) (p::l)
      simp only [List.length_cons]at this⊢
      omega
    · simp only [List.length_cons];omega
theorem CD{v:V}(hp:Pl v)(hk:v.kind=5)(h: ∀ key x,getV v key=some x→cN (cH key) x∧(∀ z∈cK (cH key) x,IsShape z)∧(key=kId→ ∃u,getV v dM=some u∧dS u.text)):IsShape v:=by
 refine(wA v).2 ⟨hk,fun j k x hj hx=>h k x ((xI hp hk).1 ?_)⟩
 refine List.mem_of_getElem? (i:=j) ?_
 rw [List.getElem?_zip_eq_some]
 exact⟨hj,hx⟩
theorem rB{v:V}(hs:IsShape v){key:ByteArray}{x:V}(h:getV v key=some x):cN (cH key) x∧(∀ z∈cK (cH key) x,IsShape z)∧(key=kId→ ∃u,getV v dM=some u∧dS u.text):=by
 obtain⟨j,hj1,hj2⟩:=rL h
 exact((wA v).1 hs).2 j _ _ hj1 hj2
theorem All2.map{α β γ:Type}{R:α→β→Prop}{S:α→γ→Prop}{g:β→γ}{l:List α}{l':List β}(h: ∀ a b,a∈l→b∈l'→R a b→S a (g b))(h2:All2 R l l'):All2 S l (l'.map g):=by
  refine⟨by rw [List.length_map];exact h2.1,fun i a b ha hb=>?_⟩
  rw [List.getElem?_map]at hb
  cases hl:l'[i]? with
  |none=>rw [hl]at hb;cases hb
  |some b'=>
    rw [hl]at hb
    injection hb with hb
    rw [←hb]
    exact h a b' (List.mem_of_getElem? ha) (List.mem_of_getElem? hl) (h2.2 i a b' ha hl)
theorem Em(ks:List ByteArray)(ts:List V)(g:V→V):ks.zip (ts.map g)=(ks.zip ts).map (fun p=>(p.1,g p.2)):=by
  induction ks generalizing ts with
  |nil=>rfl
  |cons k ks ih=>cases ts with
    |nil=>rfl
    |cons t ts=>simp [ih]
theorem FvRel.turn{U U':Nat→V→Prop}{g:V→V}(hg: ∀ z,(g z).kind=5){sh:Int}{x:V}{fv:dZ}(hfit:cN sh x)(h: ∀ c z,c∈ei fv→z∈cK sh x→U c z→U' c (g z))(hf:FvRel U sh x fv):FvRel U' sh (cJ sh g x) fv:=by
  have all5: ∀ (hi: ∀ y∈x.items,y.kind=5),∀ y∈x.items,c8 g y=g y:=fun hi y hy=>vF (hi y hy)
  cases fv with
  |text s=>obtain⟨rfl,h2⟩:=hf;exact⟨rfl,h2⟩
  |bool s=>obtain⟨rfl,h2⟩:=hf;exact⟨rfl,h2⟩
  |int s=>obtain⟨rfl,h2⟩:=hf;exact⟨rfl,h2⟩
  |numI s=>obtain⟨rfl,h2⟩:=hf;exact⟨rfl,h2⟩
  |numF s=>obtain⟨rfl,h2⟩:=hf;exact⟨rfl,h2⟩
  |sbS b=>
    obtain⟨rfl,h5,hu⟩:=hf
    have e:cJ 6 g x=g x:=by simp [cJ,h5]
    rw [e]
    exact⟨rfl,hg x,h b x cC (by simp [cK,h5]) hu⟩
  |sbB s=>
    obtain⟨rfl,h1,h2⟩:=hf
    have e:cJ 6 g x=x:=by simp [cJ,h1]
    rw [e]
    exact⟨rfl,h1,h2⟩
  |itS b=>
    obtain⟨rfl,h5,hu⟩:=hf
    have e:cJ 7 g x=g x:=by simp [cJ,h5]
    rw [e]
    exact⟨rfl,hg x,h b x cC (by simp [cK,h5]) hu⟩
  |itL bs=>
    obtain⟨rfl,h4,hu⟩:=hf
    have hi: ∀ y∈x.items,y.kind=5:=by simpa [cN,h4]using hfit
    have e:cJ 7 g x=cY g x:=by simp [cJ,h4]
    rw [e]
    refine⟨rfl,h4,?_⟩
    show All2 U' bs (x.items.map (c8 g))
    exact hu.map fun a b ha hb hab=>by rw [all5 hi b hb];exact h a b ha (by rw [iV h4 hi];exact hb) hab
  |texts l=>obtain⟨rfl,h2⟩:=hf;exact⟨rfl,h2⟩
  |named l=>
    obtain⟨rfl,ps,hp,hu⟩:=hf
    have hi: ∀ y∈x.items,y.kind=5:=by
      have:x.kind=5∧ ∀ x'∈x.items,x'.kind=5:=by simpa [cN]using hfit
      exact this.2
    have e:cJ 9 g x=cY g x:=by simp [cJ]
    rw [e]
    refine⟨rfl,ps.map (fun p=>(p.1,c8 g p.2)),?_,?_⟩
    · show(ps.map _).Perm (x.keys.zip (x.items.map (c8 g)))
      rw [Em]
      exact hp.map _
    · exact hu.map fun a b ha hb hab=>by
        have hm:=(List.of_mem_zip (hp.mem_iff.1 hb)).2
        refine⟨hab.1,?_⟩
        show U' a.2 (c8 g b.2)
        rw [all5 hi _ hm]
        exact h a.2 b.2 (List.mem_map.2 ⟨a,ha,rfl⟩) (by rw [mh hi];exact hm) hab.2
  |deps l=>obtain⟨rfl,h2⟩:=hf;exact⟨rfl,h2⟩
  |enums l=>obtain⟨rfl,h2⟩:=hf;exact⟨rfl,h2⟩
  |tyS s=>obtain⟨rfl,h2⟩:=hf;exact⟨rfl,h2⟩
  |tyL l=>obtain⟨rfl,h2⟩:=hf;exact⟨rfl,h2⟩
  |list bs=>
    obtain⟨rfl,hu⟩:=hf
    have hi: ∀ y∈x.items,y.kind=5:=by
      have:x.kind=4∧ ∀ x'∈x.items,x'.kind=5:=by simpa [cN]using hfit
      exact this.2
    have e:cJ 13 g x=cY g x:=by simp [cJ]
    rw [e]
    refine⟨rfl,?_⟩
    show All2 U' bs (x.items.map (c8 g))
    exact hu.map fun a b ha hb hab=>by rw [all5 hi b hb];exact h a b ha (by rw [kK hi];exact hb) hab
  |one b=>
    obtain⟨rfl,hu⟩:=hf
    exact⟨rfl,h b x cC cB hu⟩
  |any=>exact hf
def lG(v:V):List V:=(v.keys.zip v.items).flatMap (fun p=>cK (cH p.1) p.2)
theorem ie{v z:V}(h:z∈lG v):SizeOf.sizeOf z<SizeOf.sizeOf v:=by
 obtain⟨p,hp,hz⟩:=List.mem_flatMap.1 h
 exact Nat.lt_of_le_of_lt (uW hz) (yU (List.of_mem_zip hp).2)
theorem rZ{v x z:V}{key:ByteArray}(hp:Pl v)(hk:v.kind=5)(h:getV v key=some x)(hz:z∈cK (cH key) x):z∈lG v:=
 List.mem_flatMap.2 ⟨(key,x),(xI hp hk).2 h,hz⟩
theorem nH{v z:V}(hp:Pl v)(h:z∈lG v):Pl z:=by
 obtain⟨p,hpm,hz⟩:=List.mem_flatMap.1 h
 exact Ea hp (List.of_mem_zip hpm).2 hz
theorem gp{v z:V}(hp:Pl v)(hs:IsShape v)(h:z∈lG v):IsShape z:=by
 obtain⟨p,hpm,hz⟩:=List.mem_flatMap.1 h
 exact(rB hs ((xI hp hs.kind).1 (show(p.1,p.2)∈_ from hpm))).2.1 z hz

def er:List Nat:=[14,15,22,23,24,28,29,30,31,32]
inductive MJ (σ:o8):Nat→Nat→Prop where
  |refl (b:Nat):MJ σ b b
  |step {b c d i:Nat} {f:Flds} (h:σ b=some f) (hi:i∈er) (hc:c∈dd f i) (r:MJ σ c d):MJ σ b d
theorem HK{U:Nat→V→Prop}{i:Nat}{x:V}{fv:dZ}{c:Nat}(h1:1≤i)(h2:i≤36)(h:FvRel U (dD i) x fv)(hc:c∈ei fv):i∈er:=by
  have key:dD i=5∨dD i=6∨dD i=7∨dD i=9∨dD i=13→i∈er:=by
    have: ∀ i:Fin 37,dD i.1=5∨dD i.1=6∨dD i.1=7∨dD i.1=9∨dD i.1=13→i.1∈er:=by decide
    exact this ⟨i,aC⟩
  cases fv with
  |sbS b=>exact key (.inr (.inl h.1))
  |itS b=>exact key (.inr (.inr (.inl h.1)))
  |itL bs=>exact key (.inr (.inr (.inl h.1)))
  |named l=>exact key (.inr (.inr (.inr (.inl h.1))))
  |list bs=>exact key (.inr (.inr (.inr (.inr h.1))))
  |one b=>exact key (.inl h.1)
  |_=>simp [ei]at hc
theorem nI{g:V→V}{x:V}(h: ∀ y∈x.items,y.kind=5){p:V→Prop}(hs: ∀ y∈x.items,p (g y)): ∀ z∈(cY g x).items,p z:=by
 intro z hz
 unfold cY at hz
 simp only [V.items]at hz
 obtain⟨y,hy,rfl⟩:=List.mem_map.1 hz
 rw [vF (h y hy)]
 exact hs y hy
theorem vq{g:V→V}{sh:Int}{x:V}(hf:cN sh x)(h: ∀ y∈cK sh x,IsShape (g y)):cN sh (cJ sh g x)∧ ∀ y∈cK sh (cJ sh g x),IsShape y:=by
 unfold cJ
 split
 ·rename_i h5
  subst h5
  exact fits5.2 (h x cB)
 split
 ·rename_i h6
  subst h6
  split
  ·rename_i hk
   exact fits6.2 (.inr (h x bc))
  ·rename_i hk
   have hf':x.kind=1∨x.kind=5:=by simpa [cN]using hf
   exact fits6.2 (.inl (hf'.resolve_right hk))
 split
 ·rename_i h7
  subst h7
  split
  ·rename_i hk
   exact fits7.2 (.inl (h x be))
  ·rename_i hk
   have hf':x.kind=5∨(x.kind=4∧ ∀ x'∈x.items,x'.kind=5):=by simpa [cN]using hf
   have h4:=hf'.resolve_left hk
   exact fits7.2 (.inr ⟨h4.1,nI h4.2 fun y hy=>h y bG⟩)
 split
 ·rename_i h9
  rcases h9 with h9|h9
  ·subst h9
   have hf':x.kind=5∧ ∀ x'∈x.items,x'.kind=5:=by simpa [cN]using hf
   exact fits9.2 ⟨hf'.1,nI hf'.2 fun y hy=>h y bM⟩
  ·subst h9
   have hf':x.kind=4∧ ∀ x'∈x.items,x'.kind=5:=by simpa [cN]using hf
   exact fits13.2 ⟨hf'.1,nI hf'.2 fun y hy=>h y bL⟩
 ·rename_i h5 h6 h7 h9
  refine⟨hf,fun y hy=>?_⟩
  unfold cK at hy
  rw [if_neg h5,if_neg h6,if_neg h7,if_neg h9]at hy
  cases hy
theorem vr{key:ByteArray}{i:Nat}(h:cR key=i)(h0:i≠0):cH key=dD i:=by rw [ky (by rw [h];exact h0),h]
theorem HL{key:ByteArray}(h:cR key≠0):eb key=true:=by
  have hs:cH key=dD (cR key):=ky h
  unfold eb
  rw [hs]
  refine decide_eq_true ?_
  rcases kw_case (key:=key)with ⟨_,hm⟩|h0
  · have: ∀ q∈[35,36,32,31,30,29,28,26,20,19,18,17,16,14,13,12,11,10,9,8,7,6,3,25,23,24,22,21,34,15,27,1,2,33],dD q≠0:=by decide
    exact this _ hm
  · exact absurd h0 h
theorem yo(v:V):IsShape v→Pl v→IsShape (normalV v):=by
  refine V.indS (p:=fun v=>IsShape v→Pl v→IsShape (normalV v)) (fun v IH hs hp=>?_) v
  refine CD (qW hs hp) (sL v) fun key y hy=>?_
  rw [pR hs hp]at hy
  split at hy
  · cases hx:getV v key with
    |none=>rw [hx]at hy;cases hy
    |some x=>
      rw [hx]at hy
      injection hy with hy
      subst hy
      obtain⟨h1,h2,h3⟩:=rB hs hx
      obtain⟨h4,h5⟩:=vq (g:=normalV) h1 (fun z hz=>IH z (ie (rZ hp hs.kind hx hz)) (h2 z hz) (nH hp (rZ hp hs.kind hx hz)))
      refine⟨h4,h5,fun he=>?_⟩
      obtain⟨u,hu,hf⟩:=h3 he
      refine⟨cJ (cH dM) normalV u,?_,?_⟩
      · rw [pR hs hp,if_pos aD,hu];rfl
      · rw [js];exact hf
  · cases hy
theorem nJ{G:Gr}(v:V): ∀ b,Pl v→IsShape v→Unf G v b→Unf G (normalV v) b:=by
  refine V.indS (p:=fun v=> ∀ b,Pl v→IsShape v→Unf G v b→Unf G (normalV v) b) (fun v IH b hp hs hu=>?_) v
  obtain⟨f,hat,hU⟩:=(tO G v b).1 hu
  refine(tO G _ b).2 ⟨f,hat,fun i hi hj=>?_⟩
  have:=hU i hi hj
  cases hfi:f i with
  |none=>
    rw [hfi]at this
    intro key hkw
    rw [pR hs hp,this key hkw]
    split<;>rfl
  |some fv=>
    rw [hfi]at this
    obtain⟨key,x,hkw,hx,hrel⟩:=this
    have hsh:=vr hkw aC
    refine⟨key,cJ (cH key) normalV x,hkw,by rw [pR hs hp,if_pos (HL (by rw [hkw];omega)),hx];rfl,?_⟩
    have hfit:=rB hs hx
    rw [hsh]at hfit⊢
    refine FvRel.turn sL hfit.1 (fun c z hc hz huc=>?_) hrel
    have hzk:z∈lG v:=rZ hp hs.kind hx (by rw [hsh];exact hz)
    exact IH z (ie hzk) c (nH hp hzk) (gp hp hs hzk) huc
noncomputable def fi(σ:o8):V→Nat→Prop:=V.fix (α:=Nat→Prop) (fun v r b=> ∃f,σ b=some f∧ ∀ i,1≤i→i≤36→FldRel (fun b x=>r x b) v i (f i))
theorem gJ(σ:o8)(v:V)(b:Nat):fi σ v b↔ ∃f,σ b=some f∧ ∀ i,1≤i→i≤36→FldRel (fun b x=>fi σ x b) v i (f i):=by
 have:=V.fix_eq (α:=Nat→Prop) (G:=fun v r b=> ∃f,σ b=some f∧ ∀ i,1≤i→i≤36→FldRel (fun b x=>r x b) v i (f i)) (fun t g g' h=>by
  funext b
  apply propext
  constructor
  ·rintro ⟨f,h1,h2⟩
   exact⟨f,h1,fun i hi hj=>(h2 i hi hj).mono fun b x hx hu=>by rw [←h x hx];exact hu⟩
  ·rintro ⟨f,h1,h2⟩
   exact⟨f,h1,fun i hi hj=>(h2 i hi hj).mono fun b x hx hu=>by rw [h x hx];exact hu⟩) v
 show V.fix (α:=Nat→Prop) _ v b↔_
 rw [this]
 rfl
theorem nK{G:Gr}{σ:o8}(h:GOk G σ)(v:V): ∀ b,Unf G v b↔fi σ v b:=by
 refine V.indS (p:=fun v=> ∀ b,Unf G v b↔fi σ v b) (fun v IH b=>?_) v
 rw [tO,gJ]
 constructor
 ·rintro ⟨f,h1,h2⟩
  exact⟨f,(h.2 b f).1 h1,fun i hi hj=>(h2 i hi hj).mono fun c x hx hu=>(IH x hx c).1 hu⟩
 ·rintro ⟨f,h1,h2⟩
  exact⟨f,(h.2 b f).2 h1,fun i hi hj=>(h2 i hi hj).mono fun c x hx hu=>(IH x hx c).2 hu⟩
theorem FvRel.kid{U:Nat→V→Prop}{sh:Int}{x:V}{fv:dZ}{c:Nat}(hfit:cN sh x)(h:FvRel U sh x fv)(hc:c∈ei fv): ∃z∈cK sh x,U c z:=by
  have get: ∀ (bs:List Nat) (l:List V),All2 U bs l→c∈bs→ ∃z∈l,U c z:=fun bs l h2 hm=>by
    obtain⟨i,hi,rfl⟩:=List.getElem_of_mem hm
    have hi':i<l.length:=by rw [←h2.1];exact hi
    exact⟨l[i],List.getElem_mem hi',h2.2 i _ _ (List.getElem?_eq_getElem hi) (List.getElem?_eq_getElem hi')⟩
  cases fv with
  |sbS b=>obtain⟨rfl,h5,hu⟩:=h;exact⟨x,by simp [cK,h5],by rw [List.mem_singleton.1 hc];exact hu⟩
  |itS b=>obtain⟨rfl,h5,hu⟩:=h;exact⟨x,by simp [cK,h5],by rw [List.mem_singleton.1 hc];exact hu⟩
  |itL bs=>
    obtain⟨rfl,h4,hu⟩:=h
    have hi: ∀ y∈x.items,y.kind=5:=by simpa [cN,h4]using hfit
    rw [iV h4 hi]
    exact get bs _ hu hc
  |named l=>
    obtain⟨rfl,ps,hp,hu⟩:=h
    have hi: ∀ y∈x.items,y.kind=5:=by
      have:x.kind=5∧ ∀ x'∈x.items,x'.kind=5:=by simpa [cN]using hfit
      exact this.2
    rw [mh hi]
    obtain⟨q,hq,rfl⟩:=List.mem_map.1 hc
    obtain⟨i,hi,rfl⟩:=List.getElem_of_mem hq
    have hi':i<ps.length:=by rw [←hu.1];exact hi
    exact⟨ps[i].2,(List.of_mem_zip (hp.mem_iff.1 (List.getElem_mem hi'))).2,(hu.2 i _ _ (List.getElem?_eq_getElem hi) (List.getElem?_eq_getElem hi')).2⟩
  |list bs=>
    obtain⟨rfl,hu⟩:=h
    have hi: ∀ y∈x.items,y.kind=5:=by
      have:x.kind=4∧ ∀ x'∈x.items,x'.kind=5:=by simpa [cN]using hfit
      exact this.2
    rw [kK hi]
    exact get bs _ hu hc
  |one b=>obtain⟨rfl,hu⟩:=h;exact⟨x,by simp [cK],by rw [List.mem_singleton.1 hc];exact hu⟩
  |_=>simp [ei]at hc
def Nv(sh:Int):dZ→Prop
  | .text _=>sh=1
  | .bool _=>sh=2
  | .int _=>sh=4
  | .numI _=>sh=3
  | .numF _=>sh=3
  | .sbS _=>sh=6
  | .sbB _=>sh=6
  | .itS _=>sh=7
  | .itL _=>sh=7
  | .texts _=>sh=8
  | .named _=>sh=9
  | .deps _=>sh=10
  | .enums _=>sh=11
  | .tyS _=>sh=12
  | .tyL _=>sh=12
  | .list _=>sh=13
  | .one _=>sh=5
  | .any=>sh=14
theorem FvRel.ok{U:Nat→V→Prop}{sh:Int}{x:V}{fv:dZ}(h:FvRel U sh x fv):Nv sh fv:=by
 cases fv<;>first|exact h.1|exact h
def FT(f:Flds):Prop:= ∀ i fv,1≤i→i≤36→f i=some fv→Nv (dD i) fv
theorem HM{σ:o8}{v:V}{b:Nat}(h:fi σ v b): ∃f,σ b=some f∧FT f:=by
 obtain⟨f,h1,h2⟩:=(gJ σ v b).1 h
 refine⟨f,h1,fun i fv hi hj hf=>?_⟩
 have:=h2 i hi hj
 rw [hf]at this
 obtain⟨key,x,_,_,hr⟩:=this
 exact hr.ok
theorem CE: ∀ i∈er,1≤i∧i≤36:=by decide
theorem En{σ:o8}{v:V}{b c i:Nat}{f:Flds}(hp:Pl v)(hs:IsShape v)(h:fi σ v b)(hf:σ b=some f)(hi:i∈er)(hc:c∈dd f i): ∃z∈lG v,fi σ z c:=by
  obtain⟨f',h1,h2⟩:=(gJ σ v b).1 h
  rw [hf]at h1
  injection h1 with h1
  subst h1
  have hle:=CE i hi
  have:=h2 i hle.1 hle.2
  unfold dd at hc
  cases hfi:f i with
  |none=>rw [hfi]at hc;cases hc
  |some fv=>
    rw [hfi]at this hc
    obtain⟨key,x,hkw,hx,hr⟩:=this
    have hsh:=vr hkw aC
    have hfit:=(rB hs hx).1
    rw [hsh]at hfit
    obtain⟨z,hz,hu⟩:=hr.kid hfit hc
    exact⟨z,rZ hp hs.kind hx (by rw [hsh];exact hz),hu⟩
theorem CF{p:Nat→Prop}(n:Nat):p n→ ∃m,p m∧ ∀ k,p k→m≤k:=by
  induction n using Nat.strongRecOn with
  |_ n ih=>
    intro hn
    by_cases h: ∃k,k<n∧p k
    · obtain⟨k,hk,hp⟩:=h
      exact ih k hk hp
    · exact⟨n,hn,fun k hk=>Nat.le_of_not_lt fun hlt=>h ⟨k,hlt,hk⟩⟩
structure I9(good:V→Prop):Prop where
 pl: ∀ v,good v→Pl v
 shape: ∀ v,good v→IsShape v
 kid: ∀ v,good v→ ∀ z∈lG v,good z
def pX(good:V→Prop)(σ:o8)(d:Nat):Prop:= ∃v,good v∧fi σ v d
theorem HO{good:V→Prop}(hg:I9 good)(σ:o8): ∃mu:Nat→Nat,∀ d,pX good σ d→ ∃f,σ d=some f∧FT f∧ ∀ i∈er,∀ c∈dd f i,pX good σ c∧mu c<mu d:=by
 have hex: ∀ d,∃m:Nat,pX good σ d→(∃v,good v∧fi σ v d∧SizeOf.sizeOf v=m)∧ ∀ v,good v→fi σ v d→m≤SizeOf.sizeOf v:=fun d=>by
  by_cases h:pX good σ d
  ·obtain⟨v,h1,h2⟩:=h
   obtain⟨m,hm,hl⟩:=CF (p:=fun m=> ∃v,good v∧fi σ v d∧SizeOf.sizeOf v=m) _ ⟨v,h1,h2,rfl⟩
   exact⟨m,fun _=>⟨hm,fun v h1 h2=>hl _ ⟨v,h1,h2,rfl⟩⟩⟩
  ·exact⟨0,fun h'=>absurd h' h⟩
 refine⟨fun d=>Classical.choose (hex d),fun d hd=>?_⟩
 obtain⟨⟨v,h1,h2,h3⟩,_⟩:=Classical.choose_spec (hex d) hd
 obtain⟨f,hf,hft⟩:=HM h2
 refine⟨f,hf,hft,fun i hi c hc=>?_⟩
 obtain⟨z,hz,hu⟩:=En (hg.pl v h1) (hg.shape v h1) h2 hf hi hc
 have hc':pX good σ c:=⟨z,hg.kid v h1 z hz,hu⟩
 refine⟨hc',?_⟩
 have hle:=(Classical.choose_spec (hex c) hc').2 z (hg.kid v h1 z hz) hu
 have hlt:=ie hz
 show Classical.choose (hex c)<Classical.choose (hex d)
 omega
theorem All2.mono2{α β:Type}{R R':α→β→Prop}{l:List α}{l':List β}(h: ∀ a b,a∈l→b∈l'→R a b→R' a b)(h2:All2 R l l'):All2 R' l l':=
 ⟨h2.1,fun i a b ha hb=>h a b (List.mem_of_getElem? ha) (List.mem_of_getElem? hb) (h2.2 i a b ha hb)⟩
theorem FvRel.monoK{U U':Nat→V→Prop}{sh:Int}{v:V}{fv:dZ}(h: ∀ c x,c∈ei fv→SizeOf.sizeOf x≤SizeOf.sizeOf v→U c x→U' c x)(hf:FvRel U sh v fv):FvRel U' sh v fv:=by
  have hi: ∀ c x,c∈ei fv→x∈v.items→U c x→U' c x:=fun c x hc hx=>h c x hc (Nat.le_of_lt (yU hx))
  cases fv with
  |sbS b=>exact⟨hf.1,hf.2.1,h b v cC (Nat.le_refl _) hf.2.2⟩
  |itS b=>exact⟨hf.1,hf.2.1,h b v cC (Nat.le_refl _) hf.2.2⟩
  |itL bs=>exact⟨hf.1,hf.2.1,hf.2.2.mono2 hi⟩
  |named l=>
    obtain⟨h1,ps,h2,h3⟩:=hf
    exact⟨h1,ps,h2,h3.mono2 fun q p hq hp hr=>⟨hr.1,hi _ _ (List.mem_map.2 ⟨q,hq,rfl⟩) (List.of_mem_zip (h2.mem_iff.1 hp)).2 hr.2⟩⟩
  |list bs=>exact⟨hf.1,hf.2.mono2 hi⟩
  |one b=>exact⟨hf.1,h b v cC (Nat.le_refl _) hf.2⟩
  |text s=>exact hf
  |bool x=>exact hf
  |int n=>exact hf
  |numI n=>exact hf
  |numF n=>exact hf
  |sbB x=>exact hf
  |texts l=>exact hf
  |deps l=>exact hf
  |enums l=>exact hf
  |tyS s=>exact hf
  |tyL l=>exact hf
  |any=>exact hf
theorem ju{U U':Nat→V→Prop}{v:V}{i:Nat}{f:Flds}(h1:1≤i)(h2:i≤36)(h: ∀ c x,i∈er→c∈dd f i→SizeOf.sizeOf x<SizeOf.sizeOf v→U c x→U' c x)(hf:FldRel U v i (f i)):FldRel U' v i (f i):=by
  cases hfi:f i with
  |none=>rw [hfi]at hf;exact hf
  |some fv=>
    rw [hfi]at hf
    obtain⟨key,x,a,b,hr⟩:=hf
    exact⟨key,x,a,b,hr.monoK fun c y hc hy hu=>h c y (HK h1 h2 hr hc) (by unfold dd;rw [hfi];exact hc) (Nat.lt_of_le_of_lt hy (yU (vX b))) hu⟩
theorem yp{σ σ':o8}(v:V): ∀ b,(∀ d,MJ σ b d→σ' d=σ d)→fi σ v b→fi σ' v b:=by
 refine V.indS (p:=fun v=> ∀ b,(∀ d,MJ σ b d→σ' d=σ d)→fi σ v b→fi σ' v b) (fun v IH b hr hu=>?_) v
 obtain⟨f,hf,hU⟩:=(gJ _ _ _).1 hu
 exact(gJ _ _ _).2 ⟨f,(hr b (.refl b)).trans hf,fun i hi hj=>ju hi hj (fun c x hik hc hx huc=>IH x hx c (fun d hd=>hr d (.step hf hik hc hd)) huc) (hU i hi hj)⟩
theorem K2{σ:o8}{S:Nat→Prop}{mu:Nat→Nat}(hm: ∀ d,S d→ ∃f,σ d=some f∧ ∀ i∈er,∀ c∈dd f i,S c∧mu c<mu d){b d:Nat}(h:MJ σ b d):S b→S d∧(d=b∨mu d<mu b):=by
  induction h with
  |refl b=>exact fun hs=>⟨hs, .inl rfl⟩
  |step h hi hc r ih=>
    intro hs
    obtain⟨f',h',hk⟩:=hm _ hs
    rw [h]at h'
    injection h' with h'
    subst h'
    obtain⟨h1,h2⟩:=hk _ hi _ hc
    obtain⟨h3,h4⟩:=ih h1
    refine⟨h3, .inr ?_⟩
    rcases h4 with rfl|h4
    · exact h2
    · exact Nat.lt_trans h4 h2

def eR(l:iA)(out:V):V:=l.foldl (fun o p=>eQ o p.1 p.2) out
def gK(own out:V):V:=eR (own.keys.zip own.items) out
theorem HP{l:iA}{out:V}(h:out.keys.length≤out.items.length):(eR l out).keys.length≤(eR l out).items.length:=by
  induction l generalizing out with
  |nil=>exact h
  |cons p l ih=>exact ih (r9 _ _ _)
theorem Eo{l:iA}{out:V}(h:out.keys.length≤out.items.length)(hn:(l.map (·.1)).Nodup)(key:ByteArray):getV (eR l out) key=(lk l key).or (getV out key):=by
  induction l generalizing out with
  |nil=>simp [eR,Eg]
  |cons p l ih=>
    rw [List.map_cons,List.nodup_cons]at hn
    show getV (eR l (eQ out p.1 p.2)) key=_
    rw [ih (r9 _ _ _) hn.2,Ej h,tY]
    by_cases hk:key=p.1
    · subst hk
      have:lk l p.1=none:=by
        cases hl:lk l p.1 with
        |none=>rfl
        |some x=>exact absurd (List.mem_map.2 ⟨_,K1 hl,rfl⟩) hn.1
      rw [if_pos rfl,if_pos rfl,this]
      rfl
    · rw [if_neg hk,if_neg (Ne.symm hk)]
theorem vu(ks:List ByteArray)(ts:List V):List.Sublist ((ks.zip ts).map (·.1)) ks:=by
  induction ks generalizing ts with
  |nil=>exact List.Sublist.refl _
  |cons k ks ih=>cases ts with
    |nil=>exact List.nil_sublist _
    |cons t ts=>exact(ih ts).cons_cons k
theorem map_fst_zip'{ks:List ByteArray}{ts:List V}(h:ks.Nodup):((ks.zip ts).map (·.1)).Nodup:=h.sublist (vu ks ts)
theorem CG{own out:V}(ho:own.keys.Nodup)(hl:own.keys.length≤own.items.length)(h:out.keys.length≤out.items.length)(key:ByteArray):getV (gK own out) key=(getV own key).or (getV out key):=by
 rw [gK,Eo h (map_fst_zip' ho),←jt hl]
theorem nL{v:V}(hp:Pl v)(hk:v.kind=5):v.keys.Nodup:=uq (qT hp hk).2.2

noncomputable def copiedV(v o:V):V:=gK (normalV o) (normalV v)
def cpyL:List Nat:=[1,2,6,7,8,9,10,11,12,13,14,15,16,17,18,19,20,21,22,23,24,25,26,27,28,29,30,31,32,33,34,35,36,3]
def JB(f s:Flds):Flds:=fun i=>if i∈cpyL then(s i).or (f i)else f i
theorem Ep: ∀ i:Fin 37,i.1∈cpyL∨i.1=0∨i.1=4∨i.1=5:=by decide
theorem QI(key:ByteArray):cR key≠4∧cR key≠5:=by
 rcases kw_case (key:=key)with ⟨_,hm⟩|h0
 ·constructor<;>intro h<;>rw [h]at hm<;>revert hm<;>decide
 ·rw [h0];decide
theorem Er{U:Nat→V→Prop}{v:V}{i:Nat}{o:Option dZ}(h:FldRel U v i o)(hi:i=4∨i=5):o=none:=by
  cases o with
  |none=>rfl
  |some fv=>
    obtain⟨key,x,hk,_⟩:=h
    have:=QI key
    rcases hi with rfl|rfl
    · exact absurd hk this.1
    · exact absurd hk this.2
theorem pY{U:Nat→V→Prop}{own out:V}{i:Nat}{s f:Option dZ}(hget: ∀ key,getV (gK own out) key=(getV own key).or (getV out key))(hs:FldRel U own i s)(hf:FldRel U out i f):FldRel U (gK own out) i (s.or f):=by
  cases s with
  |some fv=>
    obtain⟨key,x,h1,h2,h3⟩:=hs
    exact⟨key,x,h1,by rw [hget,h2];rfl,h3⟩
  |none=>
    cases f with
    |none=>intro key hk;rw [hget,hs key hk,hf key hk];rfl
    |some fv=>
      obtain⟨key,x,h1,h2,h3⟩:=hf
      exact⟨key,x,h1,by rw [hget,hs key h1,h2];rfl,h3⟩
theorem HQ{U:Nat→V→Prop}{own out:V}{i:Nat}{s f:Flds}(h1:1≤i)(h2:i≤36)(hget: ∀ key,getV (gK own out) key=(getV own key).or (getV out key))(hs:FldRel U own i (s i))(hf:FldRel U out i (f i)):FldRel U (gK own out) i (JB f s i):=by
 unfold JB
 split
 ·exact pY hget hs hf
 ·rename_i hn
  have h45:i=4∨i=5:=by
   rcases Ep ⟨i,aC⟩with h|h|h
   ·exact absurd h hn
   ·simp only at h;omega
   ·exact h
  rw [Er hf h45]
  have:=pY hget hs hf
  rw [Er hf h45,Er hs h45]at this
  exact this
theorem R0(b s mb mb2:Nat)(cs cs2:List Value)(f f2:Flds):Ct Tryz.prog 74 #[ptr b,ptr s] [.blk b cs 124, .blk s cs2 124] [.flds mb cs f, .flds mb2 cs2 f2] (fun u M' D'=>u= .tuple #[]∧ ∃cs',M'=[.blk b cs' 124, .blk s cs2 124]∧D'=[.flds mb cs' (JB f f2)]):=by
 refine Ct.of_run (args:=[ptr b,ptr s]) Tryz.func74 aF Z Tryz.ntmps74 Z (fun c=>?_)
 refine xD (xE 4 1 111 aE aE aE aE db i5 d8 ef (fun cs41=>?_))
 refine xD (xE 16 2 111 aE aE aE aE db gZ d8 ef (fun cs42=>?_))
 refine xD (xE 28 6 113 aE aE aE aE iz lZ om oU (fun cs46=>?_))
 refine xD (xE 40 7 113 aE aE aE aE iz la om oU (fun cs47=>?_))
 refine xD (xE 52 8 112 aE aE aE aE ey lc iI mI (fun cs48=>?_))
 refine xD (xE 64 9 113 aE aE aE aE iz ld om oU (fun cs49=>?_))
 refine xD (xE 76 10 112 aE aE aE aE ey i6 iI mI (fun cs50=>?_))
 refine xD (xE 88 11 114 aE aE aE aE eW i7 en ez (fun cs51=>?_))
 refine xD (xE 100 12 114 aE aE aE aE eW i8 en ez (fun cs52=>?_))
 refine xD (xE 112 13 111 aE aE aE aE db jA d8 ef (fun cs53=>?_))
 refine xD (xE 124 14 115 aE aE aE aE oV jB z9 zr (fun cs54=>?_))
 refine xD (xE 136 15 116 aE aE aE aE C5 jC Is Ic (fun cs55=>?_))
 refine xD (xE 148 16 114 aE aE aE aE eW jD en ez (fun cs56=>?_))
 refine xD (xE 160 17 114 aE aE aE aE eW jE en ez (fun cs57=>?_))
 refine xD (xE 172 18 112 aE aE aE aE ey jF iI mI (fun cs58=>?_))
 refine xD (xE 184 19 114 aE aE aE aE eW jG en ez (fun cs59=>?_))
 refine xD (xE 196 20 114 aE aE aE aE eW jH en ez (fun cs60=>?_))
 refine xD (xE 208 21 117 aE aE aE aE mJ jI AA zt (fun cs61=>?_))
 refine xD (xE 220 22 115 aE aE aE aE oV jJ z9 zr (fun cs62=>?_))
 refine xD (xE 232 23 118 aE aE aE aE i0 jK oo oW (fun cs63=>?_))
 refine xD (xE 244 24 118 aE aE aE aE i0 jM oo oW (fun cs64=>?_))
 refine xD (xE 256 25 119 aE aE aE aE C9 jN It Id (fun cs65=>?_))
 refine xD (xE 268 26 120 aE aE aE aE DC jO Iu Ie (fun cs66=>?_))
 refine xD (xE 280 27 121 aE aE aE aE DF jQ Iv If (fun cs67=>?_))
 refine xD (xE 292 28 122 aE aE aE aE i4 jR mj oX (fun cs68=>?_))
 refine xD (xE 304 29 122 aE aE aE aE i4 jS mj oX (fun cs69=>?_))
 refine xD (xE 316 30 122 aE aE aE aE i4 jT mj oX (fun cs70=>?_))
 refine xD (xE 328 31 63 aE aE aE aE lN jU n8 Jo (fun cs71=>?_))
 refine xD (xE 340 32 118 aE aE aE aE i0 jV oo oW (fun cs72=>?_))
 refine xD (xE 352 33 111 aE aE aE aE db jX d8 ef (fun cs73=>?_))
 refine xD (xE 364 34 111 aE aE aE aE db jY d8 ef (fun cs74=>?_))
 refine xD (xE 376 35 102 aE aE aE aE dQ mK ui IZ (fun cs75=>?_))
 refine xD (xE 388 36 111 aE aE aE aE db jZ d8 ef (fun cs76=>?_))
 refine xE 400 3 111 aE aE aE aE db lY d8 ef (fun cs43=>?_)
 refine gH Tryz.results74 ⟨rfl,_,rfl,?_⟩ (List.Sublist.refl _) (D':=[.flds mb _ (cpyL.foldl (fun g q=>gI q g f2) f)]) (fun d hd=>by rw [List.mem_singleton.1 hd];exact List.mem_cons_self)
 rw [Ef cpyL aE f f2]
 rfl
def eM(v:V):Prop:=Pl v∧IsShape v
theorem Es:I9 eM:=⟨fun v h=>h.1,fun v h=>h.2,fun v h z hz=>⟨nH h.1 hz,gp h.1 h.2 hz⟩⟩
theorem yq{σ:o8}{v x:V}{b c i:Nat}{f:Flds}(hv:eM v)(hu:fi σ v b)(hf:σ b=some f)(hi:i∈er)(hc:c∈dd f i)(o:Option Flds)(hx:fi σ x c):fi (Kx σ b o) x c:=by
 obtain⟨mu,hmu⟩:=HO Es σ
 have hS:pX eM σ b:=⟨v,hv,hu⟩
 obtain⟨f',h1,_,h2⟩:=hmu b hS
 rw [hf]at h1
 injection h1 with h1
 subst h1
 obtain⟨h3,h4⟩:=h2 i hi c hc
 refine yp x c (fun d hd=>?_) hx
 obtain⟨_,h5⟩:=K2 (fun d hd=>(hmu d hd).elim fun f h=>⟨f,h.1,h.2.2⟩) hd h3
 refine yj (fun e=>?_) o
 subst e
 rcases h5 with h5|h5
 ·subst h5;exact Nat.lt_irrefl _ h4
 ·exact absurd (Nat.lt_trans h5 h4) (Nat.lt_irrefl _)
theorem nM{v o:V}(hv:eM v)(ho:eM o)(key:ByteArray):getV (copiedV v o) key=(getV (normalV o) key).or (getV (normalV v) key):=
 CG (nL (qW ho.2 ho.1) (sL o)) (qW ho.2 ho.1).wf.le (qW hv.2 hv.1).wf.le key
theorem yr{G1 R1 G2:Gr}{σ1:o8}{v o:V}{b c:Nat}{f f':Flds}(h1:GOk G1 σ1)(hR:GOk R1 (Kx σ1 b none))(hv:eM v)(ho:eM o)(hu:Unf G1 v b)(hf:σ1 b=some f)(hu2:Unf G2 o c)(hf': ∀ f2,G2.at c f2→f2=f')(cs:List Value):
  Unf ((b,cs,JB f f')::(R1++G2)) (copiedV v o) b:=by
 have hv2:eM (normalV v):=⟨qW hv.2 hv.1,yo v hv.2 hv.1⟩
 have hun:=nJ v b hv.1 hv.2 hu
 have hun2:=nJ o c ho.1 ho.2 hu2
 obtain⟨f1,ha,hU⟩:=(tO _ _ _).1 hun
 obtain rfl:f1=f:=by have:=(h1.2 b f1).1 ha;rw [hf]at this;injection this with this;exact this.symm
 obtain⟨f2,ha2,hU2⟩:=(tO _ _ _).1 hun2
 obtain rfl:=hf' f2 ha2
 refine(tO _ _ _).2 ⟨JB f1 f2,⟨cs,List.mem_cons_self⟩,fun i hi hj=>?_⟩
 refine HQ hi hj (nM hv ho) ?_ ?_
 ·exact(hU2 i hi hj).mono fun d x _ hx=>Unf.mono (fun g hg=>List.mem_cons_of_mem _ (List.mem_append_right _ hg)) x d hx
 ·refine ju hi hj (fun d x hik hd _ hx=>?_) (hU i hi hj)
  have:=yq hv2 ((nK h1 _ _).1 hun) hf hik hd none ((nK h1 _ _).1 hx)
  exact Unf.mono (fun g hg=>List.mem_cons_of_mem _ (List.mem_append_left _ hg)) x d ((nK hR _ _).2 this)
def QJ(k:ByteArray)(t:V)(bo nk n:Nat)(xk:List Value)(ts:List V)(u:Value)(M':List HA)(D':List DA):Prop:=
 u= .tuple #[]∧ ∃Ak ck A ca xs,M'=[.row Ak (nk+1) ck 9 1 (xk++[.string k]), .row A (n+1) ca 25 5 xs, .blk bo [.int .i64 5, .int .i64 0, .string ⟨#[]⟩, .slice Ak (nk+1) ck, .slice A (n+1) ca] 25]∧D'=[.its xs (ts++[t])]
def gL(key:ByteArray)(own:V)(done:Bool)(l:iA):iA:=if done then l.filter (fun q=> !decide (q.1=key))else cy key own l
def WAt(key:ByteArray)(own:V)(l:iA)(i:Nat)(done:Bool)(nk:Nat)(xk:List Value)(ts:List V):Prop:=
 i≤l.length∧ ∃acc:iA,nk=acc.length∧xk=acc.map (fun p=>Value.string p.1)∧ts=acc.map (fun p=>p.2)∧acc++gL key own done (l.drop i)=cy key own l∧acc.length≤i+1∧(done=false→acc.length≤i)
section
variable {key k:ByteArray} {own x:V} {l:iA} {i nk:Nat} {xk:List Value} {ts:List V}
theorem WAt.zero(key:ByteArray)(own:V)(l:iA):WAt key own l 0 false 0 [] []:=⟨Nat.zero_le _,[],rfl,rfl,rfl,rfl,Nat.zero_le _,fun _=>Nat.le_refl _⟩
theorem jv{l:iA}{i:Nat}{p:ByteArray×V}(h:l[i]? =some p):l.drop i=p::l.drop (i+1):=by
 obtain⟨hi,he⟩:=List.getElem?_eq_some_iff.1 h
 rw [←he,List.drop_eq_getElem_cons hi]
theorem vw{l:iA}{i:Nat}{p:ByteArray×V}(h:l[i]? =some p):i<l.length:=(List.getElem?_eq_some_iff.1 h).1
theorem Et{p:ByteArray×V}{r:iA}(h:p.1≠key):gL key own true (p::r)=p::gL key own true r:=by
 simp [gL,h]
theorem Eu{p:ByteArray×V}{r:iA}(h:p.1=key):gL key own true (p::r)=gL key own true r:=by
 simp [gL,h]
theorem Ev{p:ByteArray×V}{r:iA}(h:Op.bytesLess p.1.toList key.toList=false):gL key own false (p::r)=(key,own)::gL key own true (p::r):=by
 show cy key own (p::r)=_
 rw [cy,if_pos h];rfl
theorem K3{p:ByteArray×V}{r:iA}(h: ¬ Op.bytesLess p.1.toList key.toList=false):gL key own false (p::r)=p::gL key own false r:=by
 show cy key own (p::r)=_
 rw [cy,if_neg h];rfl
theorem WAt.s1(h:WAt key own l i true nk xk ts)(hp:l[i]? =some (k,x))(hk:k≠key):WAt key own l (i+1) true (nk+1) (xk++[.string k]) (ts++[x]):=by
 obtain⟨h0,acc,h1,h2,h3,h4,h5⟩:=h
 rw [jv hp,Et hk]at h4
 exact⟨vw hp,acc++[(k,x)],by simp [h1],by simp [h2],by simp [h3],by rw [←h4];simp,by simp;omega,fun h=>by cases h⟩
theorem WAt.s2(h:WAt key own l i true nk xk ts)(hp:l[i]? =some (k,x))(hk:k=key):WAt key own l (i+1) true nk xk ts:=by
 obtain⟨h0,acc,h1,h2,h3,h4,h5⟩:=h
 rw [jv hp,Eu hk]at h4
 exact⟨vw hp,acc,h1,h2,h3,h4,aC,fun h=>by cases h⟩
theorem WAt.len{done:Bool}(h:WAt key own l i done nk xk ts):nk≤i+1:=by
 obtain⟨h0,acc,h1,h2,h3,h4,h5⟩:=h
 omega
theorem WAt.s3(h:WAt key own l i false nk xk ts)(hp:l[i]? =some (k,x))(hl:Op.bytesLess k.toList key.toList=false)(hk:k≠key):WAt key own l (i+1) true (nk+1+1) (xk++[.string key]++[.string k]) (ts++[own]++[x]):=by
 obtain⟨h0,acc,h1,h2,h3,h4,h5,h6⟩:=h
 rw [jv hp,Ev hl,Et hk]at h4
 have:=h6 rfl
 exact⟨vw hp,acc++[(key,own)]++[(k,x)],by simp [h1],by simp [h2],by simp [h3],by rw [←h4];simp,by simp;omega,fun h=>by cases h⟩
theorem WAt.s4(h:WAt key own l i false nk xk ts)(hp:l[i]? =some (k,x))(hl:Op.bytesLess k.toList key.toList=false)(hk:k=key):WAt key own l (i+1) true (nk+1) (xk++[.string key]) (ts++[own]):=by
 obtain⟨h0,acc,h1,h2,h3,h4,h5,h6⟩:=h
 rw [jv hp,Ev hl,Eu hk]at h4
 have:=h6 rfl
 exact⟨vw hp,acc++[(key,own)],by simp [h1],by simp [h2],by simp [h3],by rw [←h4];simp,by simp;omega,fun h=>by cases h⟩
theorem WAt.s5(h:WAt key own l i false nk xk ts)(hp:l[i]? =some (k,x))(hl: ¬ Op.bytesLess k.toList key.toList=false):WAt key own l (i+1) false (nk+1) (xk++[.string k]) (ts++[x]):=by
 obtain⟨h0,acc,h1,h2,h3,h4,h5,h6⟩:=h
 rw [jv hp,K3 hl]at h4
 have:=h6 rfl
 exact⟨vw hp,acc++[(k,x)],by simp [h1],by simp [h2],by simp [h3],by rw [←h4];simp,by simp;omega,fun _=>by simp;omega⟩
theorem WAt.endT(h:WAt key own l l.length true nk xk ts):nk=((cy key own l).map (fun p=>p.2)).length∧xk=(cy key own l).map (fun p=>Value.string p.1)∧ts=(cy key own l).map (fun p=>p.2):=by
 obtain⟨h0,acc,h1,h2,h3,h4,h5,h6⟩:=h
 rw [List.drop_length]at h4
 have e:acc=cy key own l:=by rw [←h4];exact(List.append_nil acc).symm
 subst e
 exact⟨by rw [List.length_map];exact h1,h2,h3⟩
theorem WAt.endF(h:WAt key own l l.length false nk xk ts):nk+1=((cy key own l).map (fun p=>p.2)).length∧xk++[.string key]=(cy key own l).map (fun p=>Value.string p.1)∧ts++[own]=(cy key own l).map (fun p=>p.2):=by
 obtain⟨h0,acc,h1,h2,h3,h4,h5,h6⟩:=h
 rw [List.drop_length]at h4
 have e:acc++[(key,own)]=cy key own l:=h4
 rw [←e]
 exact⟨by simp [h1],by simp [h2],by simp [h3]⟩
theorem nN{own:V}(hk:key.size≤maxLen)(hl: ∀ p∈l,p.1.size≤maxLen): ∀ s∈(cy key own l).map (fun p=>p.1),s.size≤maxLen:=by
 intro s hs
 obtain⟨p,hp,rfl⟩:=List.mem_map.1 hs
 rcases Ek hp with e|e
 ·rw [e];exact hk
 ·exact hl p e
end

theorem Ex(k:ByteArray)(x:Value)(t:V)(bo:Nat)(Ak A:Option Addr)(nk ck n ca:Nat)(xk xs:List Value)(ts:List V)(h1:nk≤2000000)(h2:n≤2000000):Ct Tryz.prog 109 #[.string k,x,ptr bo] [.row Ak nk ck 9 1 xk, .row A n ca 25 5 xs, .blk bo [.int .i64 5, .int .i64 0, .string ⟨#[]⟩, .slice Ak nk ck, .slice A n ca] 25] [.val x t, .its xs ts] (QJ k t bo nk n xk ts):=by
 refine Ct.of_run (args:=[.string k,x,ptr bo]) Tryz.func109 aF Z Tryz.ntmps109 Z (fun c=>?_)
 refine yN 0 Z (fun A1 c1 A2 c2 hx hsz hk1 hk2 hi1 hi2=>?_)
 subst hx
 refine rO 3 Z (yK Z Z Z (fun b4=>?_))
 refine oO 4 Z (zC xM Z Z ?_)
 refine zA (zF 3 dV Z Z Z Z ?_)
 refine oO 3 Z (zM cV Z Z Z Z Z (fun b8=>?_))
 refine zA ?_
 refine cW 2 0 cV (fun A9 c9=>?_)
 refine zA (zC xM Z Z ?_)
 refine zA (zG 4 (M':=[_,_,_,_,HA.blk _ [_,_,_,_,_] _]) Z Z Z Z iy Z Z Z ?_)
 refine yO (yW yM ?_)
 refine zO (tP 0 Z cF (zZ yX Z) ?_)
 refine yF (tM 1 Z cF (yT 4 c7 Z Z Z) ?_)
 refine tM 2 Z cF (vD 1 Z cM Z) (tM 3 Z cF (mF cX Z) ?_)
 refine zS 4 aD ?_
 refine zT (I2:=[[3,2,1],[0],[]]) Z cF aD (fun Kd hKd=>?_)
 refine zM cX Z Z Z Z Z (fun b15=>?_)
 refine hKd _ _ _ (hC (hC (zE (zU)))) (zS 5 aD ?_)
 refine zT (I2:=[[],[],[]]) Z cF aD (fun Kd hKd=>?_)
 refine cW 4 0 cX (fun A16 c16=>?_)
 refine hKd _ _ _ (zE (zE (zE (zU)))) (zO ?_)
 refine tP 8 Z cF (zZ yX Z) (fp (zB 4 Z (zQ _)) ?_)
 refine uU (zB 4 Z (zQ _)) 6 (xL _ _ _ _) Z cF aD aD aD Z (yi 0 cX Z Z Z aC) (tN (rs:=[7,9]) aD aJ ?_)
 intro j hj
 simp only [List.mem_cons,List.not_mem_nil,or_false]at hj
 rcases hj with rfl|rfl
 ·refine zT (I2:=[[],[8],[],[],[]]) Z cF aD (fun Kd hKd=>?_)
  refine lE 4 Z Z Z Z Z Z co Z (hKd _ _ _ (zE (hC (zE (zE (zE (zU)))))) ?_)
  refine zS 9 aD ?_
  refine zT (I2:=[[],[],[],[],[]]) Z cF aD (fun Kd hKd=>?_)
  refine zG 5 (M':=[_,_,_,_,_,HA.blk _ [_,_,_,_,_] _]) Z Z Z Z lM Z Z Z (hKd _ _ _ (zE (zE (zE (zE (zE (zU)))))) ?_)
  refine yJ aD (rK 0 [] Z Z ?_)
  refine vV 3 2 Z Z Z ?_
  exact gH Tryz.results109 ⟨rfl,_,_,_,_,_,rfl,rfl⟩ al (cO 0 Z)
 refine zT (I2:=[[6],[],[],[],[]]) Z cF aD (fun Kd hKd=>?_)
 refine zG 5 (M':=[_,_,_,_,_,HA.blk _ [_,_,_,_,_] _]) Z Z Z Z lM Z Z Z ?_
 refine hKd _ _ _ (wU sK sQ (zE (zE (zE (zE (zU)))))) ?_
 refine zS 7 aD ?_
 refine zT (I2:=[[],[],[],[],[]]) Z cF aD (fun Kd hKd=>?_)
 refine lE 4 Z Z Z Z Z Z co Z (hKd _ _ _ (zE (zE (zE (zE (zE (zU)))))) ?_)
 refine yJ aD (rK 0 [] Z Z ?_)
 refine vV 3 2 Z Z Z ?_
 exact gH Tryz.results109 ⟨rfl,_,_,_,_,_,rfl,rfl⟩ al (cO 0 Z)
theorem R3(v own:V)(key:ByteArray)(x y:Value)(hkl:v.keys.length≤1000000)(hl:v.keys.length≤v.items.length)(hks:key.size≤maxLen):CtR Tryz.prog 64 #[x, .string key,y] [.val x v, .val y own] (RV (eQ v key own)):=by
 refine Ct.of_run (args:=[x, .string key,y]) Tryz.func64 aF Z Tryz.ntmps64 Z (fun c=>?_)
 refine yN 0 Z (fun A1 c1 A2 c2 hx hsz1 hk1 hk2 hi1 hi2=>?_)
 subst hx
 refine yN 3 Z (fun A3 c3 A4 c4 hx hsz3 hk3 hk4 hi3 hi4=>?_)
 subst hx
 refine sV 2 Z (fun hksz=>?_)
 have hzl:(v.keys.zip v.items).length=v.keys.length:=by rw [List.length_zip];omega
 refine rO 3 Z (yK Z Z Z (fun b3=>?_))
 refine zA (yK Z Z Z (fun b5=>?_))
 refine zA (yA dE Z (fun b6=>?_))
 change cG _ _ _ _ _ _ _ _ (HA.blk _ [_,_,_,_,_] _::_) _
 refine oO 4 Z (yV Z Z (qp ..) ?_)
 refine zA (yA dE Z (fun b7=>?_))
 change cG _ _ _ _ _ _ _ _ (HA.blk _ [_,_,_,_,_] _::_) _
 refine zA (zG 0 (M':=[HA.blk _ [_,_,_,_,_] _,_,_,_]) Z Z Z Z co Z Z Z ?_)
 refine oO 6 Z (qM Z Z Z ?_)
 refine oO 7 Z (zC xM Z Z ?_)
 refine zA (zF 3 dV Z Z Z Z ?_)
 refine zA (zX cV Z Z ?_)
 refine oK 3 [17,16,15,9,8,7,6,5,3,1] Z Z (rK 1 [17,8,16,15,9,7,6,5,3,1] Z Z ?_)
 refine wT 25 5 (wT 9 1 ?_)
 refine f6 (yB 2 (fun(⟨i,done,nk,Ak,ck,xk,A,ca,xs,ts⟩:Nat×Bool×Nat×Option Addr×Nat×List Value×Option Addr×Nat×List Value×List V)=>WAt key own (v.keys.zip v.items) i done nk xk ts) (fun(⟨i,done,nk,Ak,ck,xk,A,ca,xs,ts⟩:Nat×Bool×Nat×Option Addr×Nat×List Value×Option Addr×Nat×List Value×List V)=>[(17, .int .i64 ((i:Nat):Int)),(8, .bool done)]) (fun(⟨i,done,nk,Ak,ck,xk,A,ca,xs,ts⟩:Nat×Bool×Nat×Option Addr×Nat×List Value×Option Addr×Nat×List Value×List V)=>HA.row Ak nk ck 9 1 xk::HA.row A nk ca 25 5 xs::HA.blk b7 [.int .i64 5, .int .i64 0, .string ⟨#[]⟩, .slice Ak nk ck, .slice A nk ca] 25::HA.blk b6 [.int .i64 0, .int .i64 0, .string ⟨#[]⟩, .slice none 0 0, .slice none 0 0] 25::HA.blk b5 [.int .i64 own.kind, .int .i64 own.num, .string own.text, .slice A3 own.keys.length c3, .slice A4 own.items.length c4] 25::HA.blk b3 [.int .i64 v.kind, .int .i64 v.num, .string v.text, .slice A1 v.keys.length c1, .slice A2 v.items.length c2] 25::[]) (fun(⟨i,done,nk,Ak,ck,xk,A,ca,xs,ts⟩:Nat×Bool×Nat×Option Addr×Nat×List Value×Option Addr×Nat×List Value×List V)=> .its xs ts:: .strs (.slice A3 own.keys.length c3) own.keys:: .vals (.slice A4 own.items.length c4) own.items:: .strs (.slice A1 v.keys.length c1) v.keys:: .vals (.slice A2 v.items.length c2) v.items:: .val (.agg #[.int .i64 v.kind, .int .i64 v.num, .string v.text, .slice A1 v.keys.length c1, .slice A2 v.items.length c2]) v:: .val (.agg #[.int .i64 own.kind, .int .i64 own.num, .string own.text, .slice A3 own.keys.length c3, .slice A4 own.items.length c4]) own::[]) (fun(⟨i,done,nk,Ak,ck,xk,A,ca,xs,ts⟩:Nat×Bool×Nat×Option Addr×Nat×List Value×Option Addr×Nat×List Value×List V)=>v.keys.length - i) (0,false,0,none,0,[],none,0,[],[]) (WAt.zero _ _ _) (eC Z (eC Z (eN _))) Z Z ?_ (eC Z (eC Z (eC Z (eC Z (eC Z (eC Z (eC Z (eC Z (eN _))))))))))
 intro ⟨i,done,nk,Ak,ck,xk,A,ca,xs,ts⟩ hI K hK
 replace hI:WAt key own (v.keys.zip v.items) i done nk xk ts:=hI
 change Run _ _ _ _ _ [(17,_),(8,_),(16,_),(15,_),(9,_),(7,_),(6,_),(5,_),(3,_),(1,_)] [_,_,_,_,_,_] [_,_,_,_,_,_,_]
 replace hI:WAt key own (v.keys.zip v.items) i done nk xk ts:=hI
 have hi:i≤v.keys.length:=hzl▸hI.1
 refine rO 3 Z (yL Z Z Z ?_)
 refine oR 2 Z (zI Z (fun h18=>?_) (fun h18=>?_))
 ·refine rO 8 Z (xS 3 cV Z Z Z Z h18 ?_)
  have hlt:i<v.items.length:=by omega
  have hp:(v.keys.zip v.items)[i]? =some (v.keys[i],v.items[i]):=by rw [List.getElem?_zip_eq_some];exact⟨List.getElem?_eq_getElem h18,List.getElem?_eq_getElem hlt⟩
  have hlen:=hI.len
  refine zA (yR dO Z Z (fun _ h=>xO h (j:=3) Z (List.getElem?_eq_getElem h18)) ?_)
  refine oK 5 [11,10,17,8,16,15,9,7,6,5,3,1] Z Z (rS 9 Z ?_)
  refine zY (s:=24) Z (fun h24=>?_) (fun h24=>?_)
  ·have hdf:done=false:=by simpa using h24
   subst hdf
   refine oO 5 Z (F1 Z Z Z ?_)
   refine oK 3 [28,11,10,17,8,16,15,9,7,6,5,3,1] Z Z (yC Z (fun h28=>?_) (fun h28=>?_))
   ·refine rO 7 Z (zK 4 Z cM Z Z ?_)
    refine zA ?_
    refine tB (M1:=[_,_,_]) (M2:=_) Z Z Z (Ex key _ own b7 _ _ _ _ _ _ _ _ _ aC aC) Z (dP 6 0 Z Z) (fun u32 M32 D32 hv32=>?_)
    obtain⟨rfl,Ak32,ck32,A32,ca32,xs32,rfl,rfl⟩:=hv32
    refine oK 1 [11,10,17,16,15,9,7,6,5,3,1] Z Z (rO 11 Z ?_)
    refine iq Z Z Z (oK 1 [35,8,11,10,17,16,15,9,7,6,5,3,1] Z Z ?_)
    refine zI Z (fun h35=>?_) (fun h35=>?_)
    ·refine rO 6 Z (zC yX Z Z ?_)
     refine zA (zF 5 c7 Z Z Z Z ?_)
     refine oO 3 Z (xC 5 cX Z Z Z Z hlt ?_)
     refine zA (xB 5 cM Z Z Z (List.getElem?_eq_getElem hlt) (fun A42 c42 B42 d42=>?_))
     refine zA ?_
     refine tB (M1:=[_,_,_]) (M2:=_) Z Z Z (Ex _ _ (v.items[i]'hlt) b7 _ _ _ _ _ _ _ _ _ aC aC) Z (dP 0 1 Z Z) (fun u43 M43 D43 hv43=>?_)
     obtain⟨rfl,Ak43,ck43,A43,ca43,xs43,rfl,rfl⟩:=hv43
     refine oK 1 [8,17,16,15,9,7,6,5,3,1] Z Z (rO 3 Z ?_)
     refine zN Z Z aC (oR 3 Z ?_)
     exact kQ (hK (i+1,true,_,_,_,_,_,_,_,_) (hI.s3 hp (by simpa using h28) bm) av) (eC Z (eC Z (eC Z (eC Z (eC Z (eC Z (eC Z (eC Z (eC Z (eC Z (eN _))))))))))) (hD:=(cd 0 Z sQ))
    refine rO 4 Z (zN Z Z aC ?_)
    refine oR 3 Z ?_
    exact kQ (hK (i+1,true,_,_,_,_,_,_,_,_) (hI.s4 hp (by simpa using h28) bm) av) (eC Z (eC Z (eC Z (eC Z (eC Z (eC Z (eC Z (eC Z (eC Z (eC Z (eN _))))))))))) (hD:=(cd 0 Z sQ))
   refine rO 8 Z (iq Z Z Z ?_)
   refine oK 1 [35,11,10,17,8,16,15,9,7,6,5,3,1] Z Z (zI Z (fun h35=>?_) (fun h35=>?_))
   ·refine rO 6 Z (zC yX Z Z ?_)
    refine zA (zF 5 c7 Z Z Z Z ?_)
    refine oO 3 Z (xC 4 cX Z Z Z Z hlt ?_)
    refine zA (xB 4 cM Z Z Z (List.getElem?_eq_getElem hlt) (fun A42 c42 B42 d42=>?_))
    refine zA ?_
    refine tB (M1:=[_,_,_]) (M2:=_) Z Z Z (Ex _ _ (v.items[i]'hlt) b7 _ _ _ _ _ _ _ _ _ aC aC) Z (dP 0 1 Z Z) (fun u43 M43 D43 hv43=>?_)
    obtain⟨rfl,Ak43,ck43,A43,ca43,xs43,rfl,rfl⟩:=hv43
    refine oK 1 [17,8,16,15,9,7,6,5,3,1] Z Z (rO 3 Z ?_)
    refine zN Z Z aC (oR 3 Z ?_)
    exact kQ (hK (i+1,false,_,_,_,_,_,_,_,_) (hI.s5 hp (by simpa using h28)) av) (eC Z (eC Z (eC Z (eC Z (eC Z (eC Z (eC Z (eC Z (eC Z (eC Z (eN _))))))))))) (hD:=(cd 0 Z sQ))
   refine rO 4 Z (zN Z Z aC ?_)
   refine oR 3 Z ?_
   exact kQ (hK (i+1,false,_,_,_,_,_,_,_,_) (absurd (by rw [show v.keys[i]=key from by simpa using h35];exact Ei key) (by simpa using h28: ¬ Op.bytesLess v.keys[i].toList key.toList=false)) av) (eC Z (eC Z (eC Z (eC Z (eC Z (eC Z (eC Z (eC Z (eC Z (eC Z (eN _))))))))))) (hD:=(cd 0 Z sQ))
  have hdf:done=true:=by simpa using h24
  subst hdf
  refine oK 6 [28,11,10,17,8,16,15,9,7,6,5,3,1] Z Z (rO 9 Z ?_)
  refine iq Z Z Z (oK 1 [35,11,10,17,8,16,15,9,7,6,5,3,1] Z Z ?_)
  refine zI Z (fun h35=>?_) (fun h35=>?_)
  ·refine rO 6 Z (zC yX Z Z ?_)
   refine zA (zF 5 c7 Z Z Z Z ?_)
   refine oO 3 Z (xC 4 cX Z Z Z Z hlt ?_)
   refine zA (xB 4 cM Z Z Z (List.getElem?_eq_getElem hlt) (fun A42 c42 B42 d42=>?_))
   refine zA ?_
   refine tB (M1:=[_,_,_]) (M2:=_) Z Z Z (Ex _ _ (v.items[i]'hlt) b7 _ _ _ _ _ _ _ _ _ aC aC) Z (dP 0 1 Z Z) (fun u43 M43 D43 hv43=>?_)
   obtain⟨rfl,Ak43,ck43,A43,ca43,xs43,rfl,rfl⟩:=hv43
   refine oK 1 [17,8,16,15,9,7,6,5,3,1] Z Z (rO 3 Z ?_)
   refine zN Z Z aC (oR 3 Z ?_)
   exact kQ (hK (i+1,true,_,_,_,_,_,_,_,_) (hI.s1 hp bm) av) (eC Z (eC Z (eC Z (eC Z (eC Z (eC Z (eC Z (eC Z (eC Z (eC Z (eN _))))))))))) (hD:=(cd 0 Z sQ))
  refine rO 4 Z (zN Z Z aC ?_)
  refine oR 3 Z ?_
  exact kQ (hK (i+1,true,_,_,_,_,_,_,_,_) (hI.s2 hp bm) av) (eC Z (eC Z (eC Z (eC Z (eC Z (eC Z (eC Z (eC Z (eC Z (eC Z (eN _))))))))))) (hD:=(cd 0 Z sQ))
 obtain rfl:i=v.keys.length:=by omega
 have hlen:=hI.len
 refine rR 9 Z (yC Z (fun h46=>?_) (fun h46=>?_))
 ·refine rO 6 Z (zK 4 Z cM Z Z ?_)
  refine zA ?_
  refine tB (M1:=[_,_,_]) (M2:=_) Z Z Z (Ex key _ own b7 _ _ _ _ _ _ _ _ _ aC aC) Z (dP 6 0 Z Z) (fun u50 M50 D50 hv50=>?_)
  obtain⟨rfl,Ak50,ck50,A50,ca50,xs50,rfl,rfl⟩:=hv50
  refine oK 1 [7,6] Z Z (rO 3 Z ?_)
  refine zK 2 Z cM Z Z (zA ?_)
  refine zG 3 (M':=[_,_,_,HA.blk _ [_,_,_,_,_] _,_,_]) Z Z Z Z co Z Z Z (yO ?_)
  have hdf:done=false:=by simpa using h46
  subst hdf
  rw [←hzl]at hI
  obtain⟨e1,e2,e3⟩:=hI.endF
  refine uC 0 ((cy key own (v.keys.zip v.items)).map (fun p=>p.1)) Z aG (by rw [e2,List.map_map];rfl) (nN hks (fun p hp=>hksz _ (List.of_mem_zip hp).1)) (sX 0 1 ((cy key own (v.keys.zip v.items)).map (fun p=>p.2)) Z (by rw [←e3];rfl) aG e1 ?_)
  refine vP (q:=5) (m:=0) (s:=⟨#[]⟩) 1 0 Z Z aE ?_
  exact vM 1 Tryz.results64 Z Z cM ⟨rfl,_,_,_,_,by show _=Value.agg #[.int .i64 5, .int .i64 0, .string ⟨#[]⟩, .slice _ ((cy key own (v.keys.zip v.items)).map (fun p=>p.1)).length _, .slice _ ((cy key own (v.keys.zip v.items)).map (fun p=>p.2)).length _];rw [←e1,show((cy key own (v.keys.zip v.items)).map (fun p=>p.1)).length=((cy key own (v.keys.zip v.items)).map (fun p=>p.2)).length by simp,←e1],rfl⟩ nS (cO 0 Z)
 refine rO 4 Z (zK 2 Z cM Z Z ?_)
 refine zA (zG 3 (M':=[_,_,_,HA.blk _ [_,_,_,_,_] _,_,_]) Z Z Z Z co Z Z Z ?_)
 refine oK 1 [6] Z Z ?_
 have hdf:done=true:=by simpa using h46
 subst hdf
 rw [←hzl]at hI
 obtain⟨e1,e2,e3⟩:=hI.endT
 refine uC 0 ((cy key own (v.keys.zip v.items)).map (fun p=>p.1)) Z aG (by rw [e2,List.map_map];rfl) (nN hks (fun p hp=>hksz _ (List.of_mem_zip hp).1)) (sX 0 1 ((cy key own (v.keys.zip v.items)).map (fun p=>p.2)) Z (by rw [←e3];rfl) aG e1 ?_)
 refine vP (q:=5) (m:=0) (s:=⟨#[]⟩) 1 0 Z Z aE ?_
 exact vM 1 Tryz.results64 Z Z cM ⟨rfl,_,_,_,_,by show _=Value.agg #[.int .i64 5, .int .i64 0, .string ⟨#[]⟩, .slice _ ((cy key own (v.keys.zip v.items)).map (fun p=>p.1)).length _, .slice _ ((cy key own (v.keys.zip v.items)).map (fun p=>p.2)).length _];rw [←e1,show((cy key own (v.keys.zip v.items)).map (fun p=>p.1)).length=((cy key own (v.keys.zip v.items)).map (fun p=>p.2)).length by simp,←e1],rfl⟩ nS (cO 0 Z)
theorem Ey{l:iA}{out:V}(h:out.keys.length≤out.items.length):(eR l out).keys.length≤out.keys.length+l.length:=by
  induction l generalizing out with
  |nil=>exact Nat.le_refl _
  |cons p l ih=>
    have h1:=ih (out:=eQ out p.1 p.2) (r9 _ _ _)
    have h2:(eQ out p.1 p.2).keys.length≤out.keys.length+1:=by
      have h3:=El p.1 p.2 (out.keys.zip out.items)
      rw [List.length_zip]at h3
      have e:(eQ out p.1 p.2).keys=(cy p.1 p.2 (out.keys.zip out.items)).map (·.1):=rfl
      rw [e,List.length_map]
      omega
    show(eR l (eQ out p.1 p.2)).keys.length≤_
    simp only [List.length_cons]
    omega
theorem CH{l:iA}{out:V}{i:Nat}{p:ByteArray×V}(h:l[i]? =some p):eQ (eR (l.take i) out) p.1 p.2=eR (l.take (i+1)) out:=by
 unfold eR
 rw [List.take_add_one,h,List.foldl_append]
 rfl
section rules
variable {P:Program} {n:Nat} {F:List Nat} {c:Ctx F} {ops:Array Oper} {d:Nat} {T:TypeId} {l:List Oper} {k:List KI} {Q:cu} {e:dF} {M:List HA} {D:List DA}
theorem Ez(i:Nat){G:Gr}(mb:Nat)(hi:M[i]? =some (.many 124 (Gr.blks G)))(hG: ∀ (w:World) (ok:Nat→Prop),(∀ d∈D,d.p w ok)→ ∀ g∈G,∃m,CellsP w ok m g.2.1 g.2.2)(hF:F=[])(next:cG P n c ops l k Q e (M.eraseIdx i) (.gr mb G::D)):cG P n c ops l k Q e M D:=
  fC (h:= .many 124 (Gr.blks G)) [.gr mb G] (fun x _ h=>by rw [hF]at h;cases h) (wQ hi) (fun w ok h hok hD d hd=>by
    rcases List.mem_singleton.1 hd with rfl
    intro g hg
    have hm:(g.1,g.2.1)∈Gr.blks G:=List.mem_map.2 ⟨g,hg,rfl⟩
    refine⟨⟨hok _ ?_,h _ hm⟩,hG w ok hD g hg⟩
    simp only [HA.foot,List.mem_map]
    exact⟨_,hm,rfl⟩) next
end rules
theorem K4{G1 G2 R1 R2:Gr}{b1 b2:Nat}{cs1 cs2:List Value}{f1 f2:Flds}{O1 O2:HA}{X:List HA}(h1:G1.Perm ((b1,cs1,f1)::R1))(h2:G2.Perm ((b2,cs2,f2)::R2)):
  HE (.many 124 (Gr.blks G2)::O2:: .many 124 (Gr.blks G1)::O1::X) ([.blk b1 cs1 124, .blk b2 cs2 124]++(.many 124 (Gr.blks R1):: .many 124 (Gr.blks R2)::O2::O1::X)):=by
 have e1:HE (.many 124 (Gr.blks G2)::O2:: .many 124 (Gr.blks G1)::O1::X) ([.many 124 (Gr.blks G1)]++([.many 124 (Gr.blks G2)]++(O2::O1::X))):=HE.perm (by
  refine .trans ?_ (List.Perm.swap _ _ _)
  exact .cons _ (List.Perm.swap _ _ _))
 refine e1.trans ((HE.append (vp h1) (HE.append (vp h2) (HE.refl _))).trans (HE.perm ?_))
 exact .cons _ (List.Perm.swap _ _ _)
theorem E0{R1 R2:Gr}{b1 b2:Nat}{cs1 cs2:List Value}{f1 f2:Flds}{X:List HA}:
  HE ([.blk b1 cs1 124, .blk b2 cs2 124]++(.many 124 (Gr.blks R1):: .many 124 (Gr.blks R2)::X)) (.many 124 (Gr.blks ((b1,cs1,f1)::(R1++(b2,cs2,f2)::R2)))::X):=by
 have ha: ∀ gs gs':List (Nat×List Value),HE [.many 124 (gs++gs')] [.many 124 gs, .many 124 gs']:=fun gs gs'=>⟨fun w=>by
  constructor
  ·intro a x hx
   have h1:(HA.many 124 (gs++gs')).holds w:=a _ List.mem_cons_self
   simp only [List.mem_cons,List.not_mem_nil,or_false]at hx
   rcases hx with rfl|rfl
   ·exact fun g hg=>h1 g (List.mem_append_left _ hg)
   ·exact fun g hg=>h1 g (List.mem_append_right _ hg)
  ·intro a x hx
   rcases List.mem_singleton.1 hx with rfl
   intro g hg
   rcases List.mem_append.1 hg with hg|hg
   ·exact(a _ List.mem_cons_self:(HA.many 124 gs).holds w) g hg
   ·exact(a _ (List.mem_cons_of_mem _ List.mem_cons_self):(HA.many 124 gs').holds w) g hg,by simp [cP,HA.foot]⟩
 have e0:Gr.blks ((b1,cs1,f1)::(R1++(b2,cs2,f2)::R2))=(b1,cs1)::(Gr.blks R1++((b2,cs2)::Gr.blks R2)):=by simp [Gr.blks]
 rw [e0]
 refine HE.symm ?_
 have h1:HE ([.many 124 ((b1,cs1)::(Gr.blks R1++((b2,cs2)::Gr.blks R2)))]++X) (([.blk b1 cs1 124]++([.many 124 (Gr.blks R1)]++([.blk b2 cs2 124]++[.many 124 (Gr.blks R2)])))++X):=
  HE.append ((nF 124 b1 cs1 _).trans (HE.append (HE.refl [.blk b1 cs1 124]) ((ha _ _).trans (HE.append (HE.refl [.many 124 (Gr.blks R1)]) (nF 124 b2 cs2 _))))) (HE.refl X)
 exact h1.trans (HE.perm (.cons _ (List.Perm.swap _ _ _)))

theorem R4(v o:V)(x y:Value)(hv:eM v)(ho:eM o):CtR Tryz.prog 37 #[x,y] [.val x v, .val y o] (RV (copiedV v o)):=by
 refine Ct.of_run (args:=[x,y]) Tryz.func37 aF Z Tryz.ntmps37 Z (fun c=>?_)
 refine yN 0 Z (fun A1 c1 A2 c2 hx hsz1 hk1 hk2 hi1 hi2=>?_)
 subst hx
 refine yN 3 Z (fun A3 c3 A4 c4 hx hsz3 hk3 hk4 hi3 hi4=>?_)
 subst hx
 obtain⟨nv,hnv⟩: ∃nv,nv=normalV v:=⟨_,rfl⟩
 obtain⟨no,hno⟩: ∃no,no=normalV o:=⟨_,rfl⟩
 have hpv:Pl nv:=hnv▸qW hv.2 hv.1
 have hpo:Pl no:=hno▸qW ho.2 ho.1
 have hkv:=hpv.wf.kl
 have hko:=hpo.wf.kl
 have h60v:=hpv.len
 have h60o:=hpo.len
 have hlv:=hpv.wf.le
 have hlo:=hpo.wf.le
 refine rO 3 Z (yK Z Z Z (fun b2=>?_))
 refine zA (yK Z Z Z (fun b3=>?_))
 refine zA (yA dE Z (fun b4=>?_))
 change cG _ _ _ _ _ _ _ _ (HA.blk _ [_,_,_,_,_] _::_) _
 refine oO 4 Z (zK 2 Z cM Z Z ?_)
 refine zA ?_
 refine yE Z Z Z (c22 v hv.1.wf _) aA (fun u9 D9 hv9=>?_)
 rw [←hnv]at hv9
 obtain⟨A9,m9,B9,d9,rfl,rfl⟩:=hv9
 refine zA (yA dE Z (fun b5=>?_))
 change cG _ _ _ _ _ _ _ _ (HA.blk _ [_,_,_,_,_] _::_) _
 refine zA (zG 0 (M':=[HA.blk _ [_,_,_,_,_] _,_,_,_]) Z Z Z Z co Z Z Z ?_)
 refine oO 4 Z (zK 2 Z cM Z Z ?_)
 refine zA ?_
 refine yE Z Z Z (c22 o ho.1.wf _) aA (fun u11 D11 hv11=>?_)
 rw [←hno]at hv11
 obtain⟨A11,m11,B11,d11,rfl,rfl⟩:=hv11
 refine zA (zG 2 (M':=[_,_,HA.blk _ [_,_,_,_,_] _,_]) Z Z Z Z co Z Z Z ?_)
 refine oO 5 Z (zC xM Z Z ?_)
 refine zA (zF 2 dV Z Z Z Z ?_)
 refine zA (zX cV Z Z ?_)
 refine oK 4 [15,14,13,5,4,3] Z Z (yN 0 Z (fun A5 c5 A6 c6 hx hsz5 hk5 hk6 hi5 hi6=>?_))
 cases hx
 refine sV 0 Z (fun hksz=>?_)
 refine tR (D':= .val (.agg #[.int .i64 nv.kind, .int .i64 nv.num, .string nv.text, .slice A9 nv.keys.length m9, .slice B9 nv.items.length d9]) nv:: .strs (.slice A11 no.keys.length m11) no.keys:: .vals (.slice B11 no.items.length d11) no.items:: .val (.agg #[.int .i64 no.kind, .int .i64 no.num, .string no.text, .slice A11 no.keys.length m11, .slice B11 no.items.length d11]) no::[]) aT ?_
 refine yB 1 (fun(⟨i,Ew,ew,Fw,fw⟩:Nat×Option Addr×Nat×Option Addr×Nat)=>i≤no.keys.length) (fun(⟨i,Ew,ew,Fw,fw⟩:Nat×Option Addr×Nat×Option Addr×Nat)=>[(15, .int .i64 ((i:Nat):Int))]) (fun(⟨i,Ew,ew,Fw,fw⟩:Nat×Option Addr×Nat×Option Addr×Nat)=>HA.blk b5 [.int .i64 (eR ((no.keys.zip no.items).take i) nv).kind, .int .i64 (eR ((no.keys.zip no.items).take i) nv).num, .string (eR ((no.keys.zip no.items).take i) nv).text, .slice Ew (eR ((no.keys.zip no.items).take i) nv).keys.length ew, .slice Fw (eR ((no.keys.zip no.items).take i) nv).items.length fw] 25::HA.blk b4 [.int .i64 0, .int .i64 0, .string ⟨#[]⟩, .slice none 0 0, .slice none 0 0] 25::HA.blk b3 [.int .i64 no.kind, .int .i64 no.num, .string no.text, .slice A11 no.keys.length m11, .slice B11 no.items.length d11] 25::HA.blk b2 [.int .i64 v.kind, .int .i64 v.num, .string v.text, .slice A1 v.keys.length c1, .slice A2 v.items.length c2] 25::[]) (fun(⟨i,Ew,ew,Fw,fw⟩:Nat×Option Addr×Nat×Option Addr×Nat)=> .val (.agg #[.int .i64 (eR ((no.keys.zip no.items).take i) nv).kind, .int .i64 (eR ((no.keys.zip no.items).take i) nv).num, .string (eR ((no.keys.zip no.items).take i) nv).text, .slice Ew (eR ((no.keys.zip no.items).take i) nv).keys.length ew, .slice Fw (eR ((no.keys.zip no.items).take i) nv).items.length fw]) (eR ((no.keys.zip no.items).take i) nv):: .strs (.slice A11 no.keys.length m11) no.keys:: .vals (.slice B11 no.items.length d11) no.items:: .val (.agg #[.int .i64 no.kind, .int .i64 no.num, .string no.text, .slice A11 no.keys.length m11, .slice B11 no.items.length d11]) no::[]) (fun(⟨i,Ew,ew,Fw,fw⟩:Nat×Option Addr×Nat×Option Addr×Nat)=>no.keys.length - i) (0,A9,m9,B9,d9) bg (eC Z (eN _)) Z Z ?_ (eC Z (eC Z (eC Z (eC Z (eC Z (eN _))))))
 intro ⟨i,Ew,ew,Fw,fw⟩ hI K hK
 change Run _ _ _ _ _ [(15,_),(14,_),(13,_),(5,_),(4,_),(3,_)] [_,_,_,_] [_,_,_,_]
 have hi:i≤no.keys.length:=hI
 have hwl:=Ey (l:=(no.keys.zip no.items).take i) hlv
 have hwe:=HP (l:=(no.keys.zip no.items).take i) hlv
 have htl:((no.keys.zip no.items).take i).length≤i:=by rw [List.length_take];omega
 refine rO 3 Z (yL Z Z Z ?_)
 refine oR 2 Z (zI Z (fun h16=>?_) (fun h16=>?_))
 ·refine rO 8 Z (xS 1 cV Z Z Z Z h16 ?_)
  have hlt:i<no.items.length:=by omega
  have hp:(no.keys.zip no.items)[i]? =some (no.keys[i],no.items[i]):=by rw [List.getElem?_zip_eq_some];exact⟨List.getElem?_eq_getElem h16,List.getElem?_eq_getElem hlt⟩
  refine zA (yR dO Z Z (fun _ h=>xO h (j:=1) Z (List.getElem?_eq_getElem h16)) ?_)
  refine oR 5 Z (yW yM ?_)
  refine zO (tP 1 Z cF (zP Z) ?_)
  refine tP 2 Z cF (zZ yX Z) (tP 4 Z cF (zP Z) ?_)
  refine yF (tM 0 Z cF (vD 0 Z cM Z) ?_)
  refine tM 3 Z cF (yT 2 c7 Z Z Z) (tM 5 Z cF (wJ 2 cX Z Z Z hlt) ?_)
  refine f3 2 Z (List.getElem?_eq_getElem hlt) (fun vs26 hl26=>?_)
  refine yF (tM 6 Z cF (vN 0 hl26 cM Z Z) ?_)
  refine zS 7 aD ?_
  refine zT (I2:=[[],[],[],[]]) Z cF aD (fun Kd hKd=>?_)
  refine yE Z Z Z (R3 (eR ((no.keys.zip no.items).take i) nv) (no.items[i]'hlt) (no.keys[i]'h16) _ _ aC hwe (hksz _ (List.getElem_mem h16))) aB (fun u27 D27 hv27=>?_)
  rw [CH hp]at hv27
  obtain⟨A27,m27,B27,d27,rfl,rfl⟩:=hv27
  refine hKd _ _ _ (zE (zE (zE (zE (zU))))) (zS 8 aD ?_)
  refine zT (I2:=[[],[],[],[]]) Z cF aD (fun Kd hKd=>?_)
  refine zG 0 (M':=[HA.blk _ [_,_,_,_,_] _,_,_,_]) Z Z Z Z co Z Z Z (hKd _ _ _ (zE (zE (zE (zE (zU))))) ?_)
  refine yJ aD (rK 0 [15,14,13,5,4,3] Z Z ?_)
  refine rO 3 Z (zN Z Z aC ?_)
  refine oR 3 Z ?_
  exact kQ (hK (i+1,_,_,_,_) bW (by show no.keys.length - (i+1)<no.keys.length - i;omega)) (eC Z (eC Z (eC Z (eC Z (eC Z (eC Z (eN _))))))) (hD:=(cd 0 Z sQ))
 obtain rfl:i=no.keys.length:=by omega
 have hfin:eR ((no.keys.zip no.items).take no.keys.length) nv=copiedV v o:=by
  rw [List.take_of_length_le (by rw [List.length_zip];omega),hnv,hno]
  rfl
 refine rO 4 Z (zK 0 Z cM Z Z ?_)
 refine zA (zG 1 (M':=[_,HA.blk _ [_,_,_,_,_] _,_,_]) Z Z Z Z co Z Z Z ?_)
 refine yO ?_
 exact vM 1 Tryz.results37 Z Z cM ⟨rfl,Ew,ew,Fw,fw,by rw [←hfin],by rw [←hfin]⟩ nS (cO 0 Z)
theorem c38(fb:Addr)(v o:V)(x y:Value)(hv:eM v)(ho:eM o)(hc:eM (copiedV v o)):CtR Tryz.prog 38 #[x,y] [.val x v, .val y o, .tab,yd fb] (RH (wr (copiedV v o))):=by
 refine Ct.of_run (args:=[x,y]) Tryz.func38 aF Z Tryz.ntmps38 Z (fun c=>?_)
 refine yN 0 Z (fun A1 c1 A2 c2 hx hsz1 hk1 hk2 hi1 hi2=>?_)
 subst hx
 refine yN 3 Z (fun A3 c3 A4 c4 hx hsz3 hk3 hk4 hi3 hi4=>?_)
 subst hx
 refine rO 3 Z (yK Z Z Z (fun b2=>?_))
 refine zA (yK Z Z Z (fun b3=>?_))
 refine zA (yA Jl Z (fun b4=>?_))
 change cG _ _ _ _ _ _ _ _ (HA.blk _ [_,_,_,_,_,_] _::_) _
 refine oR 2 Z (yW yM ?_)
 refine tM 0 Z cF (vD 2 Z cM Z) (tM 2 Z cF (vD 1 Z cM Z) ?_)
 refine zS 1 aD ?_
 refine zT (I2:=[[2]]) Z cF aD (fun Kd hKd=>?_)
 refine tB (M1:=[]) Z Z Z (c57 (yd fb) false v _ (.inl (Nj fb)) hv.1 hv.2) Z aU (fun u8 M8 D8 hv8=>?_)
 obtain⟨b8,G8,mb8,es8,ck8,rfl,rfl,rfl,hU8,hO8,hN8⟩:=hv8
 refine hKd _ _ _ (hC (zU)) (zS 3 aD ?_)
 refine zT (I2:=[[]]) Z cF aD (fun Kd hKd=>?_)
 refine tB (M1:=[]) Z Z Z (c57 (yd fb) false o _ (.inl (Nj fb)) ho.1 ho.2) Z aU (fun u10 M10 D10 hv10=>?_)
 obtain⟨b10,G10,mb10,es10,ck10,rfl,rfl,rfl,hU10,hO10,hN10⟩:=hv10
 refine hKd _ _ _ (zE (zU)) (zO ?_)
 refine tP 4 Z cF (yP Z) (tP 5 Z cF (yP Z) ?_)
 refine yJ aD (rO 6 Z ?_)
 refine rW n8 Z Z (oS 2 Z ?_)
 refine wL (s:=13) Z (rfl) (oO 3 Z ?_)
 refine rW n8 Z Z (oK 3 [16,6,5,4] Z Z ?_)
 refine rS 8 Z (Ky (fun hnd=>?_))
 have hg10:=lF hnd
 have hg8:=lF (List.nodup_append.1 (List.nodup_append.1 hnd).2.1).2.1
 obtain⟨σ8,hσ8⟩:=GOk.ex hg8
 obtain⟨σ10,hσ10⟩:=GOk.ex hg10
 obtain⟨f8,⟨cs0,hat8⟩,_⟩:=(tO G8 v b8).1 hU8
 obtain⟨f10,⟨cs1,hat10⟩,_⟩:=(tO G10 o b10).1 hU10
 have hf8:=(hσ8.2 b8 f8).1 ⟨cs0,hat8⟩
 have hf10:=(hσ10.2 b10 f10).1 ⟨cs1,hat10⟩
 obtain⟨cs8,R8,hp8,hR8⟩:=hσ8.split hf8
 obtain⟨cs10,R10,hp10,hR10⟩:=hσ10.split hf10
 refine Ee (K4 hp8 hp10) (mY (.flds mb10 cs10 f10) (fun w ok h=>(dget h 0 Z:(DA.graph mb10 G10).p w ok) _ (hp10.mem_iff.2 List.mem_cons_self)) ?_)
 refine mY (.flds mb8 cs8 f8) (fun w ok h=>(dget h 2 Z:(DA.graph mb8 G8).p w ok) _ (hp8.mem_iff.2 List.mem_cons_self)) (zA ?_)
 refine tB (M1:=[_,_]) Z Z Z (R0 b8 b10 mb8 mb10 cs8 cs10 f8 f10) Z (dP 0 1 Z Z) (fun u20 M20 D20 hv20=>?_)
 obtain⟨rfl,cs20,rfl,rfl⟩:=hv20
 have hunf:=yr hσ8 hR8 hv ho hU8 hf8 hU10 (fun f2 hf2=>Option.some.inj (((hσ10.2 b10 f2).1 hf2).symm.trans hf10)) cs20
 have hunf2:Unf ((b8,cs20,JB f8 f10)::(R8++(b10,cs10,f10)::R10)) (copiedV v o) b8:=Unf.mono (fun g hg=>by
  rcases List.mem_cons.1 hg with e|e
  ·exact List.mem_cons.2 (.inl e)
  ·refine List.mem_cons.2 (.inr ?_)
   rcases List.mem_append.1 e with e|e
   ·exact List.mem_append_left _ e
   ·exact List.mem_append_right _ (hp10.mem_iff.1 e)) _ _ hunf
 refine Ee (E0 (f1:=JB f8 f10) (f2:=f10)) (Ez 0 0 Z (fun w ok h g hg=>?_) Z ?_)
 ·have h8:(DA.graph mb8 G8).p w ok:=dget h 4 rfl
  have h10:(DA.graph mb10 G10).p w ok:=dget h 3 rfl
  rcases List.mem_cons.1 hg with e|e
  ·rw [e];exact⟨mb8,(dget h 0 rfl:(DA.flds mb8 cs20 (JB f8 f10)).p w ok)⟩
  ·rcases List.mem_append.1 e with e|e
   ·exact⟨mb8,h8 g (hp8.mem_iff.2 (List.mem_cons_of_mem _ e))⟩
   ·exact⟨mb10,h10 g (hp10.mem_iff.2 e)⟩
 refine oO 6 Z ?_
 refine yE Z Z Z (c60 fb 0 _ (copiedV v o) b8 hunf2 hc.1 hc.2) aU (fun u22 D22 hv22=>?_)
 obtain⟨A22,m22,B22,d22,rfl,rfl⟩:=hv22
 refine zA (zG 2 (M':=[_,_,HA.blk _ [_,_,_,_,_,_] _,_,_]) Z Z Z Z Jk Z Z Z ?_)
 refine yO ?_
 refine yD (M':=[HA.blk b4 [_,_,_,_,_,_] 34]) (by repeat (first|exact zQ _|refine zB 0 Z ?_|refine zB 1 Z ?_|refine zB 2 Z ?_|refine zB 3 Z ?_|refine zB 4 Z ?_|refine zB 5 Z ?_)) ?_
 exact vM 0 Tryz.results38 Z Z MT ⟨rfl,_,_,_,_,rfl,rfl⟩ nS (cO 0 Z)
theorem vx{z:V}{key:ByteArray}(h:z.keys.length≤z.items.length):(0≤dL z.keys key)↔(getV z key).isSome=true:=by
 rcases sO z.keys key with h1|⟨i,h1,h2⟩
 ·rw [li aC,h1];simp
 ·rw [fF h1 aC,h1];simp
def PE(b:UInt8):Prop:=(97≤b.toNat∧b.toNat≤122)∨(65≤b.toNat∧b.toNat≤90)∨(48≤b.toNat∧b.toNat≤57)
def yt(s:ByteArray):Prop:=(∀ j (h:j<s.size),PE s[j])∧s≠⟨#[]⟩
theorem yu{p:UInt8→Prop}{s:ByteArray}{i:Nat}(h: ∀ j (h:j<s.size),j<i→p s[j])(hi:i<s.size)(h0:p s[i]): ∀ j (h:j<s.size),j<i+1→p s[j]:=fun j hj hlt=>by
  rcases Nat.lt_or_ge j i with h1|h1
  · exact h j hj h1
  · have:j=i:=by omega
    subst this
    exact h0

theorem c113(s:ByteArray)(hs:s.size≤maxLen):di Tryz.prog 113 #[.string s] [] (.bool (tb (yt s))):=by
 refine Ct.of_run (args:=[.string s]) Tryz.func113 aF Z Tryz.ntmps113 Z (fun c=>?_)
 unfold maxLen at hs
 refine rK 12 [3,0] Z Z ?_
 refine xX 1 (fun(i:Nat)=>i≤s.size∧ ∀ j (h:j<s.size),j<i→PE s[j]) (fun(i:Nat)=>[(3, .int .i64 ((i:Nat):Int))]) (fun(i:Nat)=>s.size - i) 0 (⟨aC,fun _ _ h=>absurd h aC⟩) (eC Z (eN _)) ?_ (eC Z (eN _))
 intro i hI K hK
 change Run _ _ _ _ _ [(3,_),(0,_)] _ _
 obtain⟨hi,hno⟩:=hI
 refine rO 8 Z (xF eL Z Z ?_)
 refine zA (yL Z Z Z ?_)
 refine yO (zI Z (fun h8=>?_) (fun h8=>?_))
 ·refine rO 10 Z (vT eL Z Z Z aC ?_)
  refine oO 8 Z (wI Z Z Z ?_)
  refine oS 2 Z (zW (s:=16) Z (fun h16=>?_) (fun h16=>?_))
  ·refine oO 9 Z (wI Z Z Z ?_)
   refine oS 2 Z (zW (s:=23) Z (fun h23=>?_) (fun h23=>?_))
   ·refine oO 11 Z (wI Z Z Z ?_)
    refine oS 2 Z (zW (s:=31) Z (fun h31=>?_) (fun h31=>?_))
    ·refine oK 7 [35,3,0] Z Z (rR 6 Z ?_)
     exact zD Tryz.results113 Z ⟨yI aN,rfl,rfl⟩ nS (fun _ h=>by cases h)
    refine oO 3 Z (wO Z Z Z ?_)
    refine oK 5 [35,3,0] Z Z (yC Z (fun h35=>?_) (fun h35=>?_))
    ·refine rR 5 Z ?_
     exact zD Tryz.results113 Z ⟨yI aN,rfl,rfl⟩ nS (fun _ h=>by cases h)
    refine rO 6 Z (zN Z Z aC ?_)
    refine oR 3 Z ?_
    exact kQ (hK (i+1) (⟨aC,yu hno (hi:=h8) aX⟩) aC)
   refine oO 3 Z (wO Z Z Z ?_)
   refine oS 6 Z (zW (s:=28) Z (fun h28=>?_) (fun h28=>?_))
   ·refine oO 3 Z (wI Z Z Z ?_)
    refine oS 2 Z (zW (s:=31) Z (fun h31=>?_) (fun h31=>?_))
    ·refine oK 7 [35,3,0] Z Z (rR 6 Z ?_)
     exact zD Tryz.results113 Z ⟨yI aN,rfl,rfl⟩ nS (fun _ h=>by cases h)
    refine oO 3 Z (wO Z Z Z ?_)
    refine oK 5 [35,3,0] Z Z (yC Z (fun h35=>?_) (fun h35=>?_))
    ·refine rR 5 Z ?_
     exact zD Tryz.results113 Z ⟨yI aN,rfl,rfl⟩ nS (fun _ h=>by cases h)
    refine rO 6 Z (zN Z Z aC ?_)
    refine oR 3 Z ?_
    exact kQ (hK (i+1) (⟨aC,yu hno (hi:=h8) aX⟩) aC)
   refine oS 3 Z (yH Z Z Z ?_)
   refine yH Z Z Z (oK 4 [35,3,0] Z Z ?_)
   refine rO 7 Z (zN Z Z aC ?_)
   refine oR 3 Z ?_
   exact kQ (hK (i+1) (⟨aC,yu hno (hi:=h8) aX⟩) aC)
  refine oO 3 Z (wO Z Z Z ?_)
  refine oS 4 Z (zW (s:=20) Z (fun h20=>?_) (fun h20=>?_))
  ·refine oO 3 Z (wI Z Z Z ?_)
   refine oS 2 Z (zW (s:=23) Z (fun h23=>?_) (fun h23=>?_))
   ·refine oO 11 Z (wI Z Z Z ?_)
    refine oS 2 Z (zW (s:=31) Z (fun h31=>?_) (fun h31=>?_))
    ·refine oK 7 [35,3,0] Z Z (rR 6 Z ?_)
     exact zD Tryz.results113 Z ⟨yI aN,rfl,rfl⟩ nS (fun _ h=>by cases h)
    refine oO 3 Z (wO Z Z Z ?_)
    refine oK 5 [35,3,0] Z Z (yC Z (fun h35=>?_) (fun h35=>?_))
    ·refine rR 5 Z ?_
     exact zD Tryz.results113 Z ⟨yI aN,rfl,rfl⟩ nS (fun _ h=>by cases h)
    refine rO 6 Z (zN Z Z aC ?_)
    refine oR 3 Z ?_
    exact kQ (hK (i+1) (⟨aC,yu hno (hi:=h8) aX⟩) aC)
   refine oO 3 Z (wO Z Z Z ?_)
   refine oS 6 Z (zW (s:=28) Z (fun h28=>?_) (fun h28=>?_))
   ·refine oO 3 Z (wI Z Z Z ?_)
    refine oS 2 Z (zW (s:=31) Z (fun h31=>?_) (fun h31=>?_))
    ·refine oK 7 [35,3,0] Z Z (rR 6 Z ?_)
     exact zD Tryz.results113 Z ⟨yI aN,rfl,rfl⟩ nS (fun _ h=>by cases h)
    refine oO 3 Z (wO Z Z Z ?_)
    refine oK 5 [35,3,0] Z Z (yC Z (fun h35=>?_) (fun h35=>?_))
    ·refine rR 5 Z ?_
     exact zD Tryz.results113 Z ⟨yI aN,rfl,rfl⟩ nS (fun _ h=>by cases h)
    refine rO 6 Z (zN Z Z aC ?_)
    refine oR 3 Z ?_
    exact kQ (hK (i+1) (⟨aC,yu hno (hi:=h8) aX⟩) aC)
   refine oS 3 Z (yH Z Z Z ?_)
   refine yH Z Z Z (oK 4 [35,3,0] Z Z ?_)
   refine rO 7 Z (zN Z Z aC ?_)
   refine oR 3 Z ?_
   exact kQ (hK (i+1) (⟨aC,yu hno (hi:=h8) aX⟩) aC)
  refine oS 3 Z (yH Z Z Z ?_)
  refine yH Z Z Z (oS 8 Z ?_)
  refine yH Z Z Z (yH Z Z Z ?_)
  refine oK 4 [35,3,0] Z Z (rO 7 Z ?_)
  refine zN Z Z aC (oR 3 Z ?_)
  exact kQ (hK (i+1) (⟨aC,yu hno (hi:=h8) aX⟩) aC)
 refine rO 6 Z (iq Z Z Z ?_)
 refine oR 3 Z ?_
 exact zD Tryz.results113 Z ⟨yI (by simp only [decide_eq_true_eq,yt];exact⟨fun h=>⟨fun j hj=>hno j hj aC,h⟩,fun h=>h.2⟩),rfl,rfl⟩ nS (fun _ h=>by cases h)
end Go.Jw

namespace Go.Jw
open Go Go.RowKit
abbrev kHash:ByteArray:=⟨#[35]⟩
abbrev RI:ByteArray:=⟨#[47]⟩
abbrev kDefs:ByteArray:=⟨#[100,101,102,105,110,105,116,105,111,110,115]⟩
abbrev kProps:ByteArray:=⟨#[112,114,111,112,101,114,116,105,101,115]⟩
def MK(base part:ByteArray):ByteArray:=base++RI++part++RI
def Fu(ref base part:ByteArray):ByteArray:=ref.extract (MK base part).size ref.size
def Nw(ref base part:ByteArray):Prop:=(MK base part).size<ref.size∧ref.extract 0 (MK base part).size=MK base part∧yt (Fu ref base part)
def nO(id:ByteArray):List (ByteArray×ByteArray):=[(kHash,kDefs),(kHash,kProps),(id,kDefs),(id,kProps)]
noncomputable def s7(v:V):ByteArray:=((getV v kId).getD zV).text
noncomputable def eU(id ref:ByteArray):Option (ByteArray×ByteArray):=(nO id).find? (fun p=>tb (Nw ref p.1 p.2))
noncomputable def sa(id ref:ByteArray):Value:=match eU id ref with
  |some p=> .tuple #[.string p.2, .string (Fu ref p.1 p.2), .bool true]
  |none=> .tuple #[.string ⟨#[]⟩, .string ⟨#[]⟩, .bool false]
theorem E1{id base part:ByteArray}{i j:Nat}(hb:[kHash,id][i]? =some base)(hp:[kDefs,kProps][j]? =some part):(nO id)[2*i+j]? =some (base,part)∧i<2∧j<2:=by
  match i,j,hb,hp with
  |0,0,hb,hp=>cases hb;cases hp;exact⟨rfl,aC,aC⟩
  |0,1,hb,hp=>cases hb;cases hp;exact⟨rfl,aC,aC⟩
  |1,0,hb,hp=>cases hb;cases hp;exact⟨rfl,aC,aC⟩
  |1,1,hb,hp=>cases hb;cases hp;exact⟨rfl,aC,aC⟩
  |_+2,_,hb,hp=>simp at hb
  |0,_+2,hb,hp=>simp at hp
  |1,_+2,hb,hp=>simp at hp
def NoHead(id ref:ByteArray)(m:Nat):Prop:= ∀ q,q<m→ ∀ p,(nO id)[q]? =some p→ ¬ Nw ref p.1 p.2
theorem NoHead.zero(id ref:ByteArray):NoHead id ref 0:=fun q hq=>absurd hq (Nat.not_lt_zero _)
theorem NoHead.step{id ref:ByteArray}{m:Nat}{p:ByteArray×ByteArray}(h:NoHead id ref m)(hp:(nO id)[m]? =some p)(hn: ¬ Nw ref p.1 p.2):NoHead id ref (m+1):=fun q hq p' hp'=>by
  rcases Nat.lt_or_ge q m with h1|h1
  · exact h q h1 p' hp'
  · have:q=m:=by omega
    subst this
    rw [hp]at hp'
    cases hp'
    exact hn
theorem nP{α:Type}{p:α→Bool}: ∀ {l:List α} {m:Nat} {x:α},(∀ q,q<m→ ∀ y,l[q]? =some y→p y=false)→l[m]? =some x→p x=true→l.find? p=some x
  |[],m,x,_,h,_=>by simp at h
  |y::l,0,x,_,h,hx=>by
    have:y=x:=by simpa using h
    subst this
    simp [hx]
  |y::l,m+1,x,hno,h,hx=>by
    have hy:p y=false:=hno 0 (Nat.succ_pos _) y rfl
    rw [List.find?_cons,hy]
    exact nP (m:=m) (fun q hq z hz=>hno (q+1) (Nat.succ_lt_succ hq) z (by simpa using hz)) cA hx
theorem CI{id ref:ByteArray}{m:Nat}{p:ByteArray×ByteArray}(h:NoHead id ref m)(hp:(nO id)[m]? =some p)(hm:Nw ref p.1 p.2):eU id ref=some p:=
 nP (fun q hq y hy=>tb_f (h q hq y hy)) hp (df hm)
theorem CJ{id ref:ByteArray}(h:NoHead id ref 4):eU id ref=none:=by
 unfold eU
 rw [List.find?_eq_none]
 intro p hp
 obtain⟨q,hq⟩:=List.getElem?_of_mem hp
 have hlt:q<4:=by
  have:=(List.getElem?_eq_some_iff.1 hq).1
  simpa [nO]using this
 rw [tb_f (h q hlt p hq)]
 decide
end Go.Jw

namespace Go.Jw
open Go Go.RowKit Go.Proofs
set_option maxRecDepth 8000
section rules
variable {P:Program} {n:Nat} {F:List Nat} {c:Ctx F} {ops:Array Oper} {d:Option Tmp} {op:Op} {T:TypeId} {l:List Oper} {k:List KI} {Q:cu} {e:dF} {M:List HA} {D:List DA}
theorem pZ(i:Nat){b:Nat}{s t:ByteArray}{E:TypeId}(hi:M[i]? =some (.blk b [.string s, .string t] E))(hF:F=[])(h1:s.size≤maxLen)(h2:t.size≤maxLen)(next:cG P n c ops l k Q e (M.eraseIdx i) (.strs (.slice (some ⟨b,0,none⟩) 2 2) [s,t]::D)):cG P n c ops l k Q e M D:=
  fC (h:= .blk b [.string s, .string t] E) [.strs (.slice (some ⟨b,0,none⟩) 2 2) [s,t]] (fun x _ h=>by rw [hF]at h;cases h) (wQ hi) (fun w ok h hok hD d hd=>by
    rcases List.mem_singleton.1 hd with rfl
    refine⟨some ⟨b,0,none⟩,2,rfl,Nat.le_refl _,by decide,fun x hx=>?_,fun q x hx=>⟨⟨b,0,none⟩,rfl,hok _ br,?_⟩⟩
    · rcases List.mem_cons.1 hx with rfl|hx
      · exact h1
      · rw [List.mem_singleton.1 hx];exact h2
    · rw [wB,vL h,Nat.zero_add,Nat.mul_one]
      match q,hx with
      |0,hx=>cases hx;rfl
      |1,hx=>cases hx;rfl
      |_+2,hx=>simp at hx) next
end rules
theorem jw{v:V}(h:Pl v):v.text.size≤200:=by
  obtain⟨d,h⟩:=h
  have h0:(⟨#[]⟩:ByteArray).size≤200:=by decide
  have key:dJ v.kind v.num v.text v.keys v.items→v.text.size≤200:=fun h=>by
    rcases h.2.2 with h|h|h|h|h
    · rw [h.2.2];exact h0
    · rw [h.2.2];exact h0
    · rw [h.2.2.2];exact h0
    · rw [h.2.2.2.2];exact h0
    · exact h.2.2.2
  cases d with
  |zero=>exact key h
  |succ d=>
    rcases h with h|h
    · exact key h
    · rw [h.1.2.1];exact h0
theorem HR{v:V}(hp:Pl v):((getV v kId).getD zV).text.size≤200:=by
  cases hg:getV v kId with
  |none=>show zV.text.size≤200;decide
  |some a=>exact jw (hp.item _ (vX hg))

theorem AY{α:Type}{a b x:α}{i:Nat}(h:[a,b][i]? =some x):x=a∨x=b:=by have:=List.mem_of_getElem? h;simpa using this
theorem R5(v:V)(x:Value)(ref:ByteArray)(hp:Pl v)(hrf:ref.size≤maxLen):di Tryz.prog 72 #[x, .string ref] [.val x v] (sa (s7 v) ref):=by
 refine Ct.of_run (args:=[x, .string ref]) Tryz.func72 aF Z Tryz.ntmps72 Z (fun c=>?_)
 refine yN 0 Z (fun A1 c1 A2 c2 hx hsz1 hk1 hk2 hi1 hi2=>?_)
 subst hx
 have hlen:=hp.wf.le
 unfold maxLen at hrf
 refine rO 3 Z (yK Z Z Z (fun b2=>?_))
 refine oO 10 Z (zK 0 Z cM Z Z ?_)
 refine zA ?_
 refine yE Z Z Z (oE _ v kId hlen) aA (fun u16 D16 hv16=>?_)
 obtain⟨idv,hidv⟩: ∃z,z=(getV v kId).getD zV:=⟨_,rfl⟩
 rw [←hidv]at hv16
 obtain⟨_,rfl,A16,m16,B16,d16,rfl,rfl⟩:=hv16
 refine oO 7 Z (yA dE Z (fun b7=>?_))
 change cG _ _ _ _ _ _ _ _ (HA.blk _ [_,_,_,_,_] _::_) _
 refine zA (zG 0 (M':=[HA.blk _ [_,_,_,_,_] _,_]) Z Z Z Z co Z Z Z ?_)
 refine oK 3 [7,1] Z Z (rO 4 Z ?_)
 refine zC tE Z Z (zA ?_)
 refine zF 0 dO Z Z Z Z (zA ?_)
 have hidz:idv.text.size≤200:=hidv▸HR hp
 refine vA cV Z Z Z Z Z (fun b21=>?_)
 refine pZ 0 Z Z aE bZ (zA ?_)
 refine zX cV Z Z (oK 4 [23,22,21,1] Z Z ?_)
 refine xX 1 (fun(i:Nat)=>i≤2∧NoHead idv.text ref (2*i)) (fun(i:Nat)=>[(23, .int .i64 ((i:Nat):Int))]) (fun(i:Nat)=>2 - i) 0 (⟨aC,NoHead.zero _ _⟩) (eC Z (eN _)) ?_ (eC Z (eC Z (eC Z (eN _))))
 intro i hI K hK
 change Run _ _ _ _ _ [(23,_),(22,_),(21,_),(1,_)] _ _
 obtain⟨hi,hno⟩:=hI
 refine rO 3 Z (yL Z Z Z ?_)
 refine oR 2 Z (zI Z (fun h24=>?_) (fun h24=>?_))
 ·refine rO 6 Z ?_
  obtain⟨base,hb⟩: ∃base,[kHash,idv.text][i]? =some base:=⟨_,List.getElem?_eq_getElem (show i<[kHash,idv.text].length from h24)⟩
  have hbz:base.size≤200:=(AY hb).elim (fun e=>e▸by decide) (fun e=>e▸hidz)
  refine xS 0 cV Z Z Z Z h24 (zA ?_)
  refine yR dO Z Z (fun _ h=>xO h (j:=0) Z hb) (oO 6 Z ?_)
  refine vA cV Z Z Z Z Z (fun b27=>?_)
  refine pZ 0 Z Z aE aE (zA ?_)
  refine zX cV Z Z (oK 4 [29,28,27,10,23,22,21,1] Z Z ?_)
  refine xX 1 (fun(j:Nat)=>j≤2∧NoHead idv.text ref (2*i+j)) (fun(j:Nat)=>[(29, .int .i64 ((j:Nat):Int))]) (fun(j:Nat)=>2 - j) 0 (⟨aC,hno⟩) (eC Z (eN _)) ?_ (eC Z (eC Z (eC Z (eC Z (eC Z (eC Z (eC Z (eN _))))))))
  intro j hI K hK1
  change Run _ _ _ _ _ [(29,_),(28,_),(27,_),(10,_),(23,_),(22,_),(21,_),(1,_)] _ _
  obtain⟨hj,hnoj⟩:=hI
  refine rO 3 Z (yL Z Z Z ?_)
  refine oR 2 Z (zI Z (fun h30=>?_) (fun h30=>?_))
  ·refine rO 6 Z ?_
   obtain⟨part,hpt⟩: ∃part,[kDefs,kProps][j]? =some part:=⟨_,List.getElem?_eq_getElem (show j<[kDefs,kProps].length from h30)⟩
   obtain⟨hh,_,_⟩:=E1 hb hpt
   have hpz:part.size≤11:=(AY hpt).elim (fun e=>e▸by decide) (fun e=>e▸by decide)
   refine xS 0 cV Z Z Z Z h30 (zA ?_)
   refine yR dO Z Z (fun _ h=>xO h (j:=0) Z hpt) (oO 8 Z ?_)
   refine qd Z Z Z (by show base.size+1≤_;omega) (oO 3 Z ?_)
   refine qd Z Z Z (by rw [ByteArray.size_append];show base.size+1+part.size≤_;omega) (zA ?_)
   refine qd Z Z Z (by rw [ByteArray.size_append,ByteArray.size_append];show base.size+1+part.size+1≤_;omega) (oK 3 [13,12,29,28,27,10,23,22,21,1] Z Z ?_)
   refine rO 5 Z (xF eL Z Z ?_)
   refine oO 3 Z (xF eL Z Z ?_)
   refine zA (sM Z Z Z ?_)
   refine oS 2 Z (zW (s:=43) Z (fun h43=>?_) (fun h43=>?_))
   ·refine oO 5 Z (xF eL Z Z ?_)
    refine zH Z Z (ny eL Z Z Z aC ?_)
    refine oS 8 Z (zW (s:=51) Z (fun h51=>?_) (fun h51=>?_))
    ·refine oO 5 Z (xF eL Z Z ?_)
     refine zH Z Z (iD eL Z Z Z aC ?_)
     refine zH Z Z (zL Z Z Z (c113 _ (by rw [ByteArray.size_extract];unfold maxLen;omega)) cQ ?_)
     refine oK 3 [57,13,12,29,28,27,10,23,22,21,1] Z Z (yC Z (fun h57=>?_) (fun h57=>?_))
     ·refine xD (yW yM ?_)
      refine zO (tP 0 Z cF (zP Z) ?_)
      refine tP 1 Z cF (zP Z) (tP 2 Z cF (zP Z) ?_)
      refine tP 5 Z cF (yP Z) (yF ?_)
      refine tM 3 Z cF (gW eL Z) (tM 4 Z cF (iE eL Z Z aC) ?_)
      refine zO (tP 6 Z cF (yP Z) ?_)
      refine tP 7 Z cF (yP Z) (yJ aD ?_)
      refine rK 0 [6,5,4] Z Z ?_
      exact pC Tryz.results72 Z Z Z ⟨by unfold sa s7;rw [←hidv,CI hnoj hh ⟨(by unfold MK;omega),h51,yS.1 h57⟩];rfl,rfl,rfl⟩ nS (fun _ h=>by cases h)
     refine rO 4 Z (zN Z Z aC ?_)
     refine oR 3 Z ?_
     exact kQ (hK1 (j+1) (⟨aC,hnoj.step hh (fun hm=>Bool.noConfusion ((df hm.2.2).symm.trans h57))⟩) aC)
    refine oK 8 [57,13,12,29,28,27,10,23,22,21,1] Z Z (rO 5 Z ?_)
    refine zN Z Z aC (oR 3 Z ?_)
    exact kQ (hK1 (j+1) (⟨aC,hnoj.step hh (fun hm=>h51 hm.2.1)⟩) aC)
   refine oK 18 [57,13,12,29,28,27,10,23,22,21,1] Z Z (rO 5 Z ?_)
   refine zN Z Z aC (oR 3 Z ?_)
   exact kQ (hK1 (j+1) (⟨aC,hnoj.step hh (fun hm=>absurd hm.1 (by unfold MK;omega))⟩) aC)
  refine rO 4 Z (zN Z Z aC ?_)
  refine oR 3 Z ?_
  exact kQ (hK (i+1) (⟨aC,(by have e:j=2:=aC;subst e;exact hnoj)⟩) aC)
 refine rR 10 Z ?_
 obtain rfl:i=2:=by omega
 exact pC Tryz.results72 Z Z Z ⟨by unfold sa s7;rw [←hidv,CJ hno],rfl,rfl⟩ nS (fun _ h=>by cases h)
theorem QK(v:V)(x:Value)(ref:ByteArray)(hp:Pl v)(hrf:ref.size≤maxLen):CtR Tryz.prog 72 #[x, .string ref] [.val x v] (fun u D'=> ∃part nm ok,u= .tuple #[.string part, .string nm, .bool ok]∧D'=[]∧(ok=true→ ∃p,eU (s7 v) ref=some p∧part=p.2∧nm=Fu ref p.1 p.2)∧(ok=false→eU (s7 v) ref=none)):=
  (R5 v x ref hp hrf).mono (fun u M' D' ⟨h1,h2,h3⟩=>⟨h2,by
    subst h1
    unfold sa
    cases hh:eU (s7 v) ref with
    |none=>exact⟨_,_,false,rfl,h3,fun h=>Bool.noConfusion h,fun _=>rfl⟩
    |some p=>exact⟨_,_,true,rfl,h3,fun _=>⟨p,rfl,rfl,rfl⟩,fun h=>Bool.noConfusion h⟩⟩)
noncomputable def PtV(v:V)(ref:ByteArray):Option V:=(eU (s7 v) ref).bind fun p=>(getV v p.2).bind fun all=>getV all (Fu ref p.1 p.2)
theorem Nx(key:ByteArray):getV zV key=none:=by
  cases h:getV zV key with
  |none=>rfl
  |some a=>have:=vX h;cases this
theorem RJ(v:V)(x:Value)(ref:ByteArray)(hp:Pl v)(hrf:ref.size≤maxLen):CtR Tryz.prog 35 #[x, .string ref] [.val x v] (fun u D'=> ∃y,u= .tuple #[y, .bool (PtV v ref).isSome]∧RV ((PtV v ref).getD zV) y D'):=by
 refine Ct.of_run (args:=[x, .string ref]) Tryz.func35 aF Z Tryz.ntmps35 Z (fun c=>?_)
 refine yN 0 Z (fun A1 c1 A2 c2 hx hsz1 hk1 hk2 hi1 hi2=>?_)
 subst hx
 have hlen:=hp.wf.le
 refine rO 3 Z (yK Z Z Z (fun b2=>?_))
 refine zA (yA dE Z (fun b4=>?_))
 change cG _ _ _ _ _ _ _ _ (HA.blk _ [_,_,_,_,_] _::_) _
 refine oO 6 Z (zK 1 Z cM Z Z ?_)
 refine oO 3 Z ?_
 refine yE Z Z Z (QK v _ ref hp hrf) aA (fun u14 D14 hv14=>?_)
 obtain⟨part,nm,ok,rfl,rfl,hyes,hnone⟩:=hv14
 refine oK 15 [8,7,6,4,2] Z Z (rR 8 Z ?_)
 refine yC Z (fun h19=>?_) (fun h19=>?_)
 ·refine rO 3 Z (yV Z Z (Jt ..) ?_)
  refine zA (zG 0 (M':=[HA.blk _ [_,_,_,_,_] _,_]) Z Z Z Z co Z Z Z ?_)
  refine oR 3 Z ?_
  have hpt:PtV v ref=none:=by unfold PtV;rw [hnone (by simpa using h19)];rfl
  refine yD (M':=[HA.blk b4 [_,_,_,_,_] 25]) (by repeat (first|exact zQ _|refine zB 0 Z ?_|refine zB 1 Z ?_|refine zB 2 Z ?_|refine zB 3 Z ?_|refine zB 4 Z ?_)) ?_
  refine yZ (.val (.agg #[.int .i64 0, .int .i64 0, .string ⟨#[]⟩, .slice none 0 0, .slice none 0 0]) zV) (fun w ok _=>tj w ok) ?_
  exact vI 0 Tryz.results35 Z Z Z cM ⟨rfl, .agg #[.int .i64 0, .int .i64 0, .string ⟨#[]⟩, .slice none 0 0, .slice none 0 0],by rw [hpt];rfl,by rw [hpt];exact⟨none,0,none,0,rfl,rfl⟩⟩ nS (cO 0 Z)
 refine rO 4 Z (zK 1 Z cM Z Z ?_)
 refine oO 3 Z ?_
 refine yE Z Z Z (oE _ v part hlen) aA (fun u24 D24 hv24=>?_)
 obtain⟨all,hall⟩: ∃z,z=(getV v part).getD zV:=⟨_,rfl⟩
 have hal:all.keys.length≤all.items.length:=by
  cases hg:getV v part with
  |none=>rw [hall,hg];exact Nat.le_refl _
  |some a=>rw [hall,hg];exact(hp.item _ (vX hg)).wf.le
 rw [←hall]at hv24
 obtain⟨_,rfl,A24,m24,B24,d24,rfl,rfl⟩:=hv24
 refine oO 7 Z (yA dE Z (fun b9=>?_))
 change cG _ _ _ _ _ _ _ _ (HA.blk _ [_,_,_,_,_] _::_) _
 refine zA (zG 0 (M':=[HA.blk _ [_,_,_,_,_] _,_,_]) Z Z Z Z co Z Z Z ?_)
 refine oK 3 [9,7,4] Z Z (rO 3 Z ?_)
 refine zK 0 Z cM Z Z (oO 3 Z ?_)
 refine yE Z Z Z (oE _ all nm hal) aA (fun u29 D29 hv29=>?_)
 obtain⟨_,rfl,A29,m29,B29,d29,rfl,rfl⟩:=hv29
 refine oO 5 Z (zG 1 (M':=[_,HA.blk _ [_,_,_,_,_] _,_]) Z Z Z Z co Z Z Z ?_)
 refine oR 3 Z ?_
 obtain⟨p,hp1,rfl,rfl⟩:=hyes (by simpa using h19)
 have hpt:PtV v ref=getV all (Fu ref p.1 p.2):=by
  unfold PtV
  rw [hp1]
  show(getV v p.2).bind (fun a=>getV a _)=_
  cases hg:getV v p.2 with
  |none=>rw [hall,hg];exact(Nx _).symm
  |some a=>rw [hall,hg];rfl
 refine yD (M':=[HA.blk b4 [_,_,_,_,_] 25]) (by repeat (first|exact zQ _|refine zB 0 Z ?_|refine zB 1 Z ?_|refine zB 2 Z ?_|refine zB 3 Z ?_|refine zB 4 Z ?_)) ?_
 exact vI 0 Tryz.results35 Z Z Z cM ⟨rfl, .agg #[.int .i64 ((getV all (Fu ref p.1 p.2)).getD zV).kind, .int .i64 ((getV all (Fu ref p.1 p.2)).getD zV).num, .string ((getV all (Fu ref p.1 p.2)).getD zV).text, .slice A29 ((getV all (Fu ref p.1 p.2)).getD zV).keys.length m29, .slice B29 ((getV all (Fu ref p.1 p.2)).getD zV).items.length d29],by rw [hpt];rfl,by rw [hpt];exact⟨A29,m29,B29,d29,rfl,rfl⟩⟩ nS aA
end Go.Jw

namespace Go.Jw
open Go Go.RowKit Go.Proofs
abbrev JS:=Nat→Option (Bool×Nat)
def JX(x:Option Nat)(o:Bool)(st:Int):Prop:=match x with
  |none=>o=true
  |some k=>o=false∧st=(k:Int)
def JQ{α:Type}(r:Option (α×Nat))(a:α)(o:Bool)(st:Int):Prop:=match r with
  |none=>o=true
  |some (b,k)=>a=b∧o=false∧st=(k:Int)
def eo{α:Type}(f:JS)(g:Bool→α→α)(σ:Option (α×Nat)):Option (α×Nat):=σ.bind fun q=>(f q.2).map fun r=>(g r.1 q.1,r.2)
def sd(f:JS)(σ:Option (Bool×Nat)):Option (Bool×Nat):=eo f (fun b a=>b && a) σ
def cx{α:Type}(f:α→JS)(l:List α)(σ:Option (Bool×Nat)):Option (Bool×Nat):=l.foldl (fun σ a=>sd (f a) σ) σ
def dh{α:Type}(f:α→JS)(l:List α)(σ:Option (Nat×Nat)):Option (Nat×Nat):=l.foldl (fun σ a=>eo (f a) (fun b n=>if b=true then n+1 else n) σ) σ
theorem JQ.x{α:Type}{r:Option (α×Nat)}{a:α}{o:Bool}{st:Int}(h:JQ r a o st):JX (r.map (·.2)) o st:=by
  cases r with
  |none=>exact h
  |some q=>exact h.2
theorem JQ.of{α:Type}{x:Option Nat}{o:Bool}{st:Int}(h:JX x o st)(a:α):JQ (x.map fun k=>(a,k)) a o st:=by
  cases x with
  |none=>exact h
  |some k=>exact⟨rfl,h⟩
theorem JQ.step{α:Type}{σ:Option (α×Nat)}{a:α}{o o' b:Bool}{st st':Int}{f:JS}(g:Bool→α→α)(h:JQ σ a o st)(h':JQ ((σ.map (·.2)).bind f) b o' st'):JQ (eo f g σ) (g b a) o' st':=by
  cases σ with
  |none=>exact h'
  |some q=>
    obtain⟨rfl,h1,h2⟩:=h
    show JQ ((f q.2).map _) _ _ _
    have h':JQ (f q.2) b o' st':=h'
    cases hf:f q.2 with
    |none=>rw [hf]at h';exact h'
    |some r=>rw [hf]at h';exact⟨by rw [h'.1],h'.2⟩
theorem CK{α:Type}(f:α→JS)(l:List α)(σ:Option (Bool×Nat)){i:Nat}{a:α}(h:l[i]? =some a):cx f (l.take (i+1)) σ=sd (f a) (cx f (l.take i) σ):=by
 unfold cx
 rw [List.take_add_one,h,List.foldl_append]
 rfl
theorem CL{α:Type}(f:α→JS)(l:List α)(σ:Option (Nat×Nat)){i:Nat}{a:α}(h:l[i]? =some a):dh f (l.take (i+1)) σ=eo (f a) (fun b n=>if b=true then n+1 else n) (dh f (l.take i) σ):=by
 unfold dh
 rw [List.take_add_one,h,List.foldl_append]
 rfl
def iL(f:JS):Prop:= ∀ k r,f k=some r→r.2≤k

def eI(v:V):Prop:=v.kind=2∨v.kind=6
def eV(v:V):Int:=if v.kind=6 then v.num else 4*v.num
abbrev yv:ByteArray:=⟨#[110,117,108,108]⟩
abbrev yw:ByteArray:=⟨#[98,111,111,108,101,97,110]⟩
abbrev E2:ByteArray:=⟨#[105,110,116,101,103,101,114]⟩
abbrev E3:ByteArray:=⟨#[110,117,109,98,101,114]⟩
abbrev E4:ByteArray:=⟨#[115,116,114,105,110,103]⟩
abbrev E5:ByteArray:=⟨#[97,114,114,97,121]⟩
abbrev E6:ByteArray:=⟨#[111,98,106,101,99,116]⟩
def nQ(s:ByteArray):Prop:=s=yv∨s=yw∨s=E2∨s=E3∨s=E4∨s=E5∨s=E6
def IsOf(v:V)(s:ByteArray):Prop:=(s=yv∧v.kind=0)∨(s=yw∧v.kind=1)∨(s=E2∧v.kind=2)∨(s=E3∧eI v)∨(s=E4∧v.kind=3)∨(s=E5∧v.kind=4)∨(s=E6∧v.kind=5)
def cb(own:V):List ByteArray:=if own.kind=4 then own.items.map V.text else [own.text]
open Classical in
noncomputable def HS(own v:V):JS:=fun k=>if ∀ s∈cb own,nQ s then some (decide (∃s∈cb own,IsOf v s),k)else none
def ip(p t:ByteArray):JS:=fun k=>if(Mt p t).2=true then some ((Mt p t).1,k)else none
noncomputable def lQ(s:V)(key:ByteArray)(own v:V):Bool:=
 if key=k7 then tb (eV v<eV own∨(eV v=eV own∧((getV s k8).getD zV).num=0))
 else if key=k9 then tb (eV v>eV own∨(eV v=eV own∧((getV s k10).getD zV).num=0))
 else if key=k6 then tb (eV own≠0∧(eV v).tmod (eV own)=0)else true
noncomputable def oF(key:ByteArray)(own v:V):Bool:=
 if key=k11 then tb ((v.text.size:Int)≤own.num)else if key=PD then tb (own.num≤(v.text.size:Int))else true
def dI(A:V→V→JS)(own v:V):JS:=if own.kind=1 then(fun k=>some (decide (own.num=1),k))else A own v
noncomputable def K5(own v:V):Bool:=tb (¬ (own.num=1∧ ∃(i j:Nat) (a:V),j<i∧v.items[i]? =some a∧v.items[j]? =some a))
noncomputable def gq(A:V→V→JS)(s:V)(key:ByteArray)(own v:V):JS:=fun k=>
 if key=MC then some (tb ((v.items.length:Int)≤own.num),k)
 else if key=MD then some (tb (own.num≤(v.items.length:Int)),k)
 else if key=ME then some (K5 own v,k)
 else if key=k15 then cx (fun p:V×V=>A p.1 p.2) (if own.kind=4 then own.items.zip v.items else v.items.map fun x=>(own,x)) (some (true,k))
 else if key=k14 then(if((getV s k15).getD zV).kind≠4 then some (true,k)else cx (fun x=>dI A own x) (v.items.drop ((getV s k15).getD zV).items.length) (some (true,k)))
 else some (true,k)
def ej(name:ByteArray):List ByteArray→JS
  |[],k=>some (false,k)
  |p::ps,k=>(ip p name k).bind fun r=>if r.1=true then some (true,r.2)else ej name ps r.2
noncomputable def eZ(A:V→V→JS)(v:V)(p:ByteArray×V):JS:=fun k=>match getV v p.1 with
  |some x=>A p.2 x k
  |none=>some (true,k)
def yx(A:V→V→JS)(p q:ByteArray×V):JS:=fun k=>(ip p.1 q.1 k).bind fun r=>if r.1=true then A p.2 q.2 r.2 else some (true,r.2)
noncomputable def wq(A:V→V→JS)(s own:V)(q:ByteArray×V):JS:=fun k=>
 if(getV ((getV s k23).getD zV) q.1).isSome=true then some (true,k)
 else(ej q.1 ((getV s k24).getD zV).keys k).bind fun r=>if r.1=true then some (true,r.2)else dI A own q.2 r.2
abbrev dw(v:V)(name:ByteArray):Prop:=0≤dL v.keys name
noncomputable def ig(A:V→V→JS)(s:V)(key:ByteArray)(own v:V):JS:=fun k=>
 if key=CW then some (tb ((v.keys.length:Int)≤own.num),k)
 else if key=Df then some (tb (own.num≤(v.keys.length:Int)),k)
 else if key=Fr then some (tb (∀ x∈own.items,dw v x.text),k)
 else if key=k23 then cx (eZ A v) (own.keys.zip own.items) (some (true,k))
 else if key=k24 then(own.keys.zip own.items).foldl (fun σ p=>cx (yx A p) (v.keys.zip v.items) σ) (some (true,k))
 else if key=k22 then cx (wq A s own) (v.keys.zip v.items) (some (true,k))
 else if key=MF then some (tb (∀ p∈own.keys.zip own.items,dw v p.1→ ∀ x∈p.2.items,dw v x.text),k)
 else some (true,k)
open Classical in
noncomputable def ec(A:V→V→JS)(s:V)(key:ByteArray)(own v:V):JS:=fun k=>
 if key=Ba then(if v.kind≠3 then some (true,k)else ip own.text v.text k)
 else if key=Dg then HS own v k
 else if key=Fs then some (tb (v∈own.items),k)
 else if key=GN then(dh (fun x=>A x v) own.items (some (0,k))).map fun r=>(decide (r.1=own.items.length),r.2)
 else if key=Ip then(dh (fun x=>A x v) own.items (some (0,k))).map fun r=>(decide (0<r.1),r.2)
 else if key=J3 then(dh (fun x=>A x v) own.items (some (0,k))).map fun r=>(decide (r.1=1),r.2)
 else if key=MG then(A own v k).map fun r=>(!r.1,r.2)
 else if eI v then some (lQ s key own v,k)
 else if v.kind=3 then some (oF key own v,k)
 else if v.kind=4 then gq A s key own v k
 else if v.kind=5 then ig A s key own v k
 else some (true,k)
noncomputable def dW(w:V):Nat→V→V→JS
  |0,_,_=>fun _=>none
  |n+1,s,v=>fun k=>if k=0 then none else match getV s k3 with
    |some r=>(match PtV w r.text with
      |none=>none
      |some t=>dW w n t v (k - 1))
    |none=>cx (fun p:ByteArray×V=>ec (dW w n) s p.1 p.2 v) (s.keys.zip s.items) (some (true,k - 1))
end Go.Jw

namespace Go.Jw
open Go Go.RowKit Go.Proofs
set_option maxRecDepth 8000
theorem Ny(v:V):IsOf v yv↔v.kind=0:=⟨fun h=>by unfold IsOf at h;rcases h with ⟨e,h⟩|⟨e,h⟩|⟨e,h⟩|⟨e,h⟩|⟨e,h⟩|⟨e,h⟩|⟨e,h⟩<;>first|exact h|exact absurd e aE,fun h=>by unfold IsOf;simp [h]⟩
theorem Nz(v:V):IsOf v yw↔v.kind=1:=⟨fun h=>by unfold IsOf at h;rcases h with ⟨e,h⟩|⟨e,h⟩|⟨e,h⟩|⟨e,h⟩|⟨e,h⟩|⟨e,h⟩|⟨e,h⟩<;>first|exact h|exact absurd e aE,fun h=>by unfold IsOf;simp [h]⟩
theorem N0(v:V):IsOf v E2↔v.kind=2:=⟨fun h=>by unfold IsOf at h;rcases h with ⟨e,h⟩|⟨e,h⟩|⟨e,h⟩|⟨e,h⟩|⟨e,h⟩|⟨e,h⟩|⟨e,h⟩<;>first|exact h|exact absurd e aE,fun h=>by unfold IsOf;simp [h]⟩
theorem N1(v:V):IsOf v E3↔eI v:=⟨fun h=>by unfold IsOf at h;rcases h with ⟨e,h⟩|⟨e,h⟩|⟨e,h⟩|⟨e,h⟩|⟨e,h⟩|⟨e,h⟩|⟨e,h⟩<;>first|exact h|exact absurd e aE,fun h=>by unfold IsOf;simp [h]⟩
theorem N2(v:V):IsOf v E4↔v.kind=3:=⟨fun h=>by unfold IsOf at h;rcases h with ⟨e,h⟩|⟨e,h⟩|⟨e,h⟩|⟨e,h⟩|⟨e,h⟩|⟨e,h⟩|⟨e,h⟩<;>first|exact h|exact absurd e aE,fun h=>by unfold IsOf;simp [h]⟩
theorem N3(v:V):IsOf v E5↔v.kind=4:=⟨fun h=>by unfold IsOf at h;rcases h with ⟨e,h⟩|⟨e,h⟩|⟨e,h⟩|⟨e,h⟩|⟨e,h⟩|⟨e,h⟩|⟨e,h⟩<;>first|exact h|exact absurd e aE,fun h=>by unfold IsOf;simp [h]⟩
theorem N4(v:V):IsOf v E6↔v.kind=5:=⟨fun h=>by unfold IsOf at h;rcases h with ⟨e,h⟩|⟨e,h⟩|⟨e,h⟩|⟨e,h⟩|⟨e,h⟩|⟨e,h⟩|⟨e,h⟩<;>first|exact h|exact absurd e aE,fun h=>by unfold IsOf;simp [h]⟩
theorem E7{s own v:V}{key:ByteArray}(h:key=k7):lQ s key own v=tb (eV v<eV own∨(eV v=eV own∧((getV s k8).getD zV).num=0)):=if_pos h
theorem E8{s own v:V}{key:ByteArray}(h1: ¬ key=k7)(h:key=k9):lQ s key own v=tb (eV v>eV own∨(eV v=eV own∧((getV s k10).getD zV).num=0)):=(if_neg h1).trans (if_pos h)
theorem JC{s own v:V}{key:ByteArray}(h1: ¬ key=k7)(h2: ¬ key=k9)(h:key=k6):lQ s key own v=tb (eV own≠0∧(eV v).tmod (eV own)=0):=(if_neg h1).trans ((if_neg h2).trans (if_pos h))
theorem N5{s own v:V}{key:ByteArray}(h1: ¬ key=k7)(h2: ¬ key=k9)(h: ¬ key=k6):lQ s key own v=true:=(if_neg h1).trans ((if_neg h2).trans (if_neg h))
theorem K6{v:V}(h:Pl v): -1000000000<v.num∧v.num<1000000000:=by
  obtain⟨d,h⟩:=h
  have key:dJ v.kind v.num v.text v.keys v.items→ -1000000000<v.num∧v.num<1000000000:=fun h=>by
    rcases h.2.2 with h|h|h|h|h<;>omega
  cases d with
  |zero=>exact key h
  |succ d=>
    rcases h with h|h
    · exact key h
    · have:=h.1.1;omega
theorem se{v:V}(h:Pl v): ∀ k∈v.keys,k.size≤200:=by
  have key:dJ v.kind v.num v.text v.keys v.items→ ∀ k∈v.keys,k.size≤200:=fun h k hk=>by rw [h.1]at hk;cases hk
  obtain⟨d,h⟩:=h
  cases d with
  |zero=>exact key h
  |succ d=>
    rcases h with h|h
    · exact key h
    · intro k hk
      rcases h.1.2.2 with e|e
      · rw [e.2]at hk;cases hk
      · obtain⟨i,hi,rfl⟩:=List.getElem_of_mem hk
        exact(e.2.2 i hi).1.2
theorem N6(v:V)(x:Value):di Tryz.prog 192 #[x] [.val x v] (.bool (tb (eI v))):=by
 refine Ct.of_run (args:=[x]) Tryz.func192 aF Z Tryz.ntmps192 Z (fun c=>?_)
 refine yN 0 Z (fun A1 c1 B1 d1 hx hsz1 hk1 hl1 hi1 hj1=>?_)
 subst hx
 refine rO 3 Z (yK Z Z Z (fun b1=>?_))
 refine oO 6 Z (zC wC Z Z ?_)
 refine zA (zF 0 dx Z Z Z Z ?_)
 refine oS 4 Z (zW (s:=6) Z (fun h6=>?_) (fun h6=>?_))
 ·refine oK 8 [2] Z Z ?_
  exact zD Tryz.results192 Z ⟨congrArg Value.bool ((df (.inl h6)).symm),rfl,rfl⟩ nS (fun _ h=>by cases h)
 refine zH Z Z (zC wC Z Z ?_)
 refine zH Z Z (zF 0 dx Z Z Z Z ?_)
 refine oK 7 [2] Z Z ?_
 exact zD Tryz.results192 Z ⟨congrArg Value.bool (fl (by rw [decide_eq_true_iff];exact⟨fun e=> .inr e,fun e=>e.elim (fun e=>absurd e h6) id⟩)),rfl,rfl⟩ nS (fun _ h=>by cases h)
theorem N7(v:V)(x:Value)(hp:Pl v):di Tryz.prog 228 #[x] [.val x v] (.int .i64 (eV v)):=by
 refine Ct.of_run (args:=[x]) Tryz.func228 aF Z Tryz.ntmps228 Z (fun c=>?_)
 refine yN 0 Z (fun A1 c1 B1 d1 hx hsz1 hk1 hl1 hi1 hj1=>?_)
 subst hx
 obtain⟨hn1,hn2⟩:=K6 hp
 refine rO 3 Z (yK Z Z Z (fun b1=>?_))
 refine oO 7 Z (zC wC Z Z ?_)
 refine zA (zF 0 dx Z Z Z Z ?_)
 refine oR 3 Z (zI Z (fun h5=>?_) (fun h5=>?_))
 ·refine rO 3 Z (zC wZ Z Z ?_)
  refine zA (zF 0 dx Z Z Z Z ?_)
  refine oR 3 Z ?_
  exact zD Tryz.results228 Z ⟨congrArg (Value.int .i64) (by unfold eV;rw [if_pos h5]),rfl,rfl⟩ nS (fun _ h=>by cases h)
 refine rO 4 Z (zC wZ Z Z ?_)
 refine zA (zF 0 dx Z Z Z Z ?_)
 refine zA (qc Z Z Z ?_)
 rw [vU aC aC]
 refine oR 3 Z ?_
 exact zD Tryz.results228 Z ⟨congrArg (Value.int .i64) (by unfold eV;rw [if_neg h5]),rfl,rfl⟩ nS (fun _ h=>by cases h)
theorem QL(s:ByteArray):di Tryz.prog 226 #[.string s] [] (.bool (tb (nQ s))):=by
 refine Ct.of_run (args:=[.string s]) Tryz.func226 aF Z Tryz.ntmps226 Z (fun c=>?_)
 refine rR 20 Z (xZ Z (fun h4=>?_) (fun h4=>?_))
 ·refine rR 7 Z ?_
  exact zD Tryz.results226 Z ⟨congrArg Value.bool ((df (.inl h4)).symm),rfl,rfl⟩ nS (fun _ h=>by cases h)
 refine rR 7 Z (xZ Z (fun h4_1=>?_) (fun h4_1=>?_))
 ·refine rR 7 Z ?_
  exact zD Tryz.results226 Z ⟨congrArg Value.bool ((df (.inr (.inl h4_1))).symm),rfl,rfl⟩ nS (fun _ h=>by cases h)
 refine rR 7 Z (xZ Z (fun h4_2=>?_) (fun h4_2=>?_))
 ·refine rR 7 Z ?_
  exact zD Tryz.results226 Z ⟨congrArg Value.bool ((df (.inr (.inr (.inl h4_2)))).symm),rfl,rfl⟩ nS (fun _ h=>by cases h)
 refine rR 7 Z (xZ Z (fun h4_3=>?_) (fun h4_3=>?_))
 ·refine rR 7 Z ?_
  exact zD Tryz.results226 Z ⟨congrArg Value.bool ((df (.inr (.inr (.inr (.inl h4_3))))).symm),rfl,rfl⟩ nS (fun _ h=>by cases h)
 refine rR 7 Z (xZ Z (fun h4_4=>?_) (fun h4_4=>?_))
 ·refine rR 7 Z ?_
  exact zD Tryz.results226 Z ⟨congrArg Value.bool ((df (.inr (.inr (.inr (.inr (.inl h4_4)))))).symm),rfl,rfl⟩ nS (fun _ h=>by cases h)
 refine rR 7 Z (xZ Z (fun h4_5=>?_) (fun h4_5=>?_))
 ·refine rK 7 [2] Z Z ?_
  exact zD Tryz.results226 Z ⟨congrArg Value.bool ((df (.inr (.inr (.inr (.inr (.inr (.inl h4_5))))))).symm),rfl,rfl⟩ nS (fun _ h=>by cases h)
 refine rK 6 [4] Z Z (zI Z (fun h4_6=>?_) (fun h4_6=>?_))
 ·refine rR 5 Z ?_
  exact zD Tryz.results226 Z ⟨congrArg Value.bool ((df (.inr (.inr (.inr (.inr (.inr (.inr (h4_6)))))))).symm),rfl,rfl⟩ nS (fun _ h=>by cases h)
 refine rR 7 Z ?_
 exact zD Tryz.results226 Z ⟨congrArg Value.bool ((tb_f (by unfold nQ;rintro (e|e|e|e|e|e|e)<;>contradiction)).symm),rfl,rfl⟩ nS (fun _ h=>by cases h)
theorem N8(v:V)(x:Value)(s:ByteArray):di Tryz.prog 227 #[x, .string s] [.val x v] (.bool (tb (IsOf v s))):=by
 refine Ct.of_run (args:=[x, .string s]) Tryz.func227 aF Z Tryz.ntmps227 Z (fun c=>?_)
 refine yN 0 Z (fun A1 c1 B1 d1 hx hsz1 hk1 hl1 hi1 hj1=>?_)
 subst hx
 refine rO 3 Z (yK Z Z Z (fun b2=>?_))
 refine oR 17 Z (zI Z (fun h6=>?_) (fun h6=>?_))
 ·refine rO 3 Z (zC wC Z Z ?_)
  refine zA (zF 0 dx Z Z Z Z ?_)
  refine oK 5 [4] Z Z ?_
  exact zD Tryz.results227 Z ⟨congrArg Value.bool (fl (by rw [decide_eq_true_iff,h6];exact(Ny v).symm)),rfl,rfl⟩ nS (fun _ h=>by cases h)
 refine rR 7 Z (zI Z (fun h11=>?_) (fun h11=>?_))
 ·refine rO 3 Z (zC wC Z Z ?_)
  refine zA (zF 0 dx Z Z Z Z ?_)
  refine oK 5 [4] Z Z ?_
  exact zD Tryz.results227 Z ⟨congrArg Value.bool (fl (by rw [decide_eq_true_iff,h11];exact(Nz v).symm)),rfl,rfl⟩ nS (fun _ h=>by cases h)
 refine rR 7 Z (zI Z (fun h16=>?_) (fun h16=>?_))
 ·refine rO 3 Z (zC wC Z Z ?_)
  refine zA (zF 0 dx Z Z Z Z ?_)
  refine oK 5 [4] Z Z ?_
  exact zD Tryz.results227 Z ⟨congrArg Value.bool (fl (by rw [decide_eq_true_iff,h16];exact(N0 v).symm)),rfl,rfl⟩ nS (fun _ h=>by cases h)
 refine rK 7 [21,5,2] Z Z (zI Z (fun h21=>?_) (fun h21=>?_))
 ·refine rO 3 Z (zK 0 Z cM Z Z ?_)
  refine zA (zL Z Z Z (N6 v _) aA ?_)
  refine oR 3 Z ?_
  exact zD Tryz.results227 Z ⟨congrArg Value.bool (by rw [h21];exact sP (N1 v).symm),rfl,rfl⟩ nS (fun _ h=>by cases h)
 refine rR 7 Z (zI Z (fun h25=>?_) (fun h25=>?_))
 ·refine rO 3 Z (zC wC Z Z ?_)
  refine zA (zF 0 dx Z Z Z Z ?_)
  refine oR 5 Z ?_
  exact zD Tryz.results227 Z ⟨congrArg Value.bool (fl (by rw [decide_eq_true_iff,h25];exact(N2 v).symm)),rfl,rfl⟩ nS (fun _ h=>by cases h)
 refine rR 7 Z (zI Z (fun h30=>?_) (fun h30=>?_))
 ·refine rO 3 Z (zC wC Z Z ?_)
  refine zA (zF 0 dx Z Z Z Z ?_)
  refine oK 5 [4] Z Z ?_
  exact zD Tryz.results227 Z ⟨congrArg Value.bool (fl (by rw [decide_eq_true_iff,h30];exact(N3 v).symm)),rfl,rfl⟩ nS (fun _ h=>by cases h)
 refine rR 7 Z (zI Z (fun h35=>?_) (fun h35=>?_))
 ·refine rO 3 Z (zC wC Z Z ?_)
  refine zA (zF 0 dx Z Z Z Z ?_)
  refine oK 5 [4] Z Z ?_
  exact zD Tryz.results227 Z ⟨congrArg Value.bool (fl (by rw [decide_eq_true_iff,h35];exact(N4 v).symm)),rfl,rfl⟩ nS (fun _ h=>by cases h)
 refine rK 7 [4] Z Z ?_
 exact zD Tryz.results227 Z ⟨congrArg Value.bool ((tb_f (by unfold IsOf;rintro (e|e|e|e|e|e|e)<;>exact absurd e.1 (by assumption))).symm),rfl,rfl⟩ nS (fun _ h=>by cases h)
theorem QM(s own v:V)(xs xo xv:Value)(key:ByteArray)(hp:Pl s)(ho:Pl own)(hv:Pl v):di Tryz.prog 193 #[xs, .string key,xo,xv] [.val xs s, .val xo own, .val xv v] (.bool (lQ s key own v)):=by
 refine Ct.of_run (args:=[xs, .string key,xo,xv]) Tryz.func193 aF Z Tryz.ntmps193 Z (fun c=>?_)
 refine yN 0 Z (fun A1 c1 B1 d1 hx hsz1 hk1 hl1 hi1 hj1=>?_)
 subst hx
 refine yN 3 Z (fun A2 c2 B2 d2 hx hsz2 hk2 hl2 hi2 hj2=>?_)
 subst hx
 refine yN 6 Z (fun A3 c3 B3 d3 hx hsz3 hk3 hl3 hi3 hj3=>?_)
 subst hx
 refine rO 3 Z (yK Z Z Z (fun b4=>?_))
 refine zA (yK Z Z Z (fun b6=>?_))
 refine zA (yK Z Z Z (fun b7=>?_))
 refine oR 4 Z (yW yM ?_)
 refine tM 0 Z cF (vD 1 Z cM Z) (tM 2 Z cF (vD 0 Z cM Z) ?_)
 refine zS 1 aD ?_
 refine zT (I2:=[[2]]) Z cF aD (fun Kd hKd=>?_)
 refine zL Z Z Z (N7 own _ ho) aA (hKd _ _ _ (hC (zU)) ?_)
 refine zS 3 aD ?_
 refine zT (I2:=[[]]) Z cF aD (fun Kd hKd=>?_)
 refine zL Z Z Z (N7 v _ hv) aA (hKd _ _ _ (zE (zU)) ?_)
 refine zO (tP 4 Z cF (yP Z) ?_)
 refine tP 5 Z cF (yP Z) (yJ aD ?_)
 refine rK 0 [10,9,4,1] Z Z (rR 14 Z ?_)
 refine zI Z (fun h20=>?_) (fun h20=>?_)
 ·refine rO 3 Z (zK 2 Z cM Z Z ?_)
  refine zA ?_
  refine yE Z Z Z (oE _ s k8 hp.wf.le) aA (fun u24 D24 hv24=>?_)
  obtain⟨_,rfl,A24,m24,B24,d24,rfl,rfl⟩:=hv24
  refine oO 7 Z (yA dE Z (fun b11=>?_))
  change cG _ _ _ _ _ _ _ _ (HA.blk _ [_,_,_,_,_] _::_) _
  refine zA (zG 0 (M':=[HA.blk _ [_,_,_,_,_] _,_,_,_]) Z Z Z Z co Z Z Z ?_)
  refine oK 3 [11,10,9] Z Z (rO 7 Z ?_)
  refine wI Z Z Z (oS 2 Z ?_)
  refine zW (s:=30) Z (fun h30=>?_) (fun h30=>?_)
  ·refine oS 4 Z (yH Z Z Z ?_)
   refine yH Z Z Z (yH Z Z Z ?_)
   refine oK 6 [8] Z Z ?_
   exact zD Tryz.results193 Z ⟨congrArg Value.bool (((df (.inl h30)).symm).trans (E7 h20).symm),rfl,rfl⟩ nS (fun _ h=>by cases h)
  refine oS 8 Z (zW (s:=34) Z (fun h34=>?_) (fun h34=>?_))
  ·refine zH Z Z (zC wZ Z Z ?_)
   refine zH Z Z (zF 0 dx Z Z Z Z ?_)
   refine oK 9 [8] Z Z ?_
   exact zD Tryz.results193 Z ⟨congrArg Value.bool ((fl (by rw [decide_eq_true_iff];exact⟨fun e=> .inr ⟨h34,e⟩,fun e=>e.elim (fun e=>absurd e h30) (fun e=>e.2)⟩)).trans (E7 h20).symm),rfl,rfl⟩ nS (fun _ h=>by cases h)
  refine oK 10 [8] Z Z ?_
  exact zD Tryz.results193 Z ⟨congrArg Value.bool (((tb_f (fun e=>e.elim h30 (fun e=>h34 e.1))).symm).trans (E7 h20).symm),rfl,rfl⟩ nS (fun _ h=>by cases h)
 refine rR 7 Z (zI Z (fun h40=>?_) (fun h40=>?_))
 ·refine rO 3 Z (zK 2 Z cM Z Z ?_)
  refine zA ?_
  refine yE Z Z Z (oE _ s k10 hp.wf.le) aA (fun u44 D44 hv44=>?_)
  obtain⟨_,rfl,A44,m44,B44,d44,rfl,rfl⟩:=hv44
  refine oO 7 Z (yA dE Z (fun b13=>?_))
  change cG _ _ _ _ _ _ _ _ (HA.blk _ [_,_,_,_,_] _::_) _
  refine zA (zG 0 (M':=[HA.blk _ [_,_,_,_,_] _,_,_,_]) Z Z Z Z co Z Z Z ?_)
  refine oK 3 [13,10,9] Z Z (rO 7 Z ?_)
  refine wO Z Z Z (oS 2 Z ?_)
  refine zW (s:=50) Z (fun h50=>?_) (fun h50=>?_)
  ·refine oS 4 Z (yH Z Z Z ?_)
   refine yH Z Z Z (yH Z Z Z ?_)
   refine oK 6 [8] Z Z ?_
   exact zD Tryz.results193 Z ⟨congrArg Value.bool (((df (.inl h50)).symm).trans (E8 h20 h40).symm),rfl,rfl⟩ nS (fun _ h=>by cases h)
  refine oS 8 Z (zW (s:=54) Z (fun h54=>?_) (fun h54=>?_))
  ·refine zH Z Z (zC wZ Z Z ?_)
   refine zH Z Z (zF 0 dx Z Z Z Z ?_)
   refine oK 9 [8] Z Z ?_
   exact zD Tryz.results193 Z ⟨congrArg Value.bool ((fl (by rw [decide_eq_true_iff];exact⟨fun e=> .inr ⟨h54,e⟩,fun e=>e.elim (fun e=>absurd e h50) (fun e=>e.2)⟩)).trans (E8 h20 h40).symm),rfl,rfl⟩ nS (fun _ h=>by cases h)
  refine oK 10 [8] Z Z ?_
  exact zD Tryz.results193 Z ⟨congrArg Value.bool (((tb_f (fun e=>e.elim h50 (fun e=>h54 e.1))).symm).trans (E8 h20 h40).symm),rfl,rfl⟩ nS (fun _ h=>by cases h)
 refine rR 7 Z (zI Z (fun h60=>?_) (fun h60=>?_))
 ·refine rO 5 Z (uG Z Z Z ?_)
  refine oS 2 Z (zW (s:=64) Z (fun h64=>?_) (fun h64=>?_))
  ·refine oO 5 Z (wx Z Z Z h64 ?_)
   refine oK 7 [8] Z Z ?_
   exact zD Tryz.results193 Z ⟨congrArg Value.bool ((fl (by rw [decide_eq_true_iff];exact⟨fun e=>⟨h64,e⟩,fun e=>e.2⟩)).trans (JC h20 h40 h60).symm),rfl,rfl⟩ nS (fun _ h=>by cases h)
  refine oK 9 [8] Z Z ?_
  exact zD Tryz.results193 Z ⟨congrArg Value.bool (((tb_f (fun e=>h64 e.1)).symm).trans (JC h20 h40 h60).symm),rfl,rfl⟩ nS (fun _ h=>by cases h)
 refine rK 7 [8] Z Z ?_
 exact zD Tryz.results193 Z ⟨congrArg Value.bool ((N5 h20 h40 h60).symm),rfl,rfl⟩ nS (fun _ h=>by cases h)
end Go.Jw

namespace Go.Jw
open Go Go.RowKit Go.Proofs
theorem pd{id ref:ByteArray}{p:ByteArray×ByteArray}(h:eU id ref=some p):Nw ref p.1 p.2∧(p.1=kHash∨p.1=id)∧(p.2=kDefs∨p.2=kProps):=by
 have h1:=List.find?_some h
 have h2:=List.mem_of_find?_eq_some h
 refine⟨yS.1 h1,?_⟩
 simp only [nO,List.mem_cons,List.not_mem_nil,or_false]at h2
 rcases h2 with rfl|rfl|rfl|rfl<;>simp
theorem JD{part:ByteArray}(h:part=kDefs∨part=kProps):cH part=9:=by
 rcases h with rfl|rfl<;>decide+kernel
end Go.Jw

namespace Go.Jw
open Go Go.RowKit Go.Proofs
set_option maxRecDepth 8000
theorem HT{w tz:V}{ref:ByteArray}(hw:eM w)(h:PtV w ref=some tz):tz∈lG w:=by
  unfold PtV at h
  cases hh:eU (s7 w) ref with
  |none=>rw [hh]at h;cases h
  |some p=>
    rw [hh,Option.bind_some]at h
    cases ha:getV w p.2 with
    |none=>rw [ha]at h;cases h
    |some all=>
      rw [ha,Option.bind_some]at h
      have h9:=JD (pd hh).2.2
      obtain⟨hpa,hk5,hit⟩:=Eb hw.2 hw.1 h9 ha
      refine rZ hw.1 hw.2.kind ha ?_
      rw [h9,mh (fun y hy=>(hit y hy).1)]
      exact vX h
theorem pe{g:V→V}{x:V}(h5: ∀ z∈x.items,z.kind=5)(name:ByteArray):getV (cJ 9 g x) name=(getV x name).map g:=by
  have e:cJ 9 g x=cY g x:=by simp [cJ]
  rw [e]
  obtain⟨q,m,s,ks,ts⟩:=x
  have h5: ∀ z∈ts,z.kind=5:=h5
  rw [show cY g (.mk q m s ks ts)= .mk q 0 ⟨#[]⟩ ks (ts.map (c8 g))from rfl,AW,AW]
  by_cases hk:dL ks name= -1
  · rw [if_pos hk,if_pos hk]
    rfl
  · rw [if_neg hk,if_neg hk,List.getElem?_map]
    cases h:ts[(dL ks name).toNat]? with
    |none=>rfl
    |some z=>
      simp only [Option.map_some]
      rw [vF (h5 z (List.mem_of_getElem? h))]
theorem map_id{o:Option V}{g:V→V}(h: ∀ x,g x=x):o.map g=o:=by cases o with|none=>rfl|some x=>rw [Option.map_some,h]

theorem nR{v:V}(hs:IsShape v)(hp:Pl v)(key:ByteArray):getV (wr v) key=if da key=true then(getV v key).map (cJ (cH key) wr)else none:=by
 have hpw:=AF hs hp
 rw [jt hpw.wf.le,yf,K0 (((v.keys.zip v.items).filter fun p=>da p.1)) (fun k=>cJ (cH k) wr) key,o9 (v.keys.zip v.items) da key,jt hp.wf.le]
 split<;>rfl
theorem K7{v:V}(h:eM v):eM (wr v):=⟨AF h.2 h.1,vm v h.2 h.1⟩
theorem N9{l:List V}{p:V→Prop}{i:Nat}(h: ∀ j (h:j<l.length),j<i→p l[j])(hi:i<l.length)(h0:p l[i]): ∀ j (h:j<l.length),j<i+1→p l[j]:=fun j hj hlt=>by
  rcases Nat.lt_or_ge j i with h1|h1
  · exact h j hj h1
  · obtain rfl:j=i:=by omega
    exact h0
end Go.Jw

namespace Go.Jw
open Go Go.RowKit Go.Proofs
section rules
variable {P:Program} {n:Nat} {F:List Nat} {c:Ctx F} {ops:Array Oper} {d:Nat} {T:TypeId} {l:List Oper} {k:List KI} {Q:cu} {e:dF} {M:List HA} {D:List DA}
theorem nT{h h':HA}(i:Nat){w:World}(hi:M[i]? =some h)(hw:h.holds w→h'.holds w)(hf:h'.foot=h.foot)(hfit:FitsW c M D w):FitsW c (h'::M.eraseIdx i) D w:=by
 have h1:=hfit.perm (wQ hi)
 refine⟨h1.chg,?_,?_,?_,?_⟩
 ·intro x hx
  rcases List.mem_cons.1 hx with rfl|hx
  ·exact hw (h1.own _ List.mem_cons_self)
  ·exact h1.own x (List.mem_cons_of_mem _ hx)
 ·have:=h1.nodup
  simpa [cP,hf]using this
 ·intro b hb
  exact h1.foot b (by simpa [cP,hf]using hb)
 ·intro x hx
  refine x.mono (fun q hq=>⟨hq.1,hq.2.1,?_⟩) (fun _ _=>rfl) (h1.dat x hx)
  have:=hq.2.2
  simpa [cP,hf]using this
theorem pf{h h':HA}(i:Nat)(hi:M[i]? =some h)(hw: ∀ w,h.holds w→h'.holds w)(hf:h'.foot=h.foot)(next:Run P n c k Q e (h'::M.eraseIdx i) D):Run P n c k Q e M D:=
 fun a w hfit=>next a w (hfit.world (nT i hi (hw w) hf hfit.toFitsW))
end rules
end Go.Jw

namespace Go.Jw
open Go Go.RowKit Go.Proofs
set_option maxRecDepth 8000
def oG:Prop:= ∀ p t:ByteArray,p.size≤200→t.size≤200→di Tryz.prog 225 #[.string p, .string t] [] (.tuple #[.bool (Mt p t).1, .bool (Mt p t).2])
def JR(jb:Nat)(w:V)(Ar Br:Option Addr)(cr dr:Nat)(r:Option (Bool×Nat))(u:Value)(M':List HA)(D':List DA):Prop:=
 ∃b o' st',u= .bool b∧M'=[.blk jb [.int .i64 w.kind, .int .i64 w.num, .string w.text, .slice Ar w.keys.length cr, .slice Br w.items.length dr, .bool o', .int .i64 st'] 131]∧D'=[]∧JQ r b o' st'
theorem JE{x:Option Nat}{o:Bool}{st:Int}(p t:ByteArray)(h:JX x o st):JQ (x.bind (ip p t)) (Mt p t).1 (o|| !(Mt p t).2) st:=by
  cases x with
  |none=>
    have h:o=true:=h
    subst h
    exact rfl
  |some k=>
    obtain⟨rfl,h⟩:=h
    show JQ (ip p t k) _ _ _
    unfold ip
    cases hm:(Mt p t).2 with
    |false=>exact rfl
    |true=>exact⟨rfl,rfl,h⟩
theorem K8{y:Option Nat}{p name:ByteArray}{ps:List ByteArray}{o:Bool}{st:Int}(h:JQ (y.bind (ip p name)) true o st):JQ (y.bind (ej name (p::ps))) true o st:=by
  cases y with
  |none=>exact h
  |some k=>
    have h:JQ (ip p name k) true o st:=h
    show JQ ((ip p name k).bind _) _ _ _
    cases hm:ip p name k with
    |none=>rw [hm]at h;exact h
    |some r=>
      rw [hm]at h
      obtain⟨h1,h2,h3⟩:=h
      show JQ (if r.1=true then _ else _) _ _ _
      rw [if_pos h1.symm]
      exact⟨rfl,h2,h3⟩
theorem K9{y:Option Nat}{p name:ByteArray}{ps:List ByteArray}{o:Bool}{st:Int}(h:JQ (y.bind (ip p name)) false o st):y.bind (ej name (p::ps))=((y.bind (ip p name)).map (·.2)).bind (ej name ps):=by
  cases y with
  |none=>rfl
  |some k=>
    have h:JQ (ip p name k) false o st:=h
    show(ip p name k).bind _=((ip p name k).map _).bind _
    cases hm:ip p name k with
    |none=>rfl
    |some r=>
      rw [hm]at h
      show(if r.1=true then _ else _)=_
      rw [if_neg (by rw [←h.1];decide)]
      rfl
theorem LA{y:Option Nat}{name:ByteArray}{o:Bool}{st:Int}(h:JX y o st):JQ (y.bind (ej name [])) false o st:=by
  cases y with
  |none=>exact h
  |some k=>exact⟨rfl,h⟩
theorem OA{x:Option Nat}{own v:V}{o o' b:Bool}{st:Int}(h:JX x o st)(h1:o'=false→o=false∧ ∀ s∈cb own,nQ s)(h2:o=false→(∀ s∈cb own,nQ s)→o'=false)(h3:b=tb (∃s∈cb own,IsOf v s)):JQ (x.bind (HS own v)) b o' st:=by
  cases x with
  |none=>
    have h:o=true:=h
    show o'=true
    cases ho:o' with
    |true=>rfl
    |false=>have:=(h1 ho).1;rw [h]at this;cases this
  |some k=>
    obtain⟨h,hs⟩:=h
    show JQ (HS own v k) _ _ _
    unfold HS
    by_cases ha: ∀ s∈cb own,nQ s
    · rw [if_pos ha]
      exact⟨by rw [h3];unfold tb;congr,h2 h ha,hs⟩
    · rw [if_neg ha]
      cases ho:o' with
      |true=>exact rfl
      |false=>exact absurd (h1 ho).2 ha
theorem HU{x:Option Nat}{A:V→V→JS}{own v:V}{o:Bool}{st:Int}(h:JX x o st)(h1:own.kind=1):JQ (x.bind (dI A own v)) (decide (own.num=1)) o st:=by
  unfold dI
  rw [if_pos h1]
  cases x with
  |none=>exact h
  |some k=>exact⟨rfl,h⟩
theorem HV{b E:Nat}{v:Value}(w:World)(h:(HA.blk b [v] E).holds w):(HA.row (some ⟨b,0,none⟩) 1 1 E 1 [v]).holds w:=
 ⟨rfl, .inr ⟨b,1, #[v],rfl,Nat.zero_le _,h,Nat.le_refl _,by decide,rfl,rfl⟩⟩
theorem E9{b E:Nat}{v:Value}(w:World)(h:(HA.blk b [v] E).holds w):(HA.row (some ⟨b,0,none⟩) 0 1 E 1 []).holds w:=
 ⟨rfl, .inr ⟨b,1, #[v],rfl,Nat.zero_le _,h,Nat.zero_le _,by decide,rfl,rfl⟩⟩
theorem HW{own:V}(h:Pl own):(cb own).length≤60:=by
 unfold cb
 split
 ·rw [List.length_map];exact h.len
 ·exact(by decide:1≤60)
theorem gu{α:Type}{p:α→Prop}{l:List α}{i:Nat}(hi:i<l.length):(∃s∈l.take (i+1),p s)↔(∃s∈l.take i,p s)∨p l[i]:=by
 rw [List.take_add_one,List.getElem?_eq_getElem hi]
 simp only [List.mem_append,Option.toList_some,List.mem_singleton]
 exact⟨fun⟨s,h,hp⟩=>h.elim (fun h=> .inl ⟨s,h,hp⟩) (fun h=> .inr (h▸hp)),fun h=>h.elim (fun⟨s,h,hp⟩=>⟨s, .inl h,hp⟩) (fun hp=>⟨_, .inr Z,hp⟩)⟩
theorem vK{α:Type}{p:α→Prop}{l:List α}{i:Nat}(hi:i<l.length):(∀ s∈l.take (i+1),p s)↔(∀ s∈l.take i,p s)∧p l[i]:=by
 rw [List.take_add_one,List.getElem?_eq_getElem hi]
 simp only [List.mem_append,Option.toList_some,List.mem_singleton]
 exact⟨fun h=>⟨fun s hs=>h s (.inl hs),h _ (.inr Z)⟩,fun h s hs=>hs.elim (h.1 s) (fun e=>e▸h.2)⟩
def JA(jb:Nat)(w:V)(Ar Br:Option Addr)(cr dr:Nat)(N:Nat)(A:V→V→JS):Prop:=(∀ s v,iL (A s v))∧
 ∀ (s v:V) (xs xv:Value) (o:Bool) (st:Int) (x:Option Nat),Pl s→Pl v→JX x o st→(∀ k,x=some k→k<N)→
  Ct Tryz.prog 115 #[ptr jb,xs,xv] [.blk jb [.int .i64 w.kind, .int .i64 w.num, .string w.text, .slice Ar w.keys.length cr, .slice Br w.items.length dr, .bool o, .int .i64 st] 131]
   [.val xs s, .val xv v, .val (.agg #[.int .i64 w.kind, .int .i64 w.num, .string w.text, .slice Ar w.keys.length cr, .slice Br w.items.length dr]) w] (JR jb w Ar Br cr dr (x.bind (A s v)))
theorem LB(hM:oG)(jb:Nat)(w:V)(Ar Br:Option Addr)(cr dr:Nat)(o:Bool)(st:Int)(p q:ByteArray)(hp:p.size≤200)(hq:q.size≤200)(x:Option Nat)(hx:JX x o st):Ct Tryz.prog 190 #[ptr jb, .string p, .string q] [.blk jb [.int .i64 w.kind, .int .i64 w.num, .string w.text, .slice Ar w.keys.length cr, .slice Br w.items.length dr, .bool o, .int .i64 st] 131] [] (fun u M' D'=> ∃b o',u= .bool b∧M'=[.blk jb [.int .i64 w.kind, .int .i64 w.num, .string w.text, .slice Ar w.keys.length cr, .slice Br w.items.length dr, .bool o', .int .i64 st] 131]∧D'=[]∧JQ (x.bind (ip p q)) b o' st):=by
 refine Ct.of_run (args:=[ptr jb, .string p, .string q]) Tryz.func190 aF Z Tryz.ntmps190 Z (fun c=>?_)
 refine rO 12 Z (zL Z Z Z (hM p q hp hq) cQ ?_)
 refine oK 11 [8,7,0] Z Z (rO 9 Z ?_)
 refine zC rE Z Z (zA ?_)
 refine zF 0 lX Z Z Z Z (oS 2 Z ?_)
 refine zY (s:=20) Z (fun h20=>?_) (fun h20=>?_)
 ·refine oO 7 Z (zC rE Z Z ?_)
  refine zA (zG 0 (M':=[HA.blk _ [_,_,_,_,_,_,_] _]) Z Z Z Z mH Z Z Z ?_)
  refine oK 1 [7] Z Z (rR 7 Z ?_)
  refine yD (M':=[HA.blk jb [_,_,_,_,_,_,_] 131]) (by repeat (first|exact zQ _|refine zB 0 Z ?_|refine zB 1 Z ?_|refine zB 2 Z ?_|refine zB 3 Z ?_|refine zB 4 Z ?_|refine zB 5 Z ?_|refine zB 6 Z ?_|refine zB 7 Z ?_|refine zB 8 Z ?_)) ?_
  exact zD Tryz.results190 Z ⟨_,_,rfl,rfl,rfl,by have:=JE p q hx;rw [show o=true from h20]at this;exact this⟩ (List.Sublist.refl _) (fun _ h=>by cases h)
 refine oO 9 Z (zC rE Z Z ?_)
 refine zA (zG 0 (M':=[HA.blk _ [_,_,_,_,_,_,_] _]) Z Z Z Z mH Z Z Z ?_)
 refine oK 1 [7] Z Z (rR 7 Z ?_)
 refine yD (M':=[HA.blk jb [_,_,_,_,_,_,_] 131]) (by repeat (first|exact zQ _|refine zB 0 Z ?_|refine zB 1 Z ?_|refine zB 2 Z ?_|refine zB 3 Z ?_|refine zB 4 Z ?_|refine zB 5 Z ?_|refine zB 6 Z ?_|refine zB 7 Z ?_|refine zB 8 Z ?_)) ?_
 exact zD Tryz.results190 Z ⟨_,_,rfl,rfl,rfl,by have:=JE p q hx;rw [show o=false from h20]at this;exact this⟩ (List.Sublist.refl _) (fun _ h=>by cases h)
theorem QN(hM:oG)(jb:Nat)(w:V)(Ar Br:Option Addr)(cr dr:Nat)(o:Bool)(st:Int)(s:V)(xs:Value)(name:ByteArray)(hs:Pl s)(hn:name.size≤200)(x:Option Nat)(hx:JX x o st):Ct Tryz.prog 230 #[ptr jb,xs, .string name] [.blk jb [.int .i64 w.kind, .int .i64 w.num, .string w.text, .slice Ar w.keys.length cr, .slice Br w.items.length dr, .bool o, .int .i64 st] 131] [.val xs s] (JR jb w Ar Br cr dr (x.bind (ej name ((getV s k24).getD zV).keys))):=by
 refine Ct.of_run (args:=[ptr jb,xs, .string name]) Tryz.func230 aF Z Tryz.ntmps230 Z (fun c=>?_)
 refine yN 0 Z (fun A1 c1 B1 d1 hx1 hsz1 hk1 hl1 hi1 hj1=>?_)
 subst hx1
 unfold JR
 refine rO 3 Z (yK Z Z Z (fun b4=>?_))
 refine oO 6 Z (zK 0 Z cM Z Z ?_)
 refine zA ?_
 refine yE Z Z Z (oE _ s k24 hs.wf.le) aA (fun u13 D13 hv13=>?_)
 obtain⟨pp,hpp⟩: ∃pp,pp=(getV s k24).getD zV:=⟨_,rfl⟩
 have hpk: ∀ k∈pp.keys,k.size≤200:=by
  rw [hpp]
  cases hg:getV s k24 with
  |none=>intro k hk;cases hk
  |some a=>exact se (hs.item _ (vX hg))
 rw [←hpp]at hv13
 obtain⟨_,rfl,A13,m13,B13,d13,rfl,rfl⟩:=hv13
 refine oO 7 Z (yA dE Z (fun b7=>?_))
 change cG _ _ _ _ _ _ _ _ (HA.blk _ [_,_,_,_,_] _::_) _
 refine zA (zG 0 (M':=[HA.blk _ [_,_,_,_,_] _,_,_]) Z Z Z Z co Z Z Z ?_)
 refine oK 3 [7,0,2] Z Z (rO 4 Z ?_)
 refine zC xM Z Z (zA ?_)
 refine zF 0 dV Z Z Z Z (zA ?_)
 refine zX cV Z Z (oK 4 [19,18,17,0,2] Z Z ?_)
 refine yN 0 Z (fun A3 c3 B3 d3 hx3 hsz3 hk3 hl3 hi3 hj3=>?_)
 cases hx3
 refine tR (D':= .strs (.slice A13 pp.keys.length m13) pp.keys::[]) am (yB 1 (fun(⟨i,o3,y⟩:Nat×Bool×Option Nat)=>i≤pp.keys.length∧JX y o3 st∧x.bind (ej name pp.keys)=y.bind (ej name (pp.keys.drop i))) (fun(⟨i,o3,y⟩:Nat×Bool×Option Nat)=>[(19, .int .i64 ((i:Nat):Int))]) (fun(⟨i,o3,y⟩:Nat×Bool×Option Nat)=>HA.blk b7 [.int .i64 pp.kind, .int .i64 pp.num, .string pp.text, .slice A13 pp.keys.length m13, .slice B13 pp.items.length d13] 25::HA.blk b4 [.int .i64 s.kind, .int .i64 s.num, .string s.text, .slice A1 s.keys.length c1, .slice B1 s.items.length d1] 25::HA.blk jb [.int .i64 w.kind, .int .i64 w.num, .string w.text, .slice Ar w.keys.length cr, .slice Br w.items.length dr, .bool o3, .int .i64 st] 131::[]) (fun(⟨i,o3,y⟩:Nat×Bool×Option Nat)=> .strs (.slice A13 pp.keys.length m13) pp.keys::[]) (fun(⟨i,o3,y⟩:Nat×Bool×Option Nat)=>pp.keys.length - i) (0,o,x) (⟨Nat.zero_le _,hx,rfl⟩) (eC Z (eN _)) Z Z ?_ (eC Z (eC Z (eC Z (eC Z (eN _))))))
 intro ⟨i,o3,y⟩ hI K hK
 change Run _ _ _ _ _ [(19,_),(18,_),(17,_),(0,_),(2,_)] [_,_,_] [_]
 obtain⟨hi,hy,he⟩:=hI
 have hmx:maxLen≤9223372036854775807:=by decide
 refine rO 3 Z (yL Z Z Z ?_)
 refine oR 2 Z (zI Z (fun h20=>?_) (fun h20=>?_))
 ·refine rO 6 Z (xS 0 cV Z Z Z Z h20 ?_)
  refine zA (yR dO Z Z (fun _ h=>xO h (j:=0) Z (List.getElem?_eq_getElem h20)) ?_)
  refine oO 12 Z (yG 2 Z Z Z (LB hM jb w Ar Br cr dr o3 st pp.keys[i] name (hpk _ (List.getElem_mem h20)) hn y hy) Z cQ (fun u26 M26 D26 hv26=>?_))
  obtain⟨b26,o26,rfl,rfl,rfl,hq26⟩:=hv26
  refine yO (yC Z (fun h26=>?_) (fun h26=>?_))
  ·obtain rfl:b26=true:=h26
   refine rK 5 [6] Z Z ?_
   refine yD (M':=[HA.blk jb [_,_,_,_,_,_,_] 131]) (by repeat (first|exact zQ _|refine zB 0 Z ?_|refine zB 1 Z ?_|refine zB 2 Z ?_|refine zB 3 Z ?_|refine zB 4 Z ?_|refine zB 5 Z ?_|refine zB 6 Z ?_|refine zB 7 Z ?_|refine zB 8 Z ?_)) ?_
   exact zD Tryz.results230 Z ⟨_,_,_,rfl,rfl,rfl,by rw [←hpp,he,List.drop_eq_getElem_cons (show i<pp.keys.length from h20)];exact K8 hq26⟩ (List.Sublist.refl _) (fun _ h=>by cases h)
  obtain rfl:b26=false:=by simpa using h26
  refine rO 4 Z (zN Z Z aC ?_)
  refine oK 3 [19,18,17,0,2] Z Z ?_
  exact kQ (hK (i+1,o26,(y.bind (ip pp.keys[i] name)).map (·.2)) (⟨by show i+1≤_;omega,JQ.x hq26,by rw [he,List.drop_eq_getElem_cons (show i<pp.keys.length from h20),K9 hq26]⟩) (by show pp.keys.length - (i+1)<pp.keys.length - i;omega)) (eC Z (eC Z (eC Z (eC Z (eC Z (eN _))))))
 refine rR 6 Z ?_
 refine yD (M':=[HA.blk jb [_,_,_,_,_,_,_] 131]) (by repeat (first|exact zQ _|refine zB 0 Z ?_|refine zB 1 Z ?_|refine zB 2 Z ?_|refine zB 3 Z ?_|refine zB 4 Z ?_|refine zB 5 Z ?_|refine zB 6 Z ?_|refine zB 7 Z ?_|refine zB 8 Z ?_)) ?_
 exact zD Tryz.results230 Z ⟨_,_,_,rfl,rfl,rfl,by rw [←hpp,he,List.drop_of_length_le aC];exact LA hy⟩ (List.Sublist.refl _) (fun _ h=>by cases h)
theorem QO(jb:Nat)(w:V)(Ar Br:Option Addr)(cr dr:Nat)(o:Bool)(st:Int)(own v:V)(xo xv:Value)(ho:Pl own)(x:Option Nat)(hx:JX x o st):Ct Tryz.prog 191 #[ptr jb,xo,xv] [.blk jb [.int .i64 w.kind, .int .i64 w.num, .string w.text, .slice Ar w.keys.length cr, .slice Br w.items.length dr, .bool o, .int .i64 st] 131] [.val xo own, .val xv v] (JR jb w Ar Br cr dr (x.bind (HS own v))):=by
 refine Ct.of_run (args:=[ptr jb,xo,xv]) Tryz.func191 aF Z Tryz.ntmps191 Z (fun c=>?_)
 refine yN 0 Z (fun A1 c1 B1 d1 hx1 hsz1 hk1 hl1 hi1 hj1=>?_)
 subst hx1
 refine yN 3 Z (fun A2 c2 B2 d2 hx2 hsz2 hk2 hl2 hi2 hj2=>?_)
 subst hx2
 unfold JR
 have hil:=ho.len
 have htl:=HW ho
 refine rO 3 Z (yK Z Z Z (fun b4=>?_))
 refine zA (yK Z Z Z (fun b5=>?_))
 refine oO 6 Z (zC tE Z Z ?_)
 refine zA (zF 1 dO Z Z Z Z ?_)
 refine zA (zM cV Z Z Z Z Z (fun b15=>?_))
 refine oO 7 Z (zC wC Z Z ?_)
 refine zA (zF 2 dx Z Z Z Z ?_)
 refine oK 3 [18,7,5,4,0] Z Z (uY [5,0] (fun(⟨A,n,ca⟩:Option Addr×Nat×Nat)=>n=(cb own).length) (fun(⟨A,n,ca⟩:Option Addr×Nat×Nat)=>[(7, .slice A n ca)]) (fun(⟨A,n,ca⟩:Option Addr×Nat×Nat)=>HA.row A n ca 9 1 ((cb own).map Value.string)::HA.blk b5 [.int .i64 v.kind, .int .i64 v.num, .string v.text, .slice A2 v.keys.length c2, .slice B2 v.items.length d2] 25::HA.blk b4 [.int .i64 own.kind, .int .i64 own.num, .string own.text, .slice A1 own.keys.length c1, .slice B1 own.items.length d1] 25::HA.blk jb [.int .i64 w.kind, .int .i64 w.num, .string w.text, .slice Ar w.keys.length cr, .slice Br w.items.length dr, .bool o, .int .i64 st] 131::[]) (fun(⟨A,n,ca⟩:Option Addr×Nat×Nat)=> .val (.agg #[.int .i64 v.kind, .int .i64 v.num, .string v.text, .slice A2 v.keys.length c2, .slice B2 v.items.length d2]) v::[]) ?_ ?_)
 ·intro K hK
  refine zI Z (fun h18=>?_) (fun h18=>?_)
  ·have hJ:= @hK
   refine pf 0 Z E9 Z (rO 5 Z ?_)
   refine ia (h:=0) cV Z Z Z aC aC (oO 6 Z ?_)
   refine zC yX Z Z (zA ?_)
   refine zF 2 c7 Z Z Z Z (zA ?_)
   refine zX cX Z Z (oK 4 [24,7,23,22,5,0] Z Z ?_)
   refine tR (D':= .val (.agg #[.int .i64 v.kind, .int .i64 v.num, .string v.text, .slice A2 v.keys.length c2, .slice B2 v.items.length d2]) v:: .vals (.slice B1 own.items.length d1) own.items::[]) aY (yB 2 (fun(⟨i,A,ca⟩:Nat×Option Addr×Nat)=>i≤own.items.length) (fun(⟨i,A,ca⟩:Nat×Option Addr×Nat)=>[(24, .int .i64 ((i:Nat):Int)),(7, .slice A i ca)]) (fun(⟨i,A,ca⟩:Nat×Option Addr×Nat)=>HA.row A i ca 9 1 ((own.items.take i).map fun x=>Value.string x.text)::HA.blk b5 [.int .i64 v.kind, .int .i64 v.num, .string v.text, .slice A2 v.keys.length c2, .slice B2 v.items.length d2] 25::HA.blk b4 [.int .i64 own.kind, .int .i64 own.num, .string own.text, .slice A1 own.keys.length c1, .slice B1 own.items.length d1] 25::HA.blk jb [.int .i64 w.kind, .int .i64 w.num, .string w.text, .slice Ar w.keys.length cr, .slice Br w.items.length dr, .bool o, .int .i64 st] 131::[]) (fun(⟨i,A,ca⟩:Nat×Option Addr×Nat)=> .val (.agg #[.int .i64 v.kind, .int .i64 v.num, .string v.text, .slice A2 v.keys.length c2, .slice B2 v.items.length d2]) v:: .vals (.slice B1 own.items.length d1) own.items::[]) (fun(⟨i,A,ca⟩:Nat×Option Addr×Nat)=>own.items.length - i) (0,_,_) (Nat.zero_le _) (eC Z (eC Z (eN _))) Z Z ?_ (eC Z (eC Z (eC Z (eC Z (eN _))))))
   intro ⟨i,A,ca⟩ hI K hK
   replace hI:i≤own.items.length:=hI
   change Run _ _ _ _ _ [(24,_),(7,_),(23,_),(22,_),(5,_),(0,_)] [_,_,_,_] [_,_]
   replace hI:i≤own.items.length:=hI
   refine rO 3 Z (yL Z Z Z ?_)
   refine oR 2 Z (zI Z (fun h25=>?_) (fun h25=>?_))
   ·refine rO 6 Z (xC 1 cX Z Z Z Z h25 ?_)
    refine zA (xB 1 cM Z Z Z (List.getElem?_eq_getElem h25) (fun A27 c27 B27 d27=>?_))
    refine zA (yA dE Z (fun b9=>?_))
    change cG _ _ _ _ _ _ _ _ (HA.blk _ [_,_,_,_,_] _::_) _
    refine zA (zG 0 (M':=[HA.blk _ [_,_,_,_,_] _,_,_,_,_]) Z Z Z Z co Z Z Z ?_)
    refine oO 5 Z (zC tE Z Z ?_)
    refine zA (zF 0 dO Z Z Z Z ?_)
    refine zA (zM cV Z Z Z Z Z (fun b31=>?_))
    refine zA ?_
    refine cW 2 0 cV (fun A32 c32=>?_)
    refine oK 3 [7,24,23,22,5,0] Z Z (rO 3 Z ?_)
    refine zN Z Z aC (oR 3 Z ?_)
    refine wS (ys:=(own.items.take (i+1)).map fun x=>Value.string x.text) 2 Z (by rw [List.take_add_one,List.getElem?_eq_getElem h25,List.map_append];rfl) ?_
    exact kQ (hK (i+1,_,_) (bW) an) (eC Z (eC Z (eC Z (eC Z (eC Z (eC Z (eN _))))))) (hD:=aY)
   refine ta Z ?_
   obtain rfl:i=own.items.length:=by omega
   have hty:cb own=own.items.map V.text:=if_pos h18
   refine wS (ys:=(cb own).map Value.string) 0 Z (by rw [hty,List.map_map,List.take_length];rfl) ?_
   exact kQ (hJ (_,_,_) (by show _=_;rw [hty,List.length_map])) (eC Z (eC Z (eC Z (eN _)))) (hD:=aV)
  refine uF ?_
  have hty:cb own=[own.text]:=if_neg h18
  refine pf 0 Z HV Z (wS (ys:=(cb own).map Value.string) 0 Z (by rw [hty];rfl) ?_)
  exact kQ (hK (_,_,_) (by show _=_;rw [hty];rfl)) (eC Z (eC Z (eC Z (eN _)))) (hD:=aV)
 intro ⟨A,n,ca⟩ hI
 replace hI:n=(cb own).length:=hI
 change Run _ _ _ _ _ [(7,_),(5,_),(0,_)] [_,_,_,_] [_]
 subst hI
 refine rO 11 Z (zX cV Z Z ?_)
 refine oK 4 [36,10,35,34,5,0] Z Z ?_
 refine yB 2 (fun(⟨i,g,o3⟩:Nat×Bool×Bool)=>i≤(cb own).length∧g=tb (∃s∈(cb own).take i,IsOf v s)∧(o3=false→o=false∧ ∀ s∈(cb own).take i,nQ s)∧(o=false→(∀ s∈(cb own).take i,nQ s)→o3=false)) (fun(⟨i,g,o3⟩:Nat×Bool×Bool)=>[(36, .int .i64 ((i:Nat):Int)),(10, .bool g)]) (fun(⟨i,g,o3⟩:Nat×Bool×Bool)=>HA.row A (cb own).length ca 9 1 ((cb own).map Value.string)::HA.blk b5 [.int .i64 v.kind, .int .i64 v.num, .string v.text, .slice A2 v.keys.length c2, .slice B2 v.items.length d2] 25::HA.blk b4 [.int .i64 own.kind, .int .i64 own.num, .string own.text, .slice A1 own.keys.length c1, .slice B1 own.items.length d1] 25::HA.blk jb [.int .i64 w.kind, .int .i64 w.num, .string w.text, .slice Ar w.keys.length cr, .slice Br w.items.length dr, .bool o3, .int .i64 st] 131::[]) (fun(⟨i,g,o3⟩:Nat×Bool×Bool)=> .val (.agg #[.int .i64 v.kind, .int .i64 v.num, .string v.text, .slice A2 v.keys.length c2, .slice B2 v.items.length d2]) v::[]) (fun(⟨i,g,o3⟩:Nat×Bool×Bool)=>(cb own).length - i) (0,false,o) (⟨Nat.zero_le _,(tb_f (fun e=>by obtain⟨s,hs,_⟩:=e;cases hs)).symm,fun e=>⟨e,fun s hs=>by cases hs⟩,fun e _=>e⟩) (eC Z (eC Z (eN _))) Z Z ?_ (eC Z (eC Z (eC Z (eC Z (eN _)))))
 intro ⟨i,g,o3⟩ hI K hK1
 change Run _ _ _ _ _ [(36,_),(10,_),(35,_),(34,_),(5,_),(0,_)] [_,_,_,_] [_]
 obtain⟨hi,hg,ho3,ho4⟩:=hI
 refine rO 3 Z (yL Z Z Z ?_)
 refine oR 2 Z (zI Z (fun h37=>?_) (fun h37=>?_))
 ·refine rO 6 Z (o7 0 cV Z Z Z Z h37 ?_)
  refine zA ?_
  refine yR (v:= .string ((cb own)[i]'h37)) dO Z Z (fun _ h=>AG h (i:=0) Z (by rw [List.getElem?_map,List.getElem?_eq_getElem h37];rfl)) ?_
  refine oO 9 Z (zL Z Z Z (QL _) cQ ?_)
  refine oR 3 Z (yC Z (fun h42=>?_) (fun h42=>?_))
  ·have hnt: ¬ nQ (cb own)[i]:=xH.1 (by simpa using h42)
   refine rO 6 Z (zC rE Z Z ?_)
   refine zA (zG 3 (M':=[_,_,_,HA.blk _ [_,_,_,_,_,_,_] _]) Z Z Z Z mH Z Z Z ?_)
   refine oK 1 [12,36,10,35,34,5,0] Z Z (rS 5 Z ?_)
   refine zY (s:=47) Z (fun h47=>?_) (fun h47=>?_)
   ·refine oO 11 Z (zN Z Z aC ?_)
    refine oR 3 Z ?_
    exact kQ (hK1 (i+1,_,true) (⟨by show i+1≤_;omega,(df ((gu h37).2 (.inl (yS.1 (hg▸h47))))).symm,(fun e=>by cases e),fun h0 hall=>absurd ((vK h37).1 hall).2 hnt⟩) ak) (eC Z (eC Z (eC Z (eC Z (eC Z (eC Z (eN _))))))) (hD:=aV)
   refine zH Z Z (zK 1 Z cM Z Z ?_)
   refine oO 3 Z (zL Z Z Z (N8 v _ _) aA ?_)
   refine oO 8 Z (zN Z Z aC ?_)
   refine oR 3 Z ?_
   exact kQ (hK1 (i+1,_,true) (⟨by show i+1≤_;omega,(sP ((gu h37).trans (or_iff_right (xH.1 (hg▸h47))))).symm,(fun e=>by cases e),fun h0 hall=>absurd ((vK h37).1 hall).2 hnt⟩) ak) (eC Z (eC Z (eC Z (eC Z (eC Z (eC Z (eN _))))))) (hD:=aV)
  have hnt:nQ (cb own)[i]:=yS.1 (by simpa using h42)
  refine rS 6 Z (zY (s:=47) Z (fun h47=>?_) (fun h47=>?_))
  ·refine oK 8 [10,36,35,34,5,0] Z Z (rO 3 Z ?_)
   refine zN Z Z aC (oR 3 Z ?_)
   exact kQ (hK1 (i+1,_,o3) (⟨by show i+1≤_;omega,(df ((gu h37).2 (.inl (yS.1 (hg▸h47))))).symm,(fun e=>⟨(ho3 e).1,(vK h37).2 ⟨(ho3 e).2,hnt⟩⟩),fun h0 hall=>ho4 h0 ((vK h37).1 hall).1⟩) ak) (eC Z (eC Z (eC Z (eC Z (eC Z (eC Z (eN _))))))) (hD:=aV)
  refine zH Z Z (zK 1 Z cM Z Z ?_)
  refine oO 3 Z (zL Z Z Z (N8 v _ _) aA ?_)
  refine oK 5 [10,36,35,34,5,0] Z Z (rO 3 Z ?_)
  refine zN Z Z aC (oR 3 Z ?_)
  exact kQ (hK1 (i+1,_,o3) (⟨by show i+1≤_;omega,(sP ((gu h37).trans (or_iff_right (xH.1 (hg▸h47))))).symm,(fun e=>⟨(ho3 e).1,(vK h37).2 ⟨(ho3 e).2,hnt⟩⟩),fun h0 hall=>ho4 h0 ((vK h37).1 hall).1⟩) ak) (eC Z (eC Z (eC Z (eC Z (eC Z (eC Z (eN _))))))) (hD:=aV)
 refine rR 8 Z ?_
 refine yD (M':=[HA.blk jb [_,_,_,_,_,_,_] 131]) (by repeat (first|exact zQ _|refine zB 0 Z ?_|refine zB 1 Z ?_|refine zB 2 Z ?_|refine zB 3 Z ?_|refine zB 4 Z ?_|refine zB 5 Z ?_|refine zB 6 Z ?_|refine zB 7 Z ?_|refine zB 8 Z ?_)) ?_
 exact zD Tryz.results191 Z ⟨_,_,_,rfl,rfl,rfl,OA hx (by intro e;have:=ho3 e;rw [List.take_of_length_le (show(cb own).length≤i by omega)]at this;exact this) (fun h0 hall=>ho4 h0 (by rw [List.take_of_length_le (show(cb own).length≤i by omega)];exact hall)) (by rw [hg,List.take_of_length_le (show(cb own).length≤i by omega)])⟩ (List.Sublist.refl _) (fun _ h=>by cases h)
theorem OB(jb:Nat)(w:V)(Ar Br:Option Addr)(cr dr:Nat)(N:Nat)(A:V→V→JS)(hA:JA jb w Ar Br cr dr N A)(o:Bool)(st:Int)(own v:V)(xo xv:Value)(ho:Pl own)(hv:Pl v)(x:Option Nat)(hx:JX x o st)(hN: ∀ k,x=some k→k<N):Ct Tryz.prog 229 #[ptr jb,xo,xv] [.blk jb [.int .i64 w.kind, .int .i64 w.num, .string w.text, .slice Ar w.keys.length cr, .slice Br w.items.length dr, .bool o, .int .i64 st] 131] [.val xo own, .val xv v, .val (.agg #[.int .i64 w.kind, .int .i64 w.num, .string w.text, .slice Ar w.keys.length cr, .slice Br w.items.length dr]) w] (JR jb w Ar Br cr dr (x.bind (dI A own v))):=by
 refine Ct.of_run (args:=[ptr jb,xo,xv]) Tryz.func229 aF Z Tryz.ntmps229 Z (fun c=>?_)
 refine yN 0 Z (fun A1 c1 B1 d1 hx1 hsz1 hk1 hl1 hi1 hj1=>?_)
 subst hx1
 refine yN 3 Z (fun A2 c2 B2 d2 hx2 hsz2 hk2 hl2 hi2 hj2=>?_)
 subst hx2
 unfold JR
 refine rO 3 Z (yK Z Z Z (fun b4=>?_))
 refine zA (yK Z Z Z (fun b5=>?_))
 refine oO 7 Z (zC wC Z Z ?_)
 refine zA (zF 1 dx Z Z Z Z ?_)
 refine oR 3 Z (zI Z (fun h9=>?_) (fun h9=>?_))
 ·refine rO 3 Z (zC wZ Z Z ?_)
  refine zA (zF 1 dx Z Z Z Z ?_)
  refine oK 5 [6] Z Z ?_
  refine yD (M':=[HA.blk jb [_,_,_,_,_,_,_] 131]) (by repeat (first|exact zQ _|refine zB 0 Z ?_|refine zB 1 Z ?_|refine zB 2 Z ?_|refine zB 3 Z ?_|refine zB 4 Z ?_|refine zB 5 Z ?_|refine zB 6 Z ?_|refine zB 7 Z ?_|refine zB 8 Z ?_)) ?_
  exact zD Tryz.results229 Z ⟨_,_,_,rfl,rfl,rfl,HU hx h9⟩ (List.Sublist.refl _) (fun _ h=>by cases h)
 refine rO 6 Z (zK 1 Z cM Z Z ?_)
 refine zA (zK 0 Z cM Z Z ?_)
 refine zA ?_
 refine yG 2 Z Z Z (hA.2 own v _ _ o st x ho hv hx hN) Z aU (fun u16 M16 D16 hv16=>?_)
 obtain⟨b16,o16,st16,rfl,rfl,rfl,hq16⟩:=hv16
 refine oK 3 [6] Z Z ?_
 refine yD (M':=[HA.blk jb [_,_,_,_,_,_,_] 131]) (by repeat (first|exact zQ _|refine zB 0 Z ?_|refine zB 1 Z ?_|refine zB 2 Z ?_|refine zB 3 Z ?_|refine zB 4 Z ?_|refine zB 5 Z ?_|refine zB 6 Z ?_|refine zB 7 Z ?_|refine zB 8 Z ?_)) ?_
 exact zD Tryz.results229 Z ⟨_,_,_,rfl,rfl,rfl,by unfold dI;rw [if_neg h9];exact hq16⟩ (List.Sublist.refl _) (fun _ h=>by cases h)
end Go.Jw

